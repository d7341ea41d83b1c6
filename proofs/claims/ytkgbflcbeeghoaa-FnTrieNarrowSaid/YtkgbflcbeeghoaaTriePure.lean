/- Ternary search tries as plain data: what the package's functions do, and which words they hold. No Go, no memory. -/
namespace Go.Proofs.Ytkgbflcbeeghoaa.TriePure

abbrev W := List UInt8

inductive T where
  | nil
  | node (c : UInt8) (l m r : T) (v : Int) (ok : Bool)

/-- Words in their order, byte by byte. -/
def lt : W → W → Bool
  | _, [] => false
  | [], _ :: _ => true
  | a :: x, b :: y => if a < b then true else if b < a then false else lt x y

theorem u_lt {a b : UInt8} : a < b ↔ a.toNat < b.toNat := UInt8.lt_iff_toNat_lt
theorem u_eq {a b : UInt8} : a = b ↔ a.toNat = b.toNat := ⟨fun h => by rw [h], fun h => UInt8.toNat_inj.1 h⟩
theorem u_same {a b : UInt8} (h1 : ¬ a < b) (h2 : ¬ b < a) : a = b := by
  rw [u_lt] at h1 h2
  rw [u_eq]
  omega
theorem u_ne {a b : UInt8} (h : a < b) : a ≠ b := fun e => by
  rw [u_lt, e] at h
  omega
theorem u_irr (a : UInt8) : ¬ a < a := fun h => by rw [u_lt] at h; omega
theorem u_tr {a b c : UInt8} (h : a < b) (k : b < c) : a < c := by rw [u_lt] at *; omega
theorem u_as {a b : UInt8} (h : a < b) : ¬ b < a := fun k => by rw [u_lt] at *; omega

theorem lt_irr : ∀ x : W, lt x x = false
  | [] => rfl
  | a :: x => by simp [lt, lt_irr x]
theorem lt_cons (a : UInt8) (x y : W) : lt (a :: x) (a :: y) = lt x y := by simp [lt]
theorem lt_head {a b : UInt8} (h : a < b) (x y : W) : lt (a :: x) (b :: y) = true := by simp [lt, h]
theorem lt_head' {a b : UInt8} (h : a < b) (x y : W) : lt (b :: y) (a :: x) = false := by simp [lt, h, u_as h]
theorem lt_nil (x : W) : lt x [] = false := by cases x <;> rfl
theorem lt_tot : ∀ x y : W, lt x y = false → x ≠ y → lt y x = true
  | [], [], _, h => absurd rfl h
  | [], _ :: _, h, _ => by simp [lt] at h
  | _ :: _, [], _, _ => rfl
  | a :: x, b :: y, h, hne => by
    by_cases c : a < b
    · rw [lt_head c] at h; cases h
    · by_cases d : b < a
      · exact lt_head d y x
      · have e := u_same c d
        subst e
        rw [lt_cons] at h ⊢
        exact lt_tot x y h (fun e => hne (by rw [e]))
theorem lt_tr : ∀ x y z : W, lt x y = true → lt y z = true → lt x z = true
  | _, [], _, h, _ => by rw [lt_nil] at h; cases h
  | _, _ :: _, [], _, h => by rw [lt_nil] at h; cases h
  | [], _ :: _, _ :: _, _, _ => rfl
  | a :: x, b :: y, c :: z, h, k => by
    by_cases h1 : a < b
    · by_cases k1 : b < c
      · exact lt_head (u_tr h1 k1) _ _
      · by_cases k2 : c < b
        · rw [lt_head' k2] at k; cases k
        · have e := u_same k1 k2
          subst e
          exact lt_head h1 _ _
    · by_cases h2 : b < a
      · rw [lt_head' h2] at h; cases h
      · have e := u_same h1 h2
        subst e
        rw [lt_cons] at h
        by_cases k1 : a < c
        · exact lt_head k1 _ _
        · by_cases k2 : c < a
          · rw [lt_head' k2] at k; cases k
          · have e := u_same k1 k2
            subst e
            rw [lt_cons] at k ⊢
            exact lt_tr x y z h k
theorem lt_as {x y : W} (h : lt x y = true) : lt y x = false := by
  by_cases c : lt y x = true
  · have := lt_tr x y x h c
    rw [lt_irr] at this; cases this
  · simpa using c
theorem lt_ne {x y : W} (h : lt x y = true) : x ≠ y := fun e => by rw [e, lt_irr] at h; cases h

/-- Rows of words with values. -/
abbrev R := List (W × Int)
def Up (l : R) : Prop := l.Pairwise (fun p q => lt p.1 q.1 = true)
/-- A word put into a row that rises. -/
def ins (w : W) (v : Int) : R → R
  | [] => [(w, v)]
  | p :: l => if lt p.1 w = true then p :: ins w v l else if p.1 = w then (p.1, v) :: l else (w, v) :: p :: l
def out (w : W) (l : R) : R := l.filter (fun p => decide (p.1 ≠ w))
def look (w : W) (l : R) : Option Int := (l.find? (fun p => decide (p.1 = w))).map (·.2)
def heads (l : R) : List W := l.map (·.1)

theorem ins_left {w : W} {v : Int} : ∀ {a b : R}, (∀ p ∈ b, lt w p.1 = true) → ins w v (a ++ b) = ins w v a ++ b
  | [], [], _ => rfl
  | [], p :: b, h => by
    have h1 := h p (by simp)
    have h2 : lt p.1 w = false := lt_as h1
    have h3 : ¬ p.1 = w := fun e => lt_ne h1 e.symm
    simp [ins, h2, h3]
  | p :: a, b, h => by
    have ih := ins_left (a := a) (v := v) h
    simp only [List.cons_append, ins]
    split
    · rw [ih]; rfl
    · split <;> rfl
theorem ins_right {w : W} {v : Int} : ∀ {a b : R}, (∀ p ∈ a, lt p.1 w = true) → ins w v (a ++ b) = a ++ ins w v b
  | [], _, _ => rfl
  | p :: a, b, h => by
    have h1 := h p (by simp)
    simp only [List.cons_append, ins, h1, if_true]
    rw [ins_right (fun q hq => h q (by simp [hq]))]
def under (c : UInt8) (l : R) : R := l.map (fun p => (c :: p.1, p.2))
theorem ins_under {c : UInt8} {w : W} {v : Int} : ∀ l : R, ins (c :: w) v (under c l) = under c (ins w v l)
  | [] => rfl
  | p :: l => by
    have ih := ins_under (c := c) (w := w) (v := v) l
    simp only [under, List.map_cons, ins, lt_cons] at ih ⊢
    split
    · rw [ih]; rfl
    · by_cases e : p.1 = w
      · rw [if_pos (by rw [e]), if_pos e]; rfl
      · rw [if_neg (fun h => e (by injection h)), if_neg e]; rfl
theorem out_app (w : W) (a b : R) : out w (a ++ b) = out w a ++ out w b := List.filter_append ..
theorem out_none {w : W} {l : R} (h : ∀ p ∈ l, p.1 ≠ w) : out w l = l := List.filter_eq_self.2 (fun p hp => by simpa using h p hp)
theorem out_under {c : UInt8} {w : W} : ∀ l : R, out (c :: w) (under c l) = under c (out w l)
  | [] => rfl
  | p :: l => by
    have ih := out_under (c := c) (w := w) l
    unfold out under at ih ⊢
    simp only [List.map_cons]
    by_cases e : p.1 = w
    · rw [List.filter_cons_of_neg (by simp [e]), List.filter_cons_of_neg (by simp [e]), ih]
    · rw [List.filter_cons_of_pos (by simp [e]), List.filter_cons_of_pos (by simp [e]), ih]; rfl
theorem look_app {w : W} {a b : R} (h : ∀ p ∈ a, p.1 ≠ w) : look w (a ++ b) = look w b := by
  unfold look
  rw [List.find?_append, List.find?_eq_none.2 (fun p hp => by simpa using h p hp)]
  rfl
theorem look_app' {w : W} {a b : R} (h : ∀ p ∈ b, p.1 ≠ w) : look w (a ++ b) = look w a := by
  unfold look
  have hb : List.find? (fun p => decide (p.1 = w)) b = none := List.find?_eq_none.2 (fun p hp => by simpa using h p hp)
  rw [List.find?_append, hb]
  cases List.find? (fun p => decide (p.1 = w)) a <;> rfl
theorem look_under {c : UInt8} {w : W} : ∀ l : R, look (c :: w) (under c l) = look w l
  | [] => rfl
  | p :: l => by
    have ih := look_under (c := c) (w := w) l
    unfold look under at ih ⊢
    simp only [List.map_cons]
    by_cases e : p.1 = w
    · rw [List.find?_cons_of_pos (by simp [e]), List.find?_cons_of_pos (by simp [e])]; rfl
    · rw [List.find?_cons_of_neg (by simp [e]), List.find?_cons_of_neg (by simp [e])]; exact ih

namespace T
def isNil : T → Bool
  | nil => true
  | node _ _ _ _ _ _ => false
/-- The node at which a word ends. -/
def get : T → W → T
  | nil, _ => nil
  | node _ _ _ _ _ _, [] => nil
  | node c l m r v ok, k :: ks =>
    if k < c then get l (k :: ks) else if c < k then get r (k :: ks) else match ks with
      | [] => node c l m r v ok
      | k2 :: ks2 => get m (k2 :: ks2)
theorem get_any {c k : UInt8} {ks : W} {l m r : T} {v : Int} {ok : Bool} : get (node c l m r v ok) (k :: ks) = if k < c then get l (k :: ks) else if c < k then get r (k :: ks) else match ks with
    | [] => node c l m r v ok
    | k2 :: ks2 => get m (k2 :: ks2) := by cases ks <;> rfl
theorem get_one {c k : UInt8} {l m r : T} {v : Int} {ok : Bool} : get (node c l m r v ok) [k] = if k < c then get l [k] else if c < k then get r [k] else node c l m r v ok := rfl
theorem get_more {c k k2 : UInt8} {ks : W} {l m r : T} {v : Int} {ok : Bool} : get (node c l m r v ok) (k :: k2 :: ks) = if k < c then get l (k :: k2 :: ks) else if c < k then get r (k :: k2 :: ks) else get m (k2 :: ks) := rfl
def chain (val : Int) : W → T
  | [] => nil
  | [k] => node k nil nil nil val true
  | k :: k2 :: ks => node k nil (chain val (k2 :: ks)) nil 0 false
def put (val : Int) : T → W → T
  | nil, w => chain val w
  | node c l m r v ok, [] => node c l m r v ok
  | node c l m r v ok, k :: ks =>
    if k < c then node c (put val l (k :: ks)) m r v ok
    else if c < k then node c l m (put val r (k :: ks)) v ok
    else match ks with
      | [] => node c l m r val true
      | k2 :: ks2 => node c l (put val m (k2 :: ks2)) r v ok
/-- The leftmost node, and the rest. -/
def minN : T → T
  | nil => nil
  | node c nil m r v ok => node c nil m r v ok
  | node _ (node c l m r v ok) _ _ _ _ => minN (node c l m r v ok)
def dropMin : T → T
  | nil => nil
  | node _ nil _ r _ _ => r
  | node c (node c' l' m' r' v' ok') m r v ok => node c (dropMin (node c' l' m' r' v' ok')) m r v ok
def del : T → T
  | nil => nil
  | node _c l _m r _v _ok => if r.isNil then l else if l.isNil then r else match minN r with
    | nil => nil
    | node c' _ m' _ v' ok' => node c' l m' (dropMin r) v' ok'
def unused : T → Bool
  | nil => false
  | node _ _ m _ _ ok => !ok && m.isNil
def trim (t : T) : T := if t.unused then del t else t
def rem : T → W → T
  | nil, _ => nil
  | node c l m r v ok, [] => node c l m r v ok
  | node c l m r v ok, k :: ks =>
    if k < c then trim (node c (rem l (k :: ks)) m r v ok)
    else if c < k then trim (node c l m (rem r (k :: ks)) v ok)
    else match ks with
      | [] => trim (node c l m r 0 false)
      | k2 :: ks2 => trim (node c l (rem m (k2 :: ks2)) r v ok)
def own (c : UInt8) (m : R) (v : Int) (ok : Bool) : R := (if ok then [([c], v)] else []) ++ under c m
def words : T → R
  | nil => []
  | node c l m r v ok => words l ++ (own c (words m) v ok ++ words r)
/-- The bytes of the nodes that stand beside each other. -/
def side : T → List UInt8
  | nil => []
  | node c l _ r _ _ => side l ++ c :: side r
def Ord : T → Prop
  | nil => True
  | node c l m r _ _ => (∀ x ∈ side l, x < c) ∧ (∀ x ∈ side r, c < x) ∧ Ord l ∧ Ord m ∧ Ord r
/-- No node but is the end of a word, or has a part below it. -/
def Used : T → Prop
  | nil => True
  | node _ l m r _ ok => (ok = true ∨ m.isNil = false) ∧ Used l ∧ Used m ∧ Used r

theorem words_head : ∀ (t : T) (p : W × Int), p ∈ words t → ∃ k ks, p.1 = k :: ks ∧ k ∈ side t
  | nil, _, h => by simp [words] at h
  | node c l m r v ok, p, h => by
    simp only [words, own, List.mem_append] at h
    rcases h with h | (h | h) | h
    · obtain ⟨k, ks, e, hk⟩ := words_head l p h
      exact ⟨k, ks, e, by simp [side, hk]⟩
    · split at h
      · rw [List.mem_singleton] at h; subst h; exact ⟨c, [], rfl, by simp [side]⟩
      · simp at h
    · obtain ⟨q, hq, rfl⟩ := List.mem_map.1 h
      exact ⟨c, q.1, rfl, by simp [side]⟩
    · obtain ⟨k, ks, e, hk⟩ := words_head r p h
      exact ⟨k, ks, e, by simp [side, hk]⟩
theorem own_head {c : UInt8} {m : R} {v : Int} {ok : Bool} {p : W × Int} (h : p ∈ own c m v ok) : ∃ ks, p.1 = c :: ks := by
  simp only [own, List.mem_append] at h
  rcases h with h | h
  · split at h
    · rw [List.mem_singleton] at h; subst h; exact ⟨[], rfl⟩
    · simp at h
  · obtain ⟨q, hq, rfl⟩ := List.mem_map.1 h
    exact ⟨q.1, rfl⟩
section
variable {c k : UInt8} {l m r : T} {v : Int} {ok : Bool} {ks : W}
theorem left_lt (h : ∀ x ∈ side l, x < c) (hk : c = k ∨ c < k) : ∀ p ∈ words l, lt p.1 (k :: ks) = true := fun p hp => by
  obtain ⟨a, as, e, ha⟩ := words_head l p hp
  rw [e]
  have := h a ha
  rcases hk with rfl | hk
  · exact lt_head this _ _
  · exact lt_head (u_tr this hk) _ _
theorem right_lt (h : ∀ x ∈ side r, c < x) (hk : c = k ∨ k < c) : ∀ p ∈ words r, lt (k :: ks) p.1 = true := fun p hp => by
  obtain ⟨a, as, e, ha⟩ := words_head r p hp
  rw [e]
  have := h a ha
  rcases hk with rfl | hk
  · exact lt_head this _ _
  · exact lt_head (u_tr hk this) _ _
theorem own_lt {q : R} (hk : c < k) : ∀ p ∈ own c q v ok, lt p.1 (k :: ks) = true := fun p hp => by
  obtain ⟨as, e⟩ := own_head hp
  rw [e]; exact lt_head hk _ _
theorem own_gt {q : R} (hk : k < c) : ∀ p ∈ own c q v ok, lt (k :: ks) p.1 = true := fun p hp => by
  obtain ⟨as, e⟩ := own_head hp
  rw [e]; exact lt_head hk _ _
end
theorem gt_ne {l : R} {w : W} (h : ∀ p ∈ l, lt w p.1 = true) : ∀ p ∈ l, p.1 ≠ w := fun p hp e => lt_ne (h p hp) e.symm
theorem less_ne {l : R} {w : W} (h : ∀ p ∈ l, lt p.1 w = true) : ∀ p ∈ l, p.1 ≠ w := fun p hp => lt_ne (h p hp)

theorem up_under {c : UInt8} {l : R} (h : Up l) : Up (under c l) := List.pairwise_map.2 (h.imp (fun q => by rw [lt_cons]; exact q))
theorem up_own {c : UInt8} {m : T} {v : Int} {ok : Bool} (h : Up (words m)) : Up (own c (words m) v ok) := by
  unfold own
  refine List.pairwise_append.2 ⟨by split <;> simp, up_under h, fun a ha b hb => ?_⟩
  split at ha
  · rw [List.mem_singleton] at ha
    subst ha
    obtain ⟨q, hq, rfl⟩ := List.mem_map.1 hb
    obtain ⟨k, ks, e, _⟩ := words_head m q hq
    show lt [c] (c :: q.1) = true
    rw [lt_cons, e]; rfl
  · simp at ha
theorem up_words : ∀ {t : T}, Ord t → Up (words t)
  | nil, _ => List.Pairwise.nil
  | node c l m r v ok, ⟨h1, h2, h3, h4, h5⟩ => by
    refine List.pairwise_append.2 ⟨up_words h3, List.pairwise_append.2 ⟨up_own (up_words h4), up_words h5, fun a ha b hb => ?_⟩, fun a ha b hb => ?_⟩
    · obtain ⟨as, e⟩ := own_head ha
      rw [e]; exact right_lt h2 (.inl rfl) b hb
    · rcases List.mem_append.1 hb with hb | hb
      · obtain ⟨as, e⟩ := own_head hb
        rw [e]; exact left_lt h1 (.inl rfl) a ha
      · obtain ⟨k, ks, e, hk⟩ := words_head r b hb
        rw [e]; exact left_lt h1 (.inr (h2 k hk)) a ha
theorem words_chain (val : Int) : ∀ (w : W), w ≠ [] → words (chain val w) = [(w, val)]
  | [], h => absurd rfl h
  | [k], _ => by simp [chain, words, own, under]
  | k :: k2 :: ks, _ => by
    have := words_chain val (k2 :: ks) (by simp)
    simp [chain, words, own, this, under]
theorem side_chain (val : Int) : ∀ (k : UInt8) (ks : W), side (chain val (k :: ks)) = [k]
  | _k, [] => rfl
  | _k, _k2 :: _ks => rfl
theorem ord_chain (val : Int) : ∀ w : W, Ord (chain val w)
  | [] => trivial
  | [k] => by simp [chain, Ord, side]
  | k :: k2 :: ks => by simp [chain, Ord, side, ord_chain val (k2 :: ks)]
theorem chain_some (val : Int) (k : UInt8) : ∀ ks : W, (chain val (k :: ks)).isNil = false
  | [] => rfl
  | _ :: _ => rfl
theorem used_chain (val : Int) : ∀ w : W, Used (chain val w)
  | [] => trivial
  | [k] => by simp [chain, Used]
  | k :: k2 :: ks => ⟨.inr (chain_some val k2 ks), trivial, used_chain val (k2 :: ks), trivial⟩
theorem put_some (val : Int) (k : UInt8) (ks : W) : ∀ t : T, (put val t (k :: ks)).isNil = false
  | nil => chain_some val k ks
  | node c l m r v ok => by
    simp only [put]
    split
    · rfl
    · split
      · rfl
      · cases ks <;> rfl
theorem side_put (val : Int) (k : UInt8) (ks : W) : ∀ (t : T) (x : UInt8), x ∈ side (put val t (k :: ks)) → x = k ∨ x ∈ side t
  | nil, x, h => by rw [put, side_chain, List.mem_singleton] at h; exact .inl h
  | node c l m r v ok, x, h => by
    simp only [put] at h
    split at h
    · simp only [side, List.mem_append, List.mem_cons] at h ⊢
      rcases h with h | h
      · rcases side_put val k ks l x h with h | h
        · exact .inl h
        · exact .inr (.inl h)
      · exact .inr (.inr h)
    · split at h
      · simp only [side, List.mem_append, List.mem_cons] at h ⊢
        rcases h with h | h | h
        · exact .inr (.inl h)
        · exact .inr (.inr (.inl h))
        · rcases side_put val k ks r x h with h | h
          · exact .inl h
          · exact .inr (.inr (.inr h))
      · cases ks with
        | nil => exact .inr h
        | cons k2 ks2 => exact .inr h
theorem ord_put (val : Int) : ∀ (t : T) (w : W), Ord t → Ord (put val t w)
  | nil, w, _ => ord_chain val w
  | node _ _ _ _ _ _, [], h => h
  | node c l m r v ok, k :: ks, ⟨h1, h2, h3, h4, h5⟩ => by
    simp only [put]
    split
    · rename_i q
      refine ⟨fun x hx => ?_, h2, ord_put val l _ h3, h4, h5⟩
      rcases side_put val k ks l x hx with rfl | e
      · exact q
      · exact h1 x e
    · split
      · rename_i q
        refine ⟨h1, fun x hx => ?_, h3, h4, ord_put val r _ h5⟩
        rcases side_put val k ks r x hx with rfl | e
        · exact q
        · exact h2 x e
      · cases ks with
        | nil => exact ⟨h1, h2, h3, h4, h5⟩
        | cons k2 ks2 => exact ⟨h1, h2, h3, ord_put val m _ h4, h5⟩
theorem used_put (val : Int) : ∀ (t : T) (w : W), Used t → Used (put val t w)
  | nil, w, _ => used_chain val w
  | node _ _ _ _ _ _, [], h => h
  | node c l m r v ok, k :: ks, ⟨h1, h3, h4, h5⟩ => by
    simp only [put]
    split
    · exact ⟨h1, used_put val l _ h3, h4, h5⟩
    · split
      · exact ⟨h1, h3, h4, used_put val r _ h5⟩
      · cases ks with
        | nil => exact ⟨.inl rfl, h3, h4, h5⟩
        | cons k2 ks2 => exact ⟨.inr (put_some val k2 ks2 m), h3, used_put val m _ h4, h5⟩
theorem words_put (val : Int) : ∀ (t : T) (k : UInt8) (ks : W), Ord t → words (put val t (k :: ks)) = ins (k :: ks) val (words t)
  | nil, k, ks, _ => words_chain val _ (by simp)
  | node c l m r v ok, k, ks, ⟨h1, h2, h3, h4, h5⟩ => by
    simp only [put]
    by_cases q : k < c
    · rw [if_pos q]
      simp only [words]
      rw [words_put val l k ks h3]
      refine (ins_left (fun p hp => ?_)).symm
      rcases List.mem_append.1 hp with hp | hp
      · exact own_gt q p hp
      · exact right_lt h2 (.inr q) p hp
    · rw [if_neg q]
      by_cases q2 : c < k
      · rw [if_pos q2]
        simp only [words]
        rw [words_put val r k ks h5, ins_right (left_lt h1 (.inr q2)), ins_right (own_lt q2)]
      · rw [if_neg q2]
        have e := u_same q q2
        subst e
        have hr := right_lt (r := r) (ks := ks) h2 (.inl rfl)
        cases ks with
        | nil =>
          simp only [words]
          rw [ins_right (left_lt h1 (.inl rfl)), ins_left hr]
          congr 2
          simp only [own]
          cases ok with
          | true => simp [ins, lt_irr]
          | false =>
            show [([k], val)] ++ under k (words m) = ins [k] val (under k (words m))
            have : ∀ p ∈ under k (words m), lt [k] p.1 = true := fun p hp => by
              obtain ⟨q, hq, rfl⟩ := List.mem_map.1 hp
              obtain ⟨a, as, e, _⟩ := words_head m q hq
              show lt [k] (k :: q.1) = true
              rw [lt_cons, e]; rfl
            exact (ins_left (a := []) this).symm
        | cons k2 ks2 =>
          simp only [words]
          rw [ins_right (left_lt h1 (.inl rfl)), ins_left hr, words_put val m k2 ks2 h4]
          congr 2
          simp only [own]
          rw [ins_right (fun p hp => ?_), ins_under]
          split at hp
          · rw [List.mem_singleton] at hp; subst hp
            show lt [k] (k :: k2 :: ks2) = true
            rw [lt_cons]; rfl
          · simp at hp
/-- The leftmost node and the rest are all. -/
theorem min_words : ∀ {c : UInt8} {l m r : T} {v : Int} {ok : Bool}, ∃ c' m' r' v' ok', minN (node c l m r v ok) = node c' nil m' r' v' ok' ∧
    words (node c l m r v ok) = own c' (words m') v' ok' ++ words (dropMin (node c l m r v ok)) ∧ side (node c l m r v ok) = c' :: side (dropMin (node c l m r v ok))
  | c, nil, m, r, v, ok => ⟨c, m, r, v, ok, rfl, by simp [words, dropMin], by simp [side, dropMin]⟩
  | c, node c1 l1 m1 r1 v1 ok1, m, r, v, ok => by
    obtain ⟨c', m', r', v', ok', e1, e2, e3⟩ := min_words (c := c1) (l := l1) (m := m1) (r := r1) (v := v1) (ok := ok1)
    refine ⟨c', m', r', v', ok', e1, ?_, ?_⟩
    · show words (node c1 l1 m1 r1 v1 ok1) ++ _ = own c' (words m') v' ok' ++ (words (dropMin (node c1 l1 m1 r1 v1 ok1)) ++ (own c (words m) v ok ++ words r))
      rw [e2, List.append_assoc]
    · show side (node c1 l1 m1 r1 v1 ok1) ++ _ = c' :: (side (dropMin (node c1 l1 m1 r1 v1 ok1)) ++ c :: side r)
      rw [e3]; rfl
theorem dropMin_ord : ∀ {t : T}, Ord t → Ord (dropMin t)
  | nil, _ => trivial
  | node _ nil _ _ _ _, h => h.2.2.2.2
  | node c (node c1 l1 m1 r1 v1 ok1) m r v ok, ⟨h1, h2, h3, h4, h5⟩ => by
    obtain ⟨c', m', r', v', ok', e1, e2, e3⟩ := min_words (c := c1) (l := l1) (m := m1) (r := r1) (v := v1) (ok := ok1)
    exact ⟨fun x hx => h1 x (by rw [e3]; simp [hx]), h2, dropMin_ord h3, h4, h5⟩
theorem dropMin_used : ∀ {t : T}, Used t → Used (dropMin t)
  | nil, _ => trivial
  | node _ nil _ _ _ _, h => h.2.2.2
  | node _c (node _c1 _l1 _m1 _r1 _v1 _ok1) _m _r _v _ok, ⟨h1, h2, h3, h4⟩ => ⟨h1, dropMin_used h2, h3, h4⟩
theorem minN_ord : ∀ {t : T}, Ord t → Ord (minN t)
  | nil, _ => trivial
  | node _ nil _ _ _ _, h => h
  | node _ (node c l m r v ok) _ _ _ _, h => minN_ord (t := node c l m r v ok) h.2.2.1
theorem minN_used : ∀ {t : T}, Used t → Used (minN t)
  | nil, _ => trivial
  | node _ nil _ _ _ _, h => h
  | node _ (node c l m r v ok) _ _ _ _, h => minN_used (t := node c l m r v ok) h.2.1
theorem pw_side {t : T} (h : Ord t) : (side t).Pairwise (· < ·) := by
  induction t with
  | nil => exact List.Pairwise.nil
  | node c l m r v ok ihl _ ihr =>
    obtain ⟨h1, h2, h3, h4, h5⟩ := h
    refine List.pairwise_append.2 ⟨ihl h3, List.pairwise_cons.2 ⟨h2, ihr h5⟩, fun a ha b hb => ?_⟩
    rcases List.mem_cons.1 hb with rfl | hb
    · exact h1 a ha
    · exact u_tr (h1 a ha) (h2 b hb)
theorem del_all {c : UInt8} {l m r : T} {v : Int} {ok : Bool} (h : Ord (node c l m r v ok)) :
    words (del (node c l m r v ok)) = words l ++ words r ∧ (∀ x ∈ side (del (node c l m r v ok)), x ∈ side l ∨ x ∈ side r) ∧ Ord (del (node c l m r v ok)) ∧ (Used l → Used r → Used (del (node c l m r v ok))) := by
  obtain ⟨h1, h2, h3, h4, h5⟩ := h
  cases r with
  | nil => exact ⟨by simp [del, isNil, words], fun x hx => .inl hx, h3, fun q _ => q⟩
  | node c1 l1 m1 r1 v1 ok1 =>
    cases l with
    | nil => exact ⟨by simp [del, isNil, words], fun x hx => .inr hx, h5, fun _ q => q⟩
    | node c2 l2 m2 r2 v2 ok2 =>
      obtain ⟨c', m', r', v', ok', e1, e2, e3⟩ := min_words (c := c1) (l := l1) (m := m1) (r := r1) (v := v1) (ok := ok1)
      have ed : del (node c (node c2 l2 m2 r2 v2 ok2) m (node c1 l1 m1 r1 v1 ok1) v ok) = node c' (node c2 l2 m2 r2 v2 ok2) m' (dropMin (node c1 l1 m1 r1 v1 ok1)) v' ok' := by
        simp only [del, isNil, e1]
        rfl
      have hp := pw_side h5
      rw [e3] at hp
      have hp1 := (List.pairwise_cons.1 hp).1
      have hm := minN_ord h5
      rw [e1] at hm
      rw [ed]
      refine ⟨?_, fun x hx => ?_, ⟨fun x hx => u_tr (h1 x hx) (h2 c' (by rw [e3]; simp)), hp1, h3, hm.2.2.2.1, dropMin_ord h5⟩, fun q1 q2 => ?_⟩
      · show words (node c2 l2 m2 r2 v2 ok2) ++ (own c' (words m') v' ok' ++ words (dropMin (node c1 l1 m1 r1 v1 ok1))) = _
        rw [← e2]
      · simp only [side, List.mem_append, List.mem_cons] at hx
        rw [e3]
        rcases hx with hx | hx | hx
        · exact .inl (by simp only [side, List.mem_append, List.mem_cons]; exact hx)
        · exact .inr (by simp [hx])
        · exact .inr (by simp [hx])
      · have hm2 := minN_used q2
        rw [e1] at hm2
        exact ⟨hm2.1, q1, hm2.2.2.1, dropMin_used q2⟩
theorem trim_all {c : UInt8} {l m r : T} {v : Int} {ok : Bool} (h : Ord (node c l m r v ok)) :
    words (trim (node c l m r v ok)) = words (node c l m r v ok) ∧ (∀ x ∈ side (trim (node c l m r v ok)), x ∈ side (node c l m r v ok)) ∧ Ord (trim (node c l m r v ok)) ∧ (Used l → Used m → Used r → Used (trim (node c l m r v ok))) := by
  unfold trim
  by_cases u : (node c l m r v ok).unused = true
  · rw [if_pos u]
    obtain ⟨d1, d2, d3, d4⟩ := del_all h
    have u' : ok = false ∧ m.isNil = true := by simpa [unused] using u
    obtain ⟨rfl, um⟩ := u'
    have em : m = nil := by cases m with | nil => rfl | node _ _ _ _ _ _ => cases um
    subst em
    refine ⟨by rw [d1]; simp [words, own, under], fun x hx => ?_, d3, fun a _ b => d4 a b⟩
    rcases d2 x hx with q | q <;> simp [side, q]
  · rw [if_neg u]
    refine ⟨rfl, fun _ q => q, h, fun a b d => ⟨?_, a, b, d⟩⟩
    simp only [unused, Bool.and_eq_true, not_and, Bool.not_eq_true', Bool.not_eq_true] at u
    cases ok with
    | true => exact .inl rfl
    | false => exact .inr (u rfl)
theorem rem_all : ∀ (t : T) (k : UInt8) (ks : W), Ord t →
    words (rem t (k :: ks)) = out (k :: ks) (words t) ∧ (∀ x ∈ side (rem t (k :: ks)), x ∈ side t) ∧ Ord (rem t (k :: ks)) ∧ (Used t → Used (rem t (k :: ks)))
  | nil, k, ks, _ => ⟨rfl, fun _ h => h, trivial, fun h => h⟩
  | node c l m r v ok, k, ks, ⟨h1, h2, h3, h4, h5⟩ => by
    simp only [rem]
    by_cases q : k < c
    · rw [if_pos q]
      obtain ⟨i1, i2, i3, i4⟩ := rem_all l k ks h3
      obtain ⟨t1, t2, t3, t4⟩ := trim_all (c := c) (l := rem l (k :: ks)) (m := m) (r := r) (v := v) (ok := ok) ⟨fun x hx => h1 x (i2 x hx), h2, i3, h4, h5⟩
      refine ⟨?_, fun x hx => ?_, t3, fun u => t4 (i4 u.2.1) u.2.2.1 u.2.2.2⟩
      · rw [t1]
        simp only [words]
        rw [i1, out_app, out_app, out_none (gt_ne (own_gt q)), out_none (gt_ne (right_lt h2 (.inr q)))]
      · have := t2 x hx
        simp only [side, List.mem_append, List.mem_cons] at this ⊢
        rcases this with e | e
        · exact .inl (i2 x e)
        · exact .inr e
    · rw [if_neg q]
      by_cases q2 : c < k
      · rw [if_pos q2]
        obtain ⟨i1, i2, i3, i4⟩ := rem_all r k ks h5
        obtain ⟨t1, t2, t3, t4⟩ := trim_all (c := c) (l := l) (m := m) (r := rem r (k :: ks)) (v := v) (ok := ok) ⟨h1, fun x hx => h2 x (i2 x hx), h3, h4, i3⟩
        refine ⟨?_, fun x hx => ?_, t3, fun u => t4 u.2.1 u.2.2.1 (i4 u.2.2.2)⟩
        · rw [t1]
          simp only [words]
          rw [i1, out_app, out_app, out_none (less_ne (own_lt q2)), out_none (less_ne (left_lt h1 (.inr q2)))]
        · have := t2 x hx
          simp only [side, List.mem_append, List.mem_cons] at this ⊢
          rcases this with e | e | e
          · exact .inl e
          · exact .inr (.inl e)
          · exact .inr (.inr (i2 x e))
      · rw [if_neg q2]
        have e := u_same q q2
        subst e
        cases ks with
        | nil =>
          obtain ⟨t1, t2, t3, t4⟩ := trim_all (c := k) (l := l) (m := m) (r := r) (v := 0) (ok := false) ⟨h1, h2, h3, h4, h5⟩
          refine ⟨?_, t2, t3, fun u => t4 u.2.1 u.2.2.1 u.2.2.2⟩
          show words (trim (node k l m r 0 false)) = _
          rw [t1]
          simp only [words]
          rw [out_app, out_app, out_none (gt_ne (right_lt h2 (.inl rfl))), out_none (less_ne (left_lt h1 (.inl rfl)))]
          congr 2
          have e1 : out [k] (under k (words m)) = under k (words m) := out_none (fun p hp => by
            obtain ⟨q, hq, rfl⟩ := List.mem_map.1 hp
            obtain ⟨a, as, e, _⟩ := words_head m q hq
            show k :: q.1 ≠ [k]
            rw [e]; simp)
          unfold own
          rw [out_app, e1]
          cases ok <;> simp [out]
        | cons k2 ks2 =>
          obtain ⟨i1, i2, i3, i4⟩ := rem_all m k2 ks2 h4
          obtain ⟨t1, t2, t3, t4⟩ := trim_all (c := k) (l := l) (m := rem m (k2 :: ks2)) (r := r) (v := v) (ok := ok) ⟨h1, h2, h3, i3, h5⟩
          refine ⟨?_, t2, t3, fun u => t4 u.2.1 (i4 u.2.2.1) u.2.2.2⟩
          show words (trim (node k l (rem m (k2 :: ks2)) r v ok)) = _
          rw [t1]
          simp only [words]
          rw [out_app, out_app, out_none (gt_ne (right_lt h2 (.inl rfl))), out_none (less_ne (left_lt h1 (.inl rfl))), i1]
          congr 2
          unfold own
          rw [out_app, out_under]
          congr 1
          cases ok <;> simp [out]
/-- What Get tells. -/
def find (t : T) (w : W) : Option Int := match get t w with
  | nil => none
  | node _ _ _ _ v ok => if ok then some v else none
theorem look_own {c : UInt8} {m : T} {v : Int} {ok : Bool} {k2 : UInt8} {ks : W} : look (c :: k2 :: ks) (own c (words m) v ok) = look (k2 :: ks) (words m) := by
  unfold own
  rw [look_app (fun p hp => ?_), look_under]
  split at hp
  · rw [List.mem_singleton] at hp; subst hp; simp
  · simp at hp
theorem find_look : ∀ (t : T) (k : UInt8) (ks : W), Ord t → find t (k :: ks) = look (k :: ks) (words t)
  | nil, k, ks, _ => rfl
  | node c l m r v ok, k, ks, ⟨h1, h2, h3, h4, h5⟩ => by
    simp only [words]
    by_cases q : k < c
    · have e : find (node c l m r v ok) (k :: ks) = find l (k :: ks) := by unfold find; rw [get_any, if_pos q]
      rw [e, find_look l k ks h3, look_app' (fun p hp => ?_)]
      rcases List.mem_append.1 hp with hp | hp
      · exact gt_ne (own_gt q) p hp
      · exact gt_ne (right_lt h2 (.inr q)) p hp
    · by_cases q2 : c < k
      · have e : find (node c l m r v ok) (k :: ks) = find r (k :: ks) := by unfold find; rw [get_any, if_neg q, if_pos q2]
        rw [e, find_look r k ks h5, look_app (less_ne (left_lt h1 (.inr q2))), look_app (less_ne (own_lt q2))]
      · have e := u_same q q2
        subst e
        rw [look_app (less_ne (left_lt h1 (.inl rfl))), look_app' (gt_ne (right_lt h2 (.inl rfl)))]
        cases ks with
        | nil =>
          have e : find (node k l m r v ok) [k] = if ok then some v else none := by unfold find; rw [get_one, if_neg q, if_neg q2]
          rw [e]
          unfold own
          cases ok with
          | true => simp [look]
          | false =>
            show none = look [k] ([] ++ under k (words m))
            rw [List.nil_append]
            unfold look
            rw [List.find?_eq_none.2 (fun p hp => ?_)]
            · rfl
            obtain ⟨q, hq, rfl⟩ := List.mem_map.1 hp
            obtain ⟨a, as, e, _⟩ := words_head m q hq
            simp [e]
        | cons k2 ks2 =>
          have e : find (node k l m r v ok) (k :: k2 :: ks2) = find m (k2 :: ks2) := by unfold find; rw [get_more, if_neg q, if_neg q2]
          rw [e, find_look m k2 ks2 h4, look_own]
/-- The words that begin with one, as collect tells them. -/
def from_ (t : T) (w : W) : List W := match get t w with
  | nil => []
  | node _ _ m _ _ ok => (if ok then [w] else []) ++ (words m).map (fun p => w ++ p.1)
def pre : W → W → Bool
  | [], _ => true
  | _ :: _, [] => false
  | a :: x, b :: y => a == b && pre x y
theorem pre_iff : ∀ x y : W, pre x y = true ↔ ∃ z, y = x ++ z
  | [], y => by simp [pre]
  | _ :: _, [] => by simp [pre]
  | a :: x, b :: y => by
    simp only [pre, Bool.and_eq_true, beq_iff_eq, pre_iff x y, List.cons_append, List.cons.injEq]
    constructor
    · rintro ⟨rfl, z, rfl⟩; exact ⟨z, rfl, rfl⟩
    · rintro ⟨z, rfl, h⟩; exact ⟨rfl, z, h⟩
theorem pre_other {a b : UInt8} (h : a ≠ b) (x y : W) : pre (a :: x) (b :: y) = false := by simp [pre, h]
theorem filt_none {l : List W} {f : W → Bool} (h : ∀ p ∈ l, f p = false) : l.filter f = [] := List.filter_eq_nil_iff.2 (fun p hp => by simp [h p hp])
theorem heads_app (a b : R) : heads (a ++ b) = heads a ++ heads b := List.map_append ..
theorem heads_under (c : UInt8) (l : R) : heads (under c l) = (heads l).map (c :: ·) := by simp [heads, under]
theorem with_left {k : UInt8} {l : T} {ks : W} (h : ∀ x ∈ side l, x ≠ k) : (heads (words l)).filter (pre (k :: ks)) = [] := filt_none (fun p hp => by
  obtain ⟨q, hq, rfl⟩ := List.mem_map.1 hp
  obtain ⟨a, as, e, ha⟩ := words_head l q hq
  rw [e]; exact pre_other (fun e => h a ha e.symm) _ _)
theorem with_own {c k : UInt8} {m : R} {v : Int} {ok : Bool} {ks : W} (h : k ≠ c) : (heads (own c m v ok)).filter (pre (k :: ks)) = [] := filt_none (fun p hp => by
  obtain ⟨q, hq, rfl⟩ := List.mem_map.1 hp
  obtain ⟨as, e⟩ := own_head hq
  rw [e]; exact pre_other h _ _)
theorem with_under (k : UInt8) (ks : W) (l : List W) : (l.map (k :: ·)).filter (pre (k :: ks)) = (l.filter (pre ks)).map (k :: ·) := by
  rw [List.filter_map]
  congr 1
  refine List.filter_congr (fun x _ => ?_)
  simp [pre]
theorem from_words : ∀ (t : T) (k : UInt8) (ks : W), Ord t → from_ t (k :: ks) = (heads (words t)).filter (pre (k :: ks))
  | nil, k, ks, _ => rfl
  | node c l m r v ok, k, ks, ⟨h1, h2, h3, h4, h5⟩ => by
    simp only [words, heads_app, List.filter_append]
    by_cases q : k < c
    · have e : from_ (node c l m r v ok) (k :: ks) = from_ l (k :: ks) := by unfold from_; rw [get_any, if_pos q]
      rw [e, from_words l k ks h3, with_own (u_ne q), with_left (fun x hx e => u_ne (u_tr q (h2 x hx)) e.symm), List.append_nil, List.append_nil]
    · by_cases q2 : c < k
      · have e : from_ (node c l m r v ok) (k :: ks) = from_ r (k :: ks) := by unfold from_; rw [get_any, if_neg q, if_pos q2]
        rw [e, from_words r k ks h5, with_own (fun e => u_ne q2 e.symm), with_left (fun x hx e => u_ne (u_tr (h1 x hx) q2) e), List.nil_append, List.nil_append]
      · have e := u_same q q2
        subst e
        rw [with_left (l := l) (fun x hx => u_ne (h1 x hx)), with_left (l := r) (fun x hx e => u_ne (h2 x hx) e.symm), List.nil_append, List.append_nil]
        unfold own
        rw [heads_app, heads_under, List.filter_append, with_under]
        cases ks with
        | nil =>
          have e : from_ (node k l m r v ok) [k] = (if ok then [[k]] else []) ++ (words m).map (fun p => [k] ++ p.1) := by unfold from_; rw [get_one, if_neg q, if_neg q2]
          rw [e]
          congr 1
          · cases ok <;> simp [heads, pre]
          · rw [show (heads (words m)).filter (pre []) = heads (words m) from List.filter_eq_self.2 (fun _ _ => rfl)]
            simp [heads]
        | cons k2 ks2 =>
          have e : from_ (node k l m r v ok) (k :: k2 :: ks2) = (from_ m (k2 :: ks2)).map (k :: ·) := by
            unfold from_; rw [get_more, if_neg q, if_neg q2]
            show (match get m (k2 :: ks2) with | nil => _ | node _ _ m _ _ ok => _) = _
            cases get m (k2 :: ks2) with
            | nil => rfl
            | node c' l' m' r' v' ok' => cases ok' <;> simp
          rw [e, from_words m k2 ks2 h4]
          have : (heads (if ok = true then [([k], v)] else [])).filter (pre (k :: k2 :: ks2)) = [] := by cases ok <;> simp [heads, pre]
          rw [this, List.nil_append]
/-- How long the longest word is that a text begins with, as the walk tells it. -/
def long : T → W → Nat → Nat → Nat
  | nil, _, _, best => best
  | node _ _ _ _ _ _, [], _, best => best
  | node c l m r _ ok, k :: ks, i, best => if k < c then long l (k :: ks) i best else if c < k then long r (k :: ks) i best else long m ks (i + 1) (if ok then i + 1 else best)
/-- .. by definition: the longest of those that it begins with; 0: none. -/
def most (q : W) (l : List W) : Nat := (l.filter (fun p => pre p q)).foldr (fun p n => max p.length n) 0
theorem most_nil (q : W) : most q [] = 0 := rfl
theorem most_app (q : W) (a b : List W) : most q (a ++ b) = max (most q a) (most q b) := by
  unfold most
  rw [List.filter_append]
  induction a.filter (fun p => pre p q) with
  | nil => simp
  | cons p t ih => simp only [List.cons_append, List.foldr_cons, ih]; omega
theorem most_zero {q : W} {l : List W} (h : ∀ p ∈ l, pre p q = false) : most q l = 0 := by
  unfold most
  rw [filt_none h]; rfl
theorem most_under (c : UInt8) (q : W) : ∀ (l : List W), (∀ p ∈ l, p ≠ []) → most (c :: q) (l.map (c :: ·)) = if most q l = 0 then 0 else most q l + 1
  | [], _ => rfl
  | p :: l, h => by
    have ih := most_under c q l (fun x hx => h x (by simp [hx]))
    have e1 : most (c :: q) ((p :: l).map (c :: ·)) = max (most (c :: q) [c :: p]) (most (c :: q) (l.map (c :: ·))) := most_app (c :: q) [c :: p] _
    have e2 : most q (p :: l) = max (most q [p]) (most q l) := most_app q [p] l
    have hp : 0 < p.length := List.length_pos_iff.2 (h p (by simp))
    have e3 : most (c :: q) [c :: p] = if most q [p] = 0 then 0 else most q [p] + 1 := by
      by_cases x : pre p q = true
      · have y : pre (c :: p) (c :: q) = true := by simp [pre, x]
        have z1 : most q [p] = p.length := by
          unfold most
          rw [List.filter_cons_of_pos (p := fun p => pre p q) x]
          simp
        have z2 : most (c :: q) [c :: p] = p.length + 1 := by
          unfold most
          rw [List.filter_cons_of_pos (p := fun p => pre p (c :: q)) y]
          simp
        rw [z1, z2, if_neg (by omega)]
      · have z1 : most q [p] = 0 := most_zero (fun a ha => by rw [List.mem_singleton.1 ha]; simpa using x)
        have z2 : most (c :: q) [c :: p] = 0 := most_zero (fun a ha => by rw [List.mem_singleton.1 ha]; simpa [pre] using x)
        rw [z1, z2, if_pos rfl]
    rw [e1, e2, ih, e3]
    split <;> split <;> split <;> omega
theorem long_most : ∀ (t : T) (q : W) (i best : Nat), Ord t → long t q i best = if most q (heads (words t)) = 0 then best else i + most q (heads (words t))
  | nil, q, i, best, _ => rfl
  | node c l m r v ok, [], i, best, _ => by
    rw [long, if_pos]
    exact most_zero (fun p hp => by
      obtain ⟨x, hx, rfl⟩ := List.mem_map.1 hp
      obtain ⟨k, ks, e, _⟩ := words_head _ x hx
      rw [e]; rfl)
  | node c l m r v ok, k :: ks, i, best, ⟨h1, h2, h3, h4, h5⟩ => by
    have zl : (∀ x ∈ side l, x ≠ k) → most (k :: ks) (heads (words l)) = 0 := fun h => most_zero (fun p hp => by
      obtain ⟨x, hx, rfl⟩ := List.mem_map.1 hp
      obtain ⟨a, as, e, ha⟩ := words_head _ x hx
      rw [e]; exact pre_other (h a ha) _ _)
    have zr : (∀ x ∈ side r, x ≠ k) → most (k :: ks) (heads (words r)) = 0 := fun h => most_zero (fun p hp => by
      obtain ⟨x, hx, rfl⟩ := List.mem_map.1 hp
      obtain ⟨a, as, e, ha⟩ := words_head _ x hx
      rw [e]; exact pre_other (h a ha) _ _)
    have zo : c ≠ k → most (k :: ks) (heads (own c (words m) v ok)) = 0 := fun h => most_zero (fun p hp => by
      obtain ⟨x, hx, rfl⟩ := List.mem_map.1 hp
      obtain ⟨as, e⟩ := own_head hx
      rw [e]; exact pre_other h _ _)
    simp only [words, heads_app, most_app, long]
    by_cases q : k < c
    · rw [if_pos q, long_most l (k :: ks) i best h3, zo (fun e => u_ne q e.symm), zr (fun x hx e => u_ne (u_tr q (h2 x hx)) e.symm)]
      simp
    · rw [if_neg q]
      by_cases q2 : c < k
      · rw [if_pos q2, long_most r (k :: ks) i best h5, zo (u_ne q2), zl (fun x hx => u_ne (u_tr (h1 x hx) q2))]
        simp
      · rw [if_neg q2]
        have e := u_same q q2
        subst e
        rw [zl (fun x hx => u_ne (h1 x hx)), zr (fun x hx e => u_ne (h2 x hx) e.symm), long_most m ks (i + 1) _ h4]
        have e1 : most (k :: ks) (heads (own k (words m) v ok)) = max (if ok then 1 else 0) (if most ks (heads (words m)) = 0 then 0 else most ks (heads (words m)) + 1) := by
          unfold own
          rw [heads_app, most_app, heads_under, most_under _ _ _ (fun p hp => by
            obtain ⟨x, hx, rfl⟩ := List.mem_map.1 hp
            obtain ⟨a, as, e, _⟩ := words_head _ x hx
            rw [e]; simp)]
          congr 1
          cases ok <;> simp [heads, most, pre]
        rw [e1]
        cases ok <;> simp <;> split <;> simp_all <;> omega
end T
end Go.Proofs.Ytkgbflcbeeghoaa.TriePure
