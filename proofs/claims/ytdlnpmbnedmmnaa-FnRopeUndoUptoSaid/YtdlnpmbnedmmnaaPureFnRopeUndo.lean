/- What is inserted and removed again leaves the same elements: for every script of bounded size. -/
import Derived.Test.YtdlnpmbnedmmnaaQFnRopeUndox4
import Derived.IntWalk
namespace Go.Proofs.Ytdlnpmbnedmmnaa.Pure
open Go Go.RowKit Go.IntWalk Go.Proofs.Ytdlnpmbnedmmnaa.QFnRopeUndo Go.Proofs.YtdlnpmbnedmmnaaW.PrintWords Go.Proofs.YtdlnpmbnedmmnaaW.PrintLast
theorem w1 (q : Nat) (h : q ≤ 1099511627776) : wrap64 ((q : Int) + 1) = ((q + 1 : Nat) : Int) := by rw [wrap64_in _ (by omega)]; rfl
theorem wm (q : Nat) (h : q ≤ 1099511627776) : wrap64 (((q + 1 : Nat) : Int) - 1) = (q : Int) := by rw [wrap64_in _ (by omega)]; omega
theorem rd_cut {l : List S38} {i : Nat} {x : S38} (h : l[i]? = some x) : rd_T38 l (i : Int) = x := by simp [rd_T38, List.getD_eq_getElem?_getD, h]
theorem rd_int {l : List Int} {i : Nat} {x : Int} (h : l[i]? = some x) : rd l (i : Int) = x := by simp [rd, List.getD_eq_getElem?_getD, h]
/-- How much a script holds. -/
def mass : List S38 → Nat
  | [] => 0
  | x :: l => x.f3.length + 1 + mass l
theorem mass_len : ∀ l : List S38, l.length ≤ mass l
  | [] => Nat.le_refl _
  | x :: l => by have := mass_len l; simp only [mass, List.length_cons]; omega
theorem fits3_row (l : List S38) (hl : mass l ≤ 1048576) (d : Nat) : ∀ j : Nat, j + d = l.length → mass (l.drop j) ≤ 1048576 → Ev (fun k => laws_zzFits3.l0 k l (l.length : Int) (j : Int)) true := by
  have hlen := mass_len l
  induction d with
  | zero =>
    intro j hj _
    refine Ev.step (f := fun _ => some true) (fun k => ?_) (Ev.now _)
    simp only [laws_zzFits3.l0]
    rw [if_neg (by omega)]
  | succ d ih =>
    intro j hj hm
    have hjl : j < l.length := by omega
    have hx : l[j]? = some l[j] := List.getElem?_eq_getElem hjl
    have hd : l.drop j = l[j] :: l.drop (j + 1) := List.drop_eq_getElem_cons hjl
    generalize l[j] = x at hx hd
    rw [hd] at hm
    simp only [mass] at hm
    refine Ev.step (fun k => ?_) (ih (j + 1) (by omega) (by omega))
    simp only [laws_zzFits3.l0]
    rw [if_pos (by omega), if_pos (by omega), if_pos (by omega), rd_cut hx]
    unfold laws_zzFits4.f
    rw [if_neg (by omega), Option.bind_some, if_pos rfl, w1 j (by omega)]
theorem fits3_ev (l : List S38) (hl : mass l ≤ 1048576) : Ev (fun k => laws_zzFits3.f k l) true := by
  have hlen := mass_len l
  refine Ev.congr (fun k => ?_) (fits3_row l hl l.length 0 (Nat.zero_add _) (by rw [List.drop_zero]; exact hl))
  unfold laws_zzFits3.f
  rw [if_neg (by omega)]
  rfl
theorem both_ev (a b : List Int) (h : a.length + b.length ≤ 1099511627776) : spec_Both.f a b = some (a ++ b) := by
  unfold spec_Both.f
  rw [Option.bind_some, if_pos (by simp; omega), Option.bind_some, if_pos (by simp; omega), List.nil_append]
/-- Whether a step may be done with a row. -/
def mayL (n : Nat) (x : S38) : Bool :=
  if x.f0 = 0 ∨ x.f0 = 6 ∨ x.f0 = 9 ∨ x.f0 = 10 then decide (0 ≤ x.f1 ∧ x.f1 ≤ (n : Int)) else if x.f0 = 1 ∨ x.f0 = 2 then decide (0 ≤ x.f1 ∧ x.f1 ≤ x.f2 ∧ x.f2 ≤ (n : Int)) else if x.f0 = 3 then decide (0 ≤ x.f1 ∧ x.f1 < (n : Int)) else true
theorem may_ev (l : List Int) (x : S38) : Ev (fun k => spec_May.f k l x.f0 x.f1 x.f2 x.f3) (mayL l.length x) := by
  refine ⟨2, fun k hk => ?_⟩
  obtain ⟨m, rfl⟩ : ∃ m, k = m + 1 + 1 := ⟨k - 2, by omega⟩
  show spec_May.f (m + 1 + 1) l x.f0 x.f1 x.f2 x.f3 = _
  unfold spec_May.f mayL
  simp only [spec_May.j0, spec_May.j1]
  by_cases c0 : x.f0 = 0
  · simp only [c0]; by_cases h1 : 0 ≤ x.f1 <;> simp [h1]
  by_cases c6 : x.f0 = 6
  · simp only [c6]; by_cases h1 : 0 ≤ x.f1 <;> simp [h1]
  by_cases c9 : x.f0 = 9
  · simp only [c9]; by_cases h1 : 0 ≤ x.f1 <;> simp [h1]
  by_cases c10 : x.f0 = 10
  · simp only [c10]; by_cases h1 : 0 ≤ x.f1 <;> simp [h1]
  by_cases c1 : x.f0 = 1
  · simp only [c1]; by_cases h1 : 0 ≤ x.f1 <;> by_cases h2 : x.f1 ≤ x.f2 <;> simp [h1, h2]
  by_cases c2 : x.f0 = 2
  · simp only [c2]; by_cases h1 : 0 ≤ x.f1 <;> by_cases h2 : x.f1 ≤ x.f2 <;> simp [h1, h2]
  by_cases c3 : x.f0 = 3
  · simp only [c3]; by_cases h1 : 0 ≤ x.f1 <;> simp [h1]
  simp [c0, c6, c9, c10, c1, c2, c3]
theorem ones {α : Type} : ∀ xs : List α, (xs.map fun _ => 1).sum = xs.length
  | [] => rfl
  | _ :: xs => by rw [List.map_cons, List.sum_cons, ones xs, List.length_cons]; omega
/-- What a script weighs. -/
abbrev weigh (l : List S38) : Nat := (l.map (fun x_ : S38 => 1 + 1 + 1 + ((x_.f3.map fun _ => 1).sum + 1) + 1)).sum + 1
theorem mass_le : ∀ l : List S38, mass l + 1 ≤ weigh l
  | [] => Nat.le_refl _
  | x :: l => by
    have h := mass_le l
    unfold weigh at h ⊢
    rw [List.map_cons, List.sum_cons, ones x.f3]
    simp only [mass]
    omega
abbrev lv (t : RopePure.T) : Nat := t.sizes.length
theorem lv_pos : ∀ t : RopePure.T, 1 ≤ lv t
  | .leaf _ => Nat.le_refl _
  | .node l r => by
    have : 1 ≤ l.sizes.length := lv_pos l
    show 1 ≤ (l.sizes ++ r.sizes).length
    rw [List.length_append]
    omega
theorem lv_node (l r : RopePure.T) : lv (.node l r) = lv l + lv r := List.length_append ..
theorem lv_short {xs : List Int} (h : xs.length ≤ 16384) : lv (RopePure.T.new xs) = 1 := by
  unfold lv
  rw [RopePure.T.new_short (by omega)]
  rfl
theorem lv_new : ∀ (n : Nat) (xs : List Int), xs.length ≤ n → lv (RopePure.T.new xs) ≤ max 1 (xs.length / 8192)
  | 0, xs, h => by rw [lv_short (by omega)]; omega
  | n + 1, xs, h => by
    by_cases c : 16384 < xs.length
    · have a := lv_new n (xs.take (xs.length / 2)) (by rw [List.length_take]; omega)
      have b := lv_new n (xs.drop (xs.length / 2)) (by rw [List.length_drop]; omega)
      rw [List.length_take] at a
      rw [List.length_drop] at b
      rw [RopePure.T.new_long c, lv_node]
      omega
    · rw [lv_short (by omega)]; omega
theorem lv_adj (l r : RopePure.T) : lv (RopePure.T.adj l r) ≤ lv l + lv r := by
  have := lv_pos l
  unfold RopePure.T.adj
  split
  · show 1 ≤ _; omega
  · rw [lv_node]; exact Nat.le_refl _
theorem lv_rem : ∀ (t : RopePure.T) (a b : Nat), a ≤ b → RopePure.T.Small t → lv (RopePure.T.rem t a b) ≤ lv t
  | .leaf xs, a, b, hab, h => by
    have h' : xs.length ≤ 16384 := h
    have := lv_short (xs := xs.take a ++ xs.drop b) (by rw [List.length_append, List.length_take, List.length_drop]; omega)
    show lv (RopePure.T.new _) ≤ 1
    omega
  | .node l r, a, b, hab, ⟨h1, h2⟩ => by
    rw [RopePure.T.rem, lv_node]
    refine Nat.le_trans (lv_adj _ _) ?_
    have := lv_rem l (min a l.len) (min b l.len) (by omega) h1
    have := lv_rem r (min (a - l.len) r.len) (min (b - l.len) r.len) (by omega) h2
    split <;> split <;> omega
theorem lv_ins (vs : List Int) : ∀ (t : RopePure.T) (p : Nat), RopePure.T.Small t → p ≤ t.len → lv (RopePure.T.ins vs t p) ≤ lv t + vs.length + 3
  | .leaf xs, p, h, hp => by
    have h' : xs.length ≤ 16384 := h
    have hp' : p ≤ xs.length := hp
    have := lv_new _ (xs.take p ++ vs ++ xs.drop p) (Nat.le_refl _)
    rw [List.length_append, List.length_append, List.length_take, List.length_drop] at this
    show lv (RopePure.T.new _) ≤ 1 + vs.length + 3
    omega
  | .node l r, p, ⟨h1, h2⟩, hp => by
    rw [RopePure.T.len_node] at hp
    rw [RopePure.T.ins, lv_node]
    split
    · rename_i c
      have := lv_ins vs l p h1 (Nat.le_of_lt c)
      have := lv_adj (RopePure.T.ins vs l p) r
      omega
    · rename_i c
      have := lv_ins vs r (p - l.len) h2 (by omega)
      have := lv_adj l (RopePure.T.ins vs r (p - l.len))
      omega
theorem lv_split : ∀ (t : RopePure.T) (i : Nat), RopePure.T.Small t → lv (RopePure.T.split t i).1 + lv (RopePure.T.split t i).2 ≤ lv t + 1
  | .leaf xs, i, h => by
    have h' : xs.length ≤ 16384 := h
    have a := lv_short (xs := xs.take i) (by rw [List.length_take]; omega)
    have b := lv_short (xs := xs.drop i) (by rw [List.length_drop]; omega)
    show lv (RopePure.T.new _) + lv (RopePure.T.new _) ≤ 1 + 1
    omega
  | .node l r, i, ⟨h1, h2⟩ => by
    rw [RopePure.T.split, lv_node]
    split
    · show lv l + lv r ≤ _; omega
    · split
      · have := lv_split l i h1
        have := lv_adj (RopePure.T.split l i).2 r
        show lv (RopePure.T.split l i).1 + lv (RopePure.T.adj (RopePure.T.split l i).2 r) ≤ _
        omega
      · have := lv_split r (i - l.len) h2
        have := lv_adj l (RopePure.T.split r (i - l.len)).1
        show lv (RopePure.T.adj l (RopePure.T.split r (i - l.len)).1) + lv (RopePure.T.split r (i - l.len)).2 ≤ _
        omega
/-- What a rope is: no leaf too long, so many elements, so many leaves. -/
structure Rok (n m : Nat) (t : RopePure.T) : Prop where
  small : t.Small
  len : t.len ≤ n
  lv_ : lv t ≤ m
theorem rok_new (xs : List Int) : Rok xs.length (xs.length + 1) (RopePure.T.new xs) := ⟨RopePure.T.small_new xs, Nat.le_of_eq (RopePure.T.len_new xs), by have := lv_new _ xs (Nat.le_refl _); omega⟩
theorem may_prop {n : Nat} {x : S38} (h : mayL n x = true) : (x.f0 = 0 ∨ x.f0 = 6 ∨ x.f0 = 9 ∨ x.f0 = 10 → 0 ≤ x.f1 ∧ x.f1 ≤ (n : Int)) ∧ (x.f0 = 1 ∨ x.f0 = 2 → 0 ≤ x.f1 ∧ x.f1 ≤ x.f2 ∧ x.f2 ≤ (n : Int)) ∧ (x.f0 = 3 → 0 ≤ x.f1 ∧ x.f1 < (n : Int)) := by
  unfold mayL at h
  refine ⟨fun c => ?_, fun c => ?_, fun c => ?_⟩
  · rw [if_pos c] at h; exact of_decide_eq_true h
  · rw [if_neg (by omega), if_pos c] at h; exact of_decide_eq_true h
  · rw [if_neg (by omega), if_neg (by omega), if_pos c] at h; exact of_decide_eq_true h
theorem len_rem {t : RopePure.T} {a b : Nat} (hab : a ≤ b) (hb : b ≤ t.len) : (RopePure.T.rem t a b).len ≤ t.len := Rope.rem_len t a b hab hb
theorem rok_step {n m : Nat} {t : RopePure.T} (h : Rok n m t) (x : S38) (hm : mayL t.len x = true) : Rok (n + x.f3.length) (m + x.f3.length + 3) (Rope.stepR t (cut_of x)) := by
  obtain ⟨h1, h2, h3⟩ := h
  obtain ⟨p1, p2, p3⟩ := may_prop hm
  have key : ∀ (t2 : RopePure.T), t2.Small → t2.len ≤ t.len + x.f3.length → lv t2 ≤ lv t + x.f3.length + 3 → Rok (n + x.f3.length) (m + x.f3.length + 3) t2 := fun t2 a b c => ⟨a, by omega, by omega⟩
  unfold Rope.stepR cut_of
  dsimp only
  by_cases c0 : x.f0 = 0
  · rw [if_pos c0]
    obtain ⟨q1, q2⟩ := p1 (.inl c0)
    exact key _ (RopePure.T.small_ins x.f3 t _ h1) (Nat.le_of_eq (Rope.ins_len2 t x.f3 _ (by omega))) (lv_ins x.f3 t _ h1 (by omega))
  rw [if_neg c0]
  by_cases c1 : x.f0 = 1
  · rw [if_pos c1]
    obtain ⟨q1, q2, q3⟩ := p2 (.inl c1)
    exact key _ (RopePure.T.small_rem t _ _ h1) (Nat.le_trans (len_rem (by omega) (by omega)) (Nat.le_add_right _ _)) (by have := lv_rem t x.f1.toNat x.f2.toNat (by omega) h1; omega)
  rw [if_neg c1]
  by_cases c6 : x.f0 = 6
  · rw [if_pos c6]
    obtain ⟨q1, q2⟩ := p1 (.inr (.inl c6))
    have hs := RopePure.T.small_split t x.f1.toNat h1
    obtain ⟨e1, e2⟩ := Rope.split_len t x.f1.toNat (by omega)
    exact key _ (RopePure.T.small_adj hs.2 hs.1) (by rw [RopePure.T.len_adj]; omega) (by have := lv_adj (RopePure.T.split t x.f1.toNat).2 (RopePure.T.split t x.f1.toNat).1; have := lv_split t x.f1.toNat h1; omega)
  rw [if_neg c6]
  have hn := lv_new _ x.f3 (Nat.le_refl _)
  by_cases c7 : x.f0 = 7
  · rw [if_pos c7]
    exact key _ (RopePure.T.small_adj h1 (RopePure.T.small_new _)) (by rw [RopePure.T.len_adj, RopePure.T.len_new]; exact Nat.le_refl _) (by have := lv_adj t (RopePure.T.new x.f3); omega)
  rw [if_neg c7]
  by_cases c8 : x.f0 = 8
  · rw [if_pos c8]
    exact key _ (RopePure.T.small_adj (RopePure.T.small_new _) h1) (by rw [RopePure.T.len_adj, RopePure.T.len_new]; omega) (by have := lv_adj (RopePure.T.new x.f3) t; omega)
  rw [if_neg c8]
  by_cases c9 : x.f0 = 9
  · rw [if_pos c9]
    obtain ⟨q1, q2⟩ := p1 (.inr (.inr (.inl c9)))
    obtain ⟨e1, e2⟩ := Rope.split_len t x.f1.toNat (by omega)
    exact key _ (RopePure.T.small_split t _ h1).1 (by omega) (by have := lv_split t x.f1.toNat h1; omega)
  rw [if_neg c9]
  by_cases c10 : x.f0 = 10
  · rw [if_pos c10]
    obtain ⟨q1, q2⟩ := p1 (.inr (.inr (.inr c10)))
    obtain ⟨e1, e2⟩ := Rope.split_len t x.f1.toNat (by omega)
    exact key _ (RopePure.T.small_split t _ h1).2 (by omega) (by have := lv_split t x.f1.toNat h1; omega)
  rw [if_neg c10]
  exact key _ h1 (Nat.le_add_right _ _) (by omega)
/-- Whether all steps of a script may be done. -/
def allMay : RopePure.T → List S38 → Bool
  | _, [] => true
  | t, x :: l => mayL t.len x && allMay (Rope.stepR t (cut_of x)) l
theorem okB_of : ∀ (l : List S38) (n m : Nat) (t : RopePure.T), Rok n m t → n + mass l ≤ 4194304 → m + 3 * mass l ≤ 16777216 → allMay t l = true → okB t (l.map cut_of) = true
  | [], _, _, _, _, _, _, _ => rfl
  | x :: l, n, m, t, h, hn, hm, ha => by
    have h2 := (Bool.and_eq_true _ _).mp ha
    simp only [mass] at hn hm
    have hr := rok_step h x h2.1
    have ih := okB_of l _ _ _ hr (by omega) (by omega) h2.2
    have hp := may_prop h2.1
    show (decide _ && okB _ _) = true
    rw [ih, Bool.and_true]
    have hl := h.len
    have hv : t.sizes.length ≤ m := h.lv_
    exact decide_eq_true ⟨hp, by show t.len + x.f3.length ≤ _; omega, by omega⟩
theorem cut_ev (t : RopePure.T) (x : S38) (hm : mayL t.len x = true) (hl : t.len + x.f3.length ≤ 1099511627776) : Ev (fun k => spec_Cutting.f k t.flat x.f0 x.f1 x.f2 x.f3) ((Rope.stepR t (cut_of x)).flat, (Rope.tellR t (cut_of x)).1, (Rope.tellR t (cut_of x)).2.1, ([] : List Int)) := by
  obtain ⟨p1, p2, p3⟩ := may_prop hm
  have hf : t.flat.length = t.len := rfl
  refine ⟨1, fun k hk => ?_⟩
  obtain ⟨m, rfl⟩ : ∃ m, k = m + 1 := ⟨k - 1, by omega⟩
  show spec_Cutting.f (m + 1) t.flat x.f0 x.f1 x.f2 x.f3 = _
  obtain ⟨d, a, b, data⟩ := x
  dsimp only at p1 p2 p3 hl ⊢
  unfold spec_Cutting.f Rope.stepR Rope.tellR cut_of
  dsimp only
  by_cases c0 : d = 0
  · obtain ⟨q1, q2⟩ := p1 (.inl c0)
    obtain ⟨y, rfl⟩ : ∃ n : Nat, a = (n : Int) := ⟨a.toNat, by omega⟩
    subst c0
    rw [if_pos rfl, if_pos (by omega), if_pos (by omega), both_ev _ _ (by rw [List.length_take]; omega), Option.bind_some, both_ev _ _ (by rw [List.length_append, List.length_take, List.length_drop]; omega), Option.bind_some]
    simp only [Int.toNat_natCast, if_true]
    rw [RopePure.T.flat_ins data t y (by omega)]
    simp
  rw [if_neg c0, if_neg c0]
  by_cases c1 : d = 1
  · obtain ⟨q1, q2, q3⟩ := p2 (.inl c1)
    obtain ⟨y, rfl⟩ : ∃ n : Nat, a = (n : Int) := ⟨a.toNat, by omega⟩
    obtain ⟨z, rfl⟩ : ∃ n : Nat, b = (n : Int) := ⟨b.toNat, by omega⟩
    subst c1
    rw [if_pos rfl, if_pos (by omega), if_pos (by omega), if_pos (by omega), if_pos (by omega), both_ev _ _ (by rw [List.length_take, List.length_drop]; omega), Option.bind_some]
    simp only [Int.toNat_natCast, if_true]
    rw [RopePure.T.flat_rem t y z (by omega) (by omega)]
    simp
  rw [if_neg c1, if_neg c1]
  by_cases c2 : d = 2
  · obtain ⟨q1, q2, q3⟩ := p2 (.inr c2)
    subst c2
    rw [if_pos rfl, if_pos (by omega), if_pos (by omega), if_pos (by omega), List.drop_take]
    rfl
  rw [if_neg c2, if_neg c2]
  by_cases c3 : d = 3
  · obtain ⟨q1, q2⟩ := p3 c3
    subst c3
    rw [if_pos rfl, if_pos (by omega), if_pos (by omega)]
    rfl
  rw [if_neg c3, if_neg c3]
  by_cases c4 : d = 4
  · subst c4
    simp [spec_Cutting.j0]
  by_cases c11 : d = 11
  · subst c11
    simp [spec_Cutting.j0]
  by_cases c5 : d = 5
  · subst c5
    simp [spec_Cutting.j0, hf]
  by_cases c6 : d = 6
  · obtain ⟨q1, q2⟩ := p1 (.inr (.inl c6))
    obtain ⟨y, rfl⟩ : ∃ n : Nat, a = (n : Int) := ⟨a.toNat, by omega⟩
    subst c6
    obtain ⟨e1, e2⟩ := RopePure.T.flat_split t y (by omega)
    simp only [spec_Cutting.j0]
    rw [if_neg (by simp), if_neg (by simp), if_neg (by simp), if_pos trivial, if_pos (by omega), if_pos (by omega), both_ev _ _ (by rw [List.length_take, List.length_drop]; omega), Option.bind_some]
    simp [RopePure.T.flat_adj, e1, e2]
  by_cases c7 : d = 7
  · subst c7
    simp only [spec_Cutting.j0]
    rw [if_neg (by simp), if_neg (by simp), if_neg (by simp), if_neg (by simp), if_pos trivial, both_ev _ _ (by omega), Option.bind_some]
    simp [RopePure.T.flat_adj, RopePure.T.flat_new]
  by_cases c8 : d = 8
  · subst c8
    simp only [spec_Cutting.j0]
    rw [if_neg (by simp), if_neg (by simp), if_neg (by simp), if_neg (by simp), if_neg (by simp), if_pos trivial, both_ev _ _ (by omega), Option.bind_some]
    simp [RopePure.T.flat_adj, RopePure.T.flat_new]
  by_cases c9 : d = 9
  · obtain ⟨q1, q2⟩ := p1 (.inr (.inr (.inl c9)))
    obtain ⟨y, rfl⟩ : ∃ n : Nat, a = (n : Int) := ⟨a.toNat, by omega⟩
    subst c9
    obtain ⟨e1, e2⟩ := RopePure.T.flat_split t y (by omega)
    simp only [spec_Cutting.j0]
    rw [if_neg (by simp), if_neg (by simp), if_neg (by simp), if_neg (by simp), if_neg (by simp), if_neg (by simp), if_pos trivial, if_pos (by omega), if_pos (by omega)]
    simp [e1]
  by_cases c10 : d = 10
  · obtain ⟨q1, q2⟩ := p1 (.inr (.inr (.inr c10)))
    obtain ⟨y, rfl⟩ : ∃ n : Nat, a = (n : Int) := ⟨a.toNat, by omega⟩
    subst c10
    obtain ⟨e1, e2⟩ := RopePure.T.flat_split t y (by omega)
    simp only [spec_Cutting.j0]
    rw [if_neg (by simp), if_neg (by simp), if_neg (by simp), if_neg (by simp), if_neg (by simp), if_neg (by simp), if_neg (by simp), if_pos trivial, if_pos (by omega), if_pos (by omega)]
    simp [e2]
  simp [spec_Cutting.j0, c4, c5, c6, c7, c8, c9, c10, c11]
/-- What the rows tell. -/
def saidL : RopePure.T → List S38 → List S34
  | _, [] => []
  | t, x :: l => ⟨(Rope.tellR t (cut_of x)).1, (Rope.tellR t (cut_of x)).2.1, []⟩ :: saidL (Rope.stepR t (cut_of x)) l
theorem rows_row (l : List S38) (hl : mass l ≤ 1048576) (d : Nat) : ∀ (j n m : Nat) (t : RopePure.T) (o : List S34), j + d = l.length → Rok n m t → n + mass (l.drop j) ≤ 4194304 → o.length ≤ j →
    Ev (fun k => spec_Rows.l0 k l t.flat o (j : Int)) (if allMay t (l.drop j) = true then ((Rope.runR t ((l.drop j).map cut_of)).flat, o ++ saidL t (l.drop j), true) else (([] : List Int), ([] : List S34), false)) := by
  have hlen := mass_len l
  induction d with
  | zero =>
    intro j n m t o hj hr hn ho
    have hd : l.drop j = [] := List.drop_eq_nil_of_le (by omega)
    rw [hd, if_pos (show allMay t [] = true from rfl)]
    refine Ev.step (f := fun _ => some _) (fun k => ?_) (Ev.now _)
    simp only [spec_Rows.l0]
    rw [if_neg (by omega)]
    simp [Rope.runR, saidL]
  | succ d ih =>
    intro j n m t o hj hr hn ho
    have hjl : j < l.length := by omega
    have hx : l[j]? = some l[j] := List.getElem?_eq_getElem hjl
    have hd : l.drop j = l[j] :: l.drop (j + 1) := List.drop_eq_getElem_cons hjl
    generalize l[j] = x at hx hd
    rw [hd] at hn ⊢
    simp only [mass] at hn
    obtain ⟨K1, h1⟩ := may_ev t.flat x
    have hfl : t.flat.length = t.len := rfl
    rw [hfl] at h1
    cases q : mayL t.len x with
    | false =>
      rw [if_neg (by show ¬ (mayL t.len x && _) = true; rw [q]; simp)]
      refine ⟨K1 + 1, fun k hk => ?_⟩
      obtain ⟨k', rfl⟩ : ∃ k', k = k' + 1 := ⟨k - 1, by omega⟩
      have h1' := h1 k' (by omega)
      dsimp only at h1'
      show spec_Rows.l0 (k' + 1) l t.flat o (j : Int) = _
      simp only [spec_Rows.l0]
      rw [if_pos (by omega), if_pos (by omega), rd_cut hx, h1', q, Option.bind_some, if_neg (by simp)]
    | true =>
      have hlen2 := hr.len
      obtain ⟨K2, h2⟩ := cut_ev t x q (by omega)
      have hr2 := rok_step hr x q
      obtain ⟨K3, h3⟩ := ih (j + 1) _ _ (Rope.stepR t (cut_of x)) (o ++ [(⟨(Rope.tellR t (cut_of x)).1, (Rope.tellR t (cut_of x)).2.1, ([] : List Int)⟩ : S34)]) (by omega) hr2 (by omega) (by simp; omega)
      refine ⟨K1 + K2 + K3 + 1, fun k hk => ?_⟩
      obtain ⟨k', rfl⟩ : ∃ k', k = k' + 1 := ⟨k - 1, by omega⟩
      have h1' := h1 k' (by omega)
      have h2' := h2 k' (by omega)
      have h3' := h3 k' (by omega)
      dsimp only at h1' h2' h3'
      show spec_Rows.l0 (k' + 1) l t.flat o (j : Int) = _
      simp only [spec_Rows.l0]
      rw [if_pos (by omega), if_pos (by omega), rd_cut hx, h1', q, Option.bind_some, if_pos rfl, h2', Option.bind_some]
      dsimp only
      rw [if_pos (by omega), w1 j (by omega), h3']
      have ea : allMay t (x :: l.drop (j + 1)) = allMay (Rope.stepR t (cut_of x)) (l.drop (j + 1)) := by
        show (mayL t.len x && _) = _
        rw [q, Bool.true_and]
      rw [ea]
      by_cases g : allMay (Rope.stepR t (cut_of x)) (l.drop (j + 1)) = true
      · rw [if_pos g, if_pos g]
        simp [saidL, Rope.runR]
      · rw [if_neg g, if_neg g]
theorem rows_ev (first : List Int) (l : List S38) (hl : first.length + mass l ≤ 1048576) :
    Ev (fun k => spec_Rows.f k first l) (if allMay (RopePure.T.new first) l = true then ((Rope.runR (RopePure.T.new first) (l.map cut_of)).flat, saidL (RopePure.T.new first) l, true) else (([] : List Int), ([] : List S34), false)) := by
  have h := rows_row l (by omega) l.length 0 _ _ (RopePure.T.new first) [] (Nat.zero_add _) (rok_new first) (by rw [List.drop_zero]; omega) (Nat.zero_le _)
  rw [List.drop_zero, List.nil_append, RopePure.T.flat_new] at h
  refine Ev.congr (fun k => ?_) h
  unfold spec_Rows.f
  rw [both_ev _ _ (by simp; omega), Option.bind_some, List.append_nil]
  rfl
theorem toldR_app : ∀ (a b : List Rope.Cut4) (t : RopePure.T), Rope.toldR t (a ++ b) = Rope.toldR t a ++ Rope.toldR (Rope.runR t a) b
  | [], _, _ => rfl
  | _ :: a, b, _ => congrArg (_ :: ·) (toldR_app a b _)
theorem toldR_len : ∀ (a : List Rope.Cut4) (t : RopePure.T), (Rope.toldR t a).length = a.length
  | [], _ => rfl
  | _ :: a, _ => congrArg (· + 1) (toldR_len a _)
theorem allMay_app : ∀ (l m : List S38) (t : RopePure.T), allMay t (l ++ m) = (allMay t l && allMay (Rope.runR t (l.map cut_of)) m)
  | [], m, t => by simp [allMay, Rope.runR]
  | x :: l, m, t => by
    show (mayL t.len x && allMay (Rope.stepR t (cut_of x)) (l ++ m)) = ((mayL t.len x && allMay (Rope.stepR t (cut_of x)) l) && _)
    rw [allMay_app l m, Bool.and_assoc]
    rfl
theorem mass_app : ∀ (l m : List S38), mass (l ++ m) = mass l + mass m
  | [], m => by simp [mass]
  | x :: l, m => by simp only [List.cons_append, mass, mass_app l m]; omega
theorem run_rok : ∀ (l : List S38) (n m : Nat) (t : RopePure.T), Rok n m t → allMay t l = true → Rok (n + mass l) (m + 3 * mass l) (Rope.runR t (l.map cut_of))
  | [], _, _, _, h, _ => ⟨h.small, Nat.le_trans h.len (Nat.le_add_right _ _), Nat.le_trans h.lv_ (Nat.le_add_right _ _)⟩
  | x :: l, n, m, t, h, ha => by
    have h2 := (Bool.and_eq_true _ _).mp ha
    have hr := run_rok l _ _ _ (rok_step h x h2.1) h2.2
    exact ⟨hr.small, Nat.le_trans hr.len (by simp only [mass]; omega), Nat.le_trans hr.lv_ (by simp only [mass]; omega)⟩
abbrev runF (first : List Int) (l : List S38) : RopePure.T := Rope.runR (RopePure.T.new first) (l.map cut_of)
theorem runR_app : ∀ (a b : List Rope.Cut4) (t : RopePure.T), Rope.runR t (a ++ b) = Rope.runR (Rope.runR t a) b
  | [], _, _ => rfl
  | _ :: a, b, _ => runR_app a b _
theorem runF_app (first : List Int) (l m : List S38) : runF first (l ++ m) = Rope.runR (runF first l) (m.map cut_of) := by
  show Rope.runR _ ((l ++ m).map cut_of) = _
  rw [List.map_append, runR_app]
/-- What the last of some steps behind a script tells. -/
theorem rowLast_more (first : List Int) (l m : List S38) (x : S38) (hl : first.length + mass (l ++ m) + x.f3.length ≤ 3145728) (ha : allMay (RopePure.T.new first) (l ++ m) = true) (hx : mayL (runF first (l ++ m)).len x = true) :
    laws_rowLast.f first l (m ++ [x]) = some ((Rope.tellR (runF first (l ++ m)) (cut_of x)).1, (Rope.tellR (runF first (l ++ m)) (cut_of x)).2.1, (Rope.tellR (runF first (l ++ m)) (cut_of x)).2.2, true) := by
  have hlen := mass_len (l ++ m)
  have hlm : (l ++ m).length = l.length + m.length := List.length_append ..
  have ea : l ++ (m ++ [x]) = (l ++ m) ++ [x] := (List.append_assoc ..).symm
  unfold laws_rowLast.f
  rw [Option.bind_some, if_pos (by rw [List.length_nil]; omega), Option.bind_some, if_pos (by rw [List.nil_append, List.length_append, List.length_singleton]; omega), Option.bind_some, List.nil_append, ea]
  generalize l ++ m = l at hl ha hx hlen
  have hn : (l ++ [x]).length = l.length + 1 := by simp
  have hm : mass (l ++ [x]) = mass l + (x.f3.length + 1) := by rw [mass_app]; simp [mass]
  have hall : allMay (RopePure.T.new first) (l ++ [x]) = true := by
    rw [allMay_app, ha, Bool.true_and]
    show (mayL (runF first l).len x && true) = true
    rw [hx]; rfl
  have hok : okB (RopePure.T.new first) ((l ++ [x]).map cut_of) = true := okB_of _ _ _ _ (rok_new first) (by omega) (by omega) hall
  have hf : impl_RopeRun.f first (l ++ [x]) = some ((Rope.toldR (RopePure.T.new first) ((l ++ [x]).map cut_of)).map part_of) := by
    unfold impl_RopeRun.f
    rw [if_pos ⟨by omega, by omega, hok⟩]
  have hlt : ((Rope.toldR (RopePure.T.new first) ((l ++ [x]).map cut_of)).map part_of).length = l.length + 1 := by rw [List.length_map, toldR_len, List.length_map, hn]
  have hat : rd_T34 ((Rope.toldR (RopePure.T.new first) ((l ++ [x]).map cut_of)).map part_of) ((l.length : Nat) : Int) = part_of (Rope.tellR (runF first l) (cut_of x)) := by
    rw [List.map_append, toldR_app, List.map_append]
    unfold rd_T34
    rw [Int.toNat_natCast, List.getD_eq_getElem?_getD, List.getElem?_append_right (by rw [List.length_map, toldR_len, List.length_map]; exact Nat.le_refl _)]
    rw [List.length_map, toldR_len, List.length_map, Nat.sub_self]
    rfl
  rw [hf, Option.bind_some]
  generalize (Rope.toldR (RopePure.T.new first) ((l ++ [x]).map cut_of)).map part_of = tt at hlt hat
  rw [if_pos (by rw [hlt, hn]), if_neg (by omega), hlt, wm _ (by omega), if_pos (by omega), if_pos (by omega), hat]
  rfl
/-- What the last step behind a script tells. -/
theorem rowLast_ev (first : List Int) (l : List S38) (x : S38) (hl : first.length + mass l + x.f3.length ≤ 3145728) (ha : allMay (RopePure.T.new first) l = true) (hx : mayL (runF first l).len x = true) :
    laws_rowLast.f first l [x] = some ((Rope.tellR (runF first l) (cut_of x)).1, (Rope.tellR (runF first l) (cut_of x)).2.1, (Rope.tellR (runF first l) (cut_of x)).2.2, true) := by
  have h := rowLast_more first l [] x
  rw [List.append_nil] at h
  exact h hl ha hx
theorem same_row (xs : List Int) (hl : xs.length ≤ 1099511627776) (d : Nat) : ∀ j : Nat, j + d = xs.length → Ev (fun k => spec_Same.l0 k xs xs j) true := by
  induction d with
  | zero =>
    intro j hj
    refine Ev.step (f := fun _ => some true) (fun k => ?_) (Ev.now _)
    simp only [spec_Same.l0]
    rw [if_neg (by omega)]
  | succ d ih =>
    intro j hj
    refine Ev.step (fun k => ?_) (ih (j + 1) (by omega))
    simp only [spec_Same.l0]
    rw [if_pos (by omega), if_pos (by omega), if_pos (by omega), if_pos (by first | rfl | trivial), w1 j (by omega)]
theorem same_ev (xs : List Int) (hl : xs.length ≤ 1099511627776) : Ev (fun k => spec_Same.f k xs xs) true := by
  refine Ev.congr (fun k => ?_) (same_row xs hl xs.length 0 (Nat.zero_add _))
  unfold spec_Same.f
  rw [if_pos rfl]
  rfl
theorem mid_seg (a b d : List Int) : Rope.seg (a ++ d ++ b) a.length (a.length + d.length) = d := by
  unfold Rope.seg
  rw [List.append_assoc, List.drop_append_of_le_length (Nat.le_refl _), List.drop_length, List.nil_append, show a.length + d.length - a.length = d.length by omega, List.take_left]
theorem FnRopeUndo (first : List Int) (l : List S38) (a : Int) (data : List Int) (hm : first.length + mass l + data.length ≤ 1048576) : ∃ k, laws_FnRopeUndo.f k first l a data = some true := by
  obtain ⟨K0, h0⟩ := fits3_ev l (by omega)
  obtain ⟨K1, h1⟩ := rows_ev first l (by omega)
  cases q : allMay (RopePure.T.new first) l with
  | false =>
    refine ⟨K0 + K1 + 2, ?_⟩
    have h0' := h0 (K0 + K1 + 2) (by omega)
    have h1' := h1 (K0 + K1 + 1) (by omega)
    dsimp only at h0' h1'
    rw [if_neg (by rw [q]; simp)] at h1'
    unfold laws_FnRopeUndo.f
    rw [if_neg (by omega), h0', Option.bind_some, if_pos rfl]
    rw [laws_FnRopeUndo.j0, if_neg (by rw [decide_eq_true_eq]; omega), h1', Option.bind_some, if_neg (by simp)]
    rw [laws_FnRopeUndo.j1, if_pos rfl]
  | true =>
    have hr := run_rok l _ _ _ (rok_new first) q
    have hlen : (runF first l).len ≤ first.length + mass l := hr.len
    have hfl : (runF first l).flat.length = (runF first l).len := rfl
    obtain ⟨K2, h2⟩ := same_ev data (by omega)
    obtain ⟨K3, h3⟩ := same_ev (runF first l).flat (by omega)
    refine ⟨K0 + K1 + K2 + K3 + 2, ?_⟩
    have h0' := h0 (K0 + K1 + K2 + K3 + 2) (by omega)
    have h1' := h1 (K0 + K1 + K2 + K3 + 1) (by omega)
    have h2' := h2 (K0 + K1 + K2 + K3) (by omega)
    have h3' := h3 (K0 + K1 + K2 + K3) (by omega)
    dsimp only at h0' h1' h2' h3'
    rw [if_pos q] at h1'
    unfold laws_FnRopeUndo.f
    rw [if_neg (by omega), h0', Option.bind_some, if_pos rfl]
    rw [laws_FnRopeUndo.j0, if_neg (by rw [decide_eq_true_eq]; omega), h1', Option.bind_some]
    dsimp only
    rw [if_pos rfl]
    by_cases c1 : a < 0
    · rw [if_pos c1, laws_FnRopeUndo.j1, if_pos rfl]
    rw [if_neg c1]
    by_cases c2 : a > ((runF first l).flat.length : Int)
    · rw [decide_eq_true c2, laws_FnRopeUndo.j1, if_pos rfl]
    rw [decide_eq_false c2, laws_FnRopeUndo.j1, if_neg (by simp)]
    obtain ⟨y, rfl⟩ : ∃ n : Nat, a = (n : Int) := ⟨a.toNat, by omega⟩
    have hy : y ≤ (runF first l).len := by omega
    have hw : wrap64 ((y : Int) + (data.length : Int)) = ((y + data.length : Nat) : Int) := by rw [wrap64_in _ (by omega)]; rfl
    rw [hw]
    have e1 := rowLast_ev first l ⟨4, 0, 0, []⟩ (by show _ + _ + 0 ≤ _; omega) q (by simp [mayL])
    have t1 : Rope.tellR (runF first l) (cut_of ⟨4, 0, 0, []⟩) = (0, (runF first l).flat, []) := by simp [Rope.tellR, cut_of]
    rw [t1] at e1
    have hins := RopePure.T.flat_ins data (runF first l) y hy
    have il : (RopePure.T.ins data (runF first l) y).len = (runF first l).len + data.length := by
      have := congrArg List.length hins
      rw [List.length_append, List.length_append, List.length_take, List.length_drop] at this
      show (RopePure.T.ins data (runF first l) y).flat.length = _
      omega
    have m1 : mayL (runF first l).len ⟨0, (y : Int), 0, data⟩ = true := by simp [mayL]; omega
    have q1 : allMay (RopePure.T.new first) (l ++ [⟨0, (y : Int), 0, data⟩]) = true := by
      rw [allMay_app, q, Bool.true_and]
      show (mayL (runF first l).len _ && true) = true
      rw [m1]; rfl
    have s1 : runF first (l ++ [⟨0, (y : Int), 0, data⟩]) = RopePure.T.ins data (runF first l) y := by
      rw [runF_app]
      show Rope.stepR (runF first l) (0, (y : Int), 0, data) = _
      unfold Rope.stepR
      rw [if_pos rfl]
      rfl
    have e2 := rowLast_more first l [⟨0, (y : Int), 0, data⟩] ⟨2, (y : Int), ((y + data.length : Nat) : Int), []⟩ (by rw [mass_app]; simp [mass]; omega) q1 (by rw [s1, il]; simp [mayL]; omega)
    have t2 : Rope.tellR (RopePure.T.ins data (runF first l) y) (cut_of ⟨2, (y : Int), ((y + data.length : Nat) : Int), []⟩) = (0, data, []) := by
      have hs : Rope.seg (RopePure.T.ins data (runF first l) y).flat y (y + data.length) = data := by
        have h := mid_seg ((runF first l).flat.take y) ((runF first l).flat.drop y) data
        rw [List.length_take, Nat.min_eq_left (by omega)] at h
        rw [hins]
        exact h
      unfold Rope.tellR cut_of
      dsimp only
      rw [if_pos rfl, Int.toNat_natCast, Int.toNat_natCast, hs]
    rw [s1, t2] at e2
    have m2 : mayL (RopePure.T.ins data (runF first l) y).len ⟨1, (y : Int), ((y + data.length : Nat) : Int), []⟩ = true := by rw [il]; simp [mayL]; omega
    have q2 : allMay (RopePure.T.new first) (l ++ [⟨0, (y : Int), 0, data⟩, ⟨1, (y : Int), ((y + data.length : Nat) : Int), []⟩]) = true := by
      rw [allMay_app, q, Bool.true_and]
      show (mayL (runF first l).len _ && (mayL (Rope.stepR (runF first l) _).len _ && true)) = true
      have s1' : Rope.stepR (runF first l) (cut_of ⟨0, (y : Int), 0, data⟩) = RopePure.T.ins data (runF first l) y := by rw [← s1, runF_app]; rfl
      rw [m1, s1', m2]; rfl
    have s2 : runF first (l ++ [⟨0, (y : Int), 0, data⟩, ⟨1, (y : Int), ((y + data.length : Nat) : Int), []⟩]) = RopePure.T.rem (RopePure.T.ins data (runF first l) y) y (y + data.length) := by
      have s1' : Rope.stepR (runF first l) (cut_of ⟨0, (y : Int), 0, data⟩) = RopePure.T.ins data (runF first l) y := by rw [← s1, runF_app]; rfl
      rw [runF_app]
      show Rope.stepR (Rope.stepR (runF first l) (cut_of ⟨0, (y : Int), 0, data⟩)) (1, (y : Int), ((y + data.length : Nat) : Int), []) = _
      rw [s1']
      unfold Rope.stepR
      rw [if_neg (by simp), if_pos rfl]
      rfl
    have e3 := rowLast_more first l [⟨0, (y : Int), 0, data⟩, ⟨1, (y : Int), ((y + data.length : Nat) : Int), []⟩] ⟨4, 0, 0, []⟩ (by rw [mass_app]; simp [mass]; omega) q2 (by simp [mayL])
    have hrem : (RopePure.T.rem (RopePure.T.ins data (runF first l) y) y (y + data.length)).flat = (runF first l).flat := by
      rw [RopePure.T.flat_rem _ y (y + data.length) (by omega) (by omega), hins]
      have ht : ((runF first l).flat.take y).length = y := by rw [List.length_take]; omega
      rw [List.append_assoc, List.take_append_of_le_length (by omega), List.take_of_length_le (by omega), ← List.append_assoc, List.drop_append_of_le_length (by rw [List.length_append]; omega), List.drop_of_length_le (by rw [List.length_append]; omega), List.nil_append, List.take_append_drop]
    have t3 : Rope.tellR (RopePure.T.rem (RopePure.T.ins data (runF first l) y) y (y + data.length)) (cut_of ⟨4, 0, 0, []⟩) = (0, (runF first l).flat, []) := by
      simp [Rope.tellR, cut_of, hrem]
    rw [s2, t3] at e3
    rw [e1, Option.bind_some, show ([⟨0, (y : Int), 0, data⟩, ⟨2, (y : Int), ((y + data.length : Nat) : Int), []⟩] : List S38) = [⟨0, (y : Int), 0, data⟩] ++ [⟨2, (y : Int), ((y + data.length : Nat) : Int), []⟩] from rfl, e2, Option.bind_some, show ([⟨0, (y : Int), 0, data⟩, ⟨1, (y : Int), ((y + data.length : Nat) : Int), []⟩, ⟨4, 0, 0, []⟩] : List S38) = [⟨0, (y : Int), 0, data⟩, ⟨1, (y : Int), ((y + data.length : Nat) : Int), []⟩] ++ [⟨4, 0, 0, []⟩] from rfl, e3, Option.bind_some]
    dsimp only
    rw [if_pos rfl, if_pos rfl, if_pos rfl, h2', Option.bind_some, if_pos rfl, h3', Option.bind_some]
theorem FnRopeUndoU (first : List Int) (l : List S38) (a : Int) (data : List Int) (hb : ((first.map fun _ => 1).sum + 1) + weigh l + 1 + ((data.map fun _ => 1).sum + 1) ≤ 1048576) : ∃ k, laws_FnRopeUndo.f k first l a data = some true := by
  have h := mass_le l
  rw [ones first, ones data] at hb
  exact FnRopeUndo first l a data (by omega)
end Go.Proofs.Ytdlnpmbnedmmnaa.Pure
