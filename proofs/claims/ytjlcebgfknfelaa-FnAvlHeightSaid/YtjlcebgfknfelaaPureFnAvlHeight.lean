/- The height of an AVL tree of the numbers from 0 on, in whatever order: for every number of 16 bits and every row of draws. -/
import Derived.Test.YtjlcebgfknfelaaQFnAvlHeightx2
import Derived.IntWalk
namespace Go.Proofs.Ytjlcebgfknfelaa.Pure
open Go.RowKit Go.IntWalk Go.Proofs.Ytjlcebgfknfelaa.QFnAvlHeight Go.Proofs.YtjlcebgfknfelaaW.PrintWords Go.Proofs.YtjlcebgfknfelaaW.PrintLast Go.Proofs.Ytjlcebgfknfelaa.AvlPure Go.Proofs.Ytjlcebgfknfelaa.Avl Go.Proofs.Ytjlcebgfknfelaa.Less
open Go.Proofs.Ytjlcebgfknfelaa.AvlPure.T (Up putL)

/-! ### A tree of unlike keys -/
theorem rank_nil (k : Int) : rankOf [] k = k := by simp [rankOf]

theorem putL_new (key val : Int) : ∀ L : List (Int × Int), (∀ x ∈ L, x.1 ≠ key) → (putL (rankOf []) key val L).length = L.length + 1 ∧ ∀ y, y ∈ (putL (rankOf []) key val L).map (·.1) ↔ y = key ∨ y ∈ L.map (·.1)
  | [], _ => by simp [putL]
  | (k, v) :: r, h => by
    have hk : k ≠ key := h (k, v) (by simp)
    obtain ⟨i1, i2⟩ := putL_new key val r (fun x hx => h x (by simp [hx]))
    simp only [putL, rank_nil]
    by_cases c : k < key
    · rw [if_pos c]
      refine ⟨by simp [i1], fun y => ?_⟩
      rw [List.map_cons, List.mem_cons, i2 y, List.map_cons, List.mem_cons]
      constructor
      · rintro (h | h | h)
        · exact .inr (.inl h)
        · exact .inl h
        · exact .inr (.inr h)
      · rintro (h | h | h)
        · exact .inr (.inl h)
        · exact .inl h
        · exact .inr (.inr h)
    · rw [if_neg c, if_pos (by omega : key < k)]
      refine ⟨by simp, fun y => by simp⟩

/-- The script that puts keys, with whatever values. -/
def putsOf (l : List (Int × Int)) : List Act3 := l.map fun p => (0, p.1, p.2)

theorem puts_tree : ∀ (l : List (Int × Int)) (t : T), T.Right t → T.Even t → Up (rankOf []) t.list → (l.map (·.1)).Nodup → (∀ x ∈ l, x.1 ∉ t.list.map (·.1)) →
    T.Right (Avl.runT [] t (putsOf l)) ∧ T.Even (Avl.runT [] t (putsOf l)) ∧ (Avl.runT [] t (putsOf l)).size = t.size + l.length
  | [], t, hr, he, _, _, _ => ⟨hr, he, by simp [putsOf, Avl.runT]⟩
  | (k, v) :: l, t, hr, he, hu, hn, hd => by
    have e : Avl.stepT [] t (0, k, v) = T.ins (rankOf []) k v t := if_pos rfl
    have hl := T.list_ins (rk := rankOf []) (key := k) (val := v) hu
    obtain ⟨p1, p2⟩ := putL_new k v t.list (fun x hx e => hd (k, v) (by simp) (by rw [List.mem_map]; exact ⟨x, hx, e⟩))
    rw [List.map_cons, List.nodup_cons] at hn
    obtain ⟨i1, i2, i3⟩ := puts_tree l (T.ins (rankOf []) k v t) (T.right_ins _ k v hr) (T.even_ins _ k v hr he).1 (by rw [hl]; exact T.up_putL hu) hn.2 (fun x hx h => by
      rw [hl, p2] at h
      rcases h with h | h
      · exact hn.1 (by rw [← h]; exact List.mem_map.2 ⟨x, hx, rfl⟩)
      · exact hd x (by simp [hx]) h)
    have es : Avl.runT [] t (putsOf ((k, v) :: l)) = Avl.runT [] (T.ins (rankOf []) k v t) (putsOf l) := by
      show Avl.runT [] (Avl.stepT [] t (0, k, v)) _ = _
      rw [e]; rfl
    rw [es]
    refine ⟨i1, i2, ?_⟩
    rw [i3, T.size_list, T.size_list, hl, p1]
    simp only [List.length_cons]
    omega

theorem toldT_append (tb : List Int) : ∀ (a b : List Act3) (t : T), Avl.toldT tb t (a ++ b) = Avl.toldT tb t a ++ Avl.toldT tb (Avl.runT tb t a) b
  | [], _, _ => rfl
  | x :: a, b, t => by simp [Avl.toldT, Avl.runT, toldT_append tb a b]

/-! ### Sizes by heights -/
theorem size_lt : ∀ t : T, ∃ n : Nat, t.tall = n ∧ t.size + 1 ≤ (2 : Int) ^ n
  | .nil => ⟨0, rfl, by simp [T.size]⟩
  | .node k v h l r => by
    obtain ⟨a, ha, sa⟩ := size_lt l
    obtain ⟨b, hb, sb⟩ := size_lt r
    refine ⟨1 + max a b, by simp only [T.tall, ha, hb]; omega, ?_⟩
    have pa : (2 : Int) ^ a ≤ 2 ^ (max a b) := by exact_mod_cast Nat.pow_le_pow_right (by omega) (Nat.le_max_left a b)
    have pb : (2 : Int) ^ b ≤ 2 ^ (max a b) := by exact_mod_cast Nat.pow_le_pow_right (by omega) (Nat.le_max_right a b)
    rw [Nat.add_comm 1, Int.pow_succ]
    simp only [T.size]
    omega

/-- The least nodes by levels. -/
def lean' : Nat → Int
  | 0 => 0
  | 1 => 1
  | n + 2 => lean' n + lean' (n + 1) + 1
theorem lean_bd : ∀ n : Nat, 0 ≤ lean' n ∧ lean' n + 1 ≤ (2 : Int) ^ n ∧ 0 ≤ lean' (n + 1) ∧ lean' (n + 1) + 1 ≤ (2 : Int) ^ (n + 1) ∧ lean' n ≤ lean' (n + 1)
  | 0 => by simp [lean']
  | n + 1 => by
    obtain ⟨h1, h2, h3, h4, h5⟩ := lean_bd n
    have e : lean' (n + 1 + 1) = lean' n + lean' (n + 1) + 1 := rfl
    have p1 : (2 : Int) ^ (n + 1) = 2 ^ n * 2 := Int.pow_succ ..
    have p2 : (2 : Int) ^ (n + 1 + 1) = 2 ^ (n + 1) * 2 := Int.pow_succ ..
    refine ⟨h3, h4, by omega, by omega, by omega⟩
theorem lean_size : ∀ {t : T}, T.Even t → ∀ n : Nat, t.tall = n → lean' n ≤ t.size
  | .nil, _, n, h => by
    have : n = 0 := by simp [T.tall] at h; omega
    subst this; simp [lean', T.size]
  | .node k v h' l r, he, n, h => by
    obtain ⟨h1, h2, h3, h4⟩ := he
    simp only [T.tall] at h
    have a0 := T.tall_nonneg l
    have b0 := T.tall_nonneg r
    have sa := T.size_nonneg l
    have sb := T.size_nonneg r
    have ia := lean_size h3 l.tall.toNat (by omega)
    have ib := lean_size h4 r.tall.toNat (by omega)
    simp only [T.size]
    match n, h with
    | 0, h => omega
    | 1, h => simp only [lean']; omega
    | n + 2, h =>
      have e : lean' (n + 2) = lean' n + lean' (n + 1) + 1 := rfl
      have m := (lean_bd n).2.2.2.2
      rw [e]
      rcases Int.lt_or_le l.tall (n + 1) with c | c
      · have hr : r.tall.toNat = n + 1 := by omega
        rw [hr] at ib
        rcases Int.lt_or_le l.tall (n + 1) with _ | _
        · have hl : l.tall.toNat = n := by omega
          rw [hl] at ia; omega
        · omega
      · have hl : l.tall.toNat = n + 1 := by omega
        rw [hl] at ia
        by_cases c2 : r.tall.toNat = n
        · rw [c2] at ib; omega
        · have hr : r.tall.toNat = n + 1 := by omega
          rw [hr] at ib; omega

theorem least_ev (h : Nat) (hh : h ≤ 60) (d : Nat) : ∀ i : Nat, i + d = h → Ev (fun k => spec_Least.l0 k h (lean' i) (lean' (i + 1)) i) (lean' h) := by
  induction d with
  | zero =>
    intro i hi
    have : i = h := by omega
    subst this
    refine Ev.step (f := fun _ => some (lean' i)) (fun k => ?_) (Ev.now _)
    simp only [spec_Least.l0]
    rw [if_neg (by omega)]
  | succ d ih =>
    intro i hi
    have b := lean_bd i
    have p : (2 : Int) ^ (i + 1) ≤ 2 ^ 60 := by exact_mod_cast Nat.pow_le_pow_right (by omega) (by omega : i + 1 ≤ 60)
    have q : (2 : Int) ^ 60 = 1152921504606846976 := by decide
    refine Ev.step (fun k => ?_) (ih (i + 1) (by omega))
    simp only [spec_Least.l0]
    rw [if_pos (by omega), if_neg (by omega), wrap64_in (lean' i + lean' (i + 1)) (by omega), wrap64_in (lean' i + lean' (i + 1) + 1) (by omega), wrap64_in ((i : Int) + 1) (by omega)]
    rfl

/-! ### The loops -/
theorem rd_at (l : List Int) (a : Int) (h : a.toNat < l.length) : rd l a = l[a.toNat] := by simp [rd, List.getD_eq_getElem?_getD, h]

theorem turned_ev (x1 : List Int) (h1 : x1.length ≤ 2147483647) (d : Nat) : ∀ (i : Nat) (x5 : List Int), i + d = x1.length → x5.length ≤ 2147483647 → ∃ r, Ev (fun k => laws_treeTurned_int.l0 k x1 x5 i) r ∧ r.Perm x5 := by
  induction d with
  | zero =>
    intro i x5 hi _
    refine ⟨x5, Ev.step (f := fun _ => some x5) (fun k => ?_) (Ev.now _), List.Perm.refl _⟩
    simp only [laws_treeTurned_int.l0]
    rw [if_neg (by omega)]
  | succ d ih =>
    intro i x5 hi hl
    by_cases hn : (x5.length : Int) > 0
    · have b := tmod_bd (rd x1 i) x5.length hn
      have ea : wrap64 ((rd x1 i).tmod x5.length + x5.length) = (rd x1 i).tmod x5.length + x5.length := wrap64_in _ (by omega)
      have et : ((rd x1 i).tmod x5.length + x5.length).tmod x5.length = rd x1 i % x5.length := by rw [Int.tmod_eq_emod_of_nonneg (by omega)]; exact b.2.2
      have eb : (i : Int).tmod x5.length = (i : Int) % x5.length := Int.tmod_eq_emod_of_nonneg (by omega)
      have a0 := Int.emod_nonneg (rd x1 i) (show (x5.length : Int) ≠ 0 by omega)
      have a1 := Int.emod_lt_of_pos (rd x1 i) hn
      have b0 := Int.emod_nonneg (i : Int) (show (x5.length : Int) ≠ 0 by omega)
      have b1 := Int.emod_lt_of_pos (i : Int) hn
      obtain ⟨r, hr, hp⟩ := ih (i + 1) ((x5.set ((i : Int) % x5.length).toNat (rd x5 (rd x1 i % x5.length))).set (rd x1 i % x5.length).toNat (rd x5 ((i : Int) % x5.length))) (by omega) (by simpa using hl)
      refine ⟨r, Ev.step (fun k => ?_) hr, hp.trans ?_⟩
      · simp only [laws_treeTurned_int.l0]
        rw [if_pos (by omega), if_pos hn, if_neg (by omega), if_pos (by omega), ea, et, eb, if_pos a0, if_pos a1, if_pos b0, if_pos b1, wrap64_in ((i : Int) + 1) (by omega)]
        rfl
      · have ha : (rd x1 i % x5.length).toNat < x5.length := by omega
        have hb : ((i : Int) % x5.length).toNat < x5.length := by omega
        rw [rd_at x5 _ ha, rd_at x5 _ hb]
        exact List.set_set_perm hb ha
    · refine ⟨x5, Ev.step (f := fun _ => some x5) (fun k => ?_) (Ev.now _), List.Perm.refl _⟩
      simp only [laws_treeTurned_int.l0]
      rw [if_pos (by omega), if_neg hn]

def act_of (p : Int × Int) : S66 := ⟨0, p.1, p.2⟩
def three : List S66 := [⟨4, 0, 0⟩, ⟨3, 0, 0⟩, ⟨5, 0, 0⟩]
def numbered (l : List Int) (i d : Nat) : List (Int × Int) := (List.range' i d).map fun j : Nat => (rd l j, (j : Int))
theorem numbered_keys (l : List Int) : (numbered l 0 l.length).map (·.1) = l := by
  apply List.ext_getElem
  · simp [numbered]
  · intro j h1 h2
    simp [numbered, rd, List.getD_eq_getElem?_getD, h2]

theorem puts_ev (l : List Int) (hl : l.length ≤ 2147483647) (d : Nat) : ∀ (i : Nat) (x3 : List S66), i + d = l.length → x3.length = i → Ev (fun k => laws_treePuts.l0 k l x3 i) (x3 ++ (numbered l i d).map act_of ++ three) := by
  induction d with
  | zero =>
    intro i x3 hi hx
    refine Ev.step (f := fun _ => some (x3 ++ (numbered l i 0).map act_of ++ three)) (fun k => ?_) (Ev.now _)
    simp only [laws_treePuts.l0]
    rw [if_neg (by omega), Option.bind_some, if_pos (by simp; omega)]
    simp [numbered, three]
  | succ d ih =>
    intro i x3 hi hx
    have e : x3 ++ (numbered l i (d + 1)).map act_of ++ three = (x3 ++ [⟨0, rd l i, i⟩]) ++ (numbered l (i + 1) d).map act_of ++ three := by
      simp [numbered, List.range'_succ, act_of]
    rw [e]
    refine Ev.step (fun k => ?_) (ih (i + 1) (x3 ++ [⟨0, rd l i, i⟩]) (by omega) (by simp [hx]))
    simp only [laws_treePuts.l0]
    rw [if_pos (by omega), if_pos (by omega), if_pos (by omega), wrap64_in ((i : Int) + 1) (by omega)]
    rfl

theorem fill_ev (x1 : List Int) (n : Nat) (hn : n ≤ 65535) (hB : ∀ xs : List Int, xs.length = n → (∀ j (h : j < xs.length), xs[j] = (j : Int)) → Ev (fun k => laws_FnAvlHeight.l0 k x1 xs n) true) (d : Nat) :
    ∀ (i : Nat) (x5 : List Int), i + d = n → x5.length = n → (∀ j (h : j < x5.length), j < i → x5[j] = (j : Int)) → Ev (fun k => laws_FnAvlHeight.l0 k x1 x5 i) true := by
  induction d with
  | zero =>
    intro i x5 hi hl hx
    obtain rfl : i = n := by omega
    exact hB x5 hl (fun j h => hx j h (by omega))
  | succ d ih =>
    intro i x5 hi hl hx
    refine Ev.step (fun k => ?_) (ih (i + 1) (x5.set i i) (by omega) (by simpa using hl) (fun j h hj => ?_))
    · simp only [laws_FnAvlHeight.l0]
      rw [if_pos (by omega), if_pos (by omega), wrap64_in ((i : Int) + 1) (by omega)]
      rfl
    · rw [List.getElem_set]
      split
      · rename_i e; rw [e]
      · rename_i e
        exact hx j (by simpa using h) (by omega)

theorem rd_told (P : List S46) (a b c : S46) (n : Nat) (h : P.length = n) : rd_T46 (P ++ [a, b, c]) ((n : Int) + 1) = b ∧ rd_T46 (P ++ [a, b, c]) ((n : Int) + 2) = c := by
  have e1 : ((n : Int) + 1).toNat = n + 1 := by omega
  have e2 : ((n : Int) + 2).toNat = n + 2 := by omega
  unfold rd_T46
  rw [e1, e2]
  constructor
  · rw [List.getD_eq_getElem?_getD, List.getElem?_append_right (by omega)]
    simp [h]
  · rw [List.getD_eq_getElem?_getD, List.getElem?_append_right (by omega)]
    simp [h]

/-- What is asked of the tree, as the print has it. -/
def asked (k : Nat) (x5 : List Int) (t132 : List S66) (t135 : List S46) : Option Bool := (if (t135.length : Int) = (t132.length : Int) then (if 0 ≤ (wrap64 ((t135.length : Int) - 1)) then (if (wrap64 ((t135.length : Int) - 1)) < (t135.length : Int) then (if 0 ≤ (wrap64 ((t135.length : Int) - 2)) then (if (wrap64 ((t135.length : Int) - 2)) < (t135.length : Int) then (if ((rd_T46 t135 (wrap64 ((t135.length : Int) - 2))).f0) = (x5.length : Int) then (if ((rd_T46 t135 (wrap64 ((t135.length : Int) - 1))).f0) ≥ 0 then (if ((rd_T46 t135 (wrap64 ((t135.length : Int) - 1))).f0) < 62 then (if 0 ≤ (IntKind.u64.wrap ((rd_T46 t135 (wrap64 ((t135.length : Int) - 1))).f0)) then (if (x5.length : Int) < (shl .i64 1 (IntKind.u64.wrap ((rd_T46 t135 (wrap64 ((t135.length : Int) - 1))).f0))) then ((spec_Least.f k ((rd_T46 t135 (wrap64 ((t135.length : Int) - 1))).f0)).bind fun t140 => (some (decide ((x5.length : Int) ≥ t140)))) else (some false)) else (none)) else (some false)) else (some false)) else (some false)) else (none)) else (none)) else (none)) else (none)) else (some false))

theorem body_ev (x1 : List Int) (h1 : x1.length ≤ 2147483647) (n : Nat) (hn : n ≤ 65535) (xs : List Int) (hl : xs.length = n) (hx : ∀ j (h : j < xs.length), xs[j] = (j : Int)) : Ev (fun k => laws_FnAvlHeight.l0 k x1 xs n) true := by
  obtain ⟨r, hr, hp⟩ := turned_ev x1 h1 x1.length 0 xs (by omega) (by omega)
  have hrl : r.length = n := hp.length_eq.trans hl
  have nd : r.Nodup := by
    rw [hp.nodup_iff]
    refine List.pairwise_iff_getElem.2 (fun i j hi hj hij => ?_)
    rw [hx i hi, hx j hj]
    omega
  have hpv := puts_ev r (by omega) r.length 0 [] (by omega) rfl
  rw [List.nil_append] at hpv
  have ht : Ev (fun k => laws_treeTurned_int.f k xs x1) r := by
    unfold laws_treeTurned_int.f
    refine Ev.congr (fun k => ?_) hr
    rw [Option.bind_some, if_pos (by simp; omega)]
    rfl
  obtain ⟨i1, i2, i3⟩ := puts_tree (numbered r 0 r.length) .nil trivial trivial (by simp [T.list, Up]) (by rw [numbered_keys]; exact nd) (by simp [T.list])
  have i3' : (Avl.runT [] .nil (putsOf (numbered r 0 r.length))).size = n := by rw [i3]; simp [numbered, T.size, hrl]
  have hacts : ((numbered r 0 r.length).map act_of ++ three).map (fun x => (x.f0, x.f1, x.f2)) = putsOf (numbered r 0 r.length) ++ [(4, 0, 0), (3, 0, 0), (5, 0, 0)] := by
    simp [putsOf, three, act_of, Function.comp_def]
  generalize hT : Avl.runT [] .nil (putsOf (numbered r 0 r.length)) = t at i1 i2 i3'
  have hlen : (putsOf (numbered r 0 r.length)).length = n := by simp [putsOf, numbered, hrl]
  have hrun : impl_AvlRun.f [] ((numbered r 0 r.length).map act_of ++ three) = some ((Avl.toldT [] .nil (putsOf (numbered r 0 r.length))).map told_of ++ [told_of (0, false, keys t, vals t), told_of (t.size, false, [], []), told_of (t.ht, false, [], [])]) := by
    unfold impl_AvlRun.f
    rw [if_pos (by simp), if_pos (by simp [numbered, three, hrl]; omega), hacts, toldT_append, hT, List.map_append]
    rfl
  have hP : ((Avl.toldT [] .nil (putsOf (numbered r 0 r.length))).map told_of).length = n := by rw [List.length_map, toldT_length, hlen]
  generalize (Avl.toldT [] .nil (putsOf (numbered r 0 r.length))).map told_of = P at hrun hP
  obtain ⟨q1, q2⟩ := rd_told P (told_of (0, false, keys t, vals t)) (told_of (t.size, false, [], [])) (told_of (t.ht, false, [], [])) n hP
  obtain ⟨m, hm, hsz⟩ := size_lt t
  have hm34 : m < 34 := by
    rcases Nat.lt_or_ge m 34 with h | h
    · exact h
    · have := T.even_size 17 i2 (by rw [hm]; omega)
      have e : (2 : Int) ^ 17 = 131072 := by decide
      omega
  have hht : t.ht = m := by rw [i1.ht, hm]
  have hlean := lean_size i2 m hm
  have hleast : Ev (fun k => spec_Least.f k (m : Int)) (lean' m) := least_ev m (by omega) m 0 (by omega)
  have hacl : ((numbered r 0 r.length).map act_of ++ three).length = n + 3 := by simp [numbered, three, hrl]
  generalize (numbered r 0 r.length).map act_of ++ three = acts at hpv hrun hacl
  refine Ev.step (f := fun k => (laws_treeTurned_int.f k xs x1).bind fun a => (laws_treePuts.f k a).bind fun b => (impl_AvlRun.f [] b).bind fun c => asked k xs b c) (fun k => ?_)
    (Ev.bind (f := fun k a => (laws_treePuts.f k a).bind fun b => (impl_AvlRun.f [] b).bind fun c => asked k xs b c) ht (Ev.bind (f := fun k b => (impl_AvlRun.f [] b).bind fun c => asked k xs b c) hpv
      (Ev.bind (g := fun _ => impl_AvlRun.f [] acts) (f := fun k c => asked k xs acts c) ⟨0, fun _ _ => hrun⟩ ?_)))
  · simp only [laws_FnAvlHeight.l0]
    rw [if_neg (by omega)]
    rfl
  · generalize hO : P ++ [told_of (0, false, keys t, vals t), told_of (t.size, false, [], []), told_of (t.ht, false, [], [])] = O at q1 q2
    have hOl : (O.length : Int) = n + 3 := by rw [← hO]; simp [hP]
    have w1 : wrap64 ((O.length : Int) - 1) = n + 2 := by rw [hOl, wrap64_in _ (by omega)]; omega
    have w2 : wrap64 ((O.length : Int) - 2) = n + 1 := by rw [hOl, wrap64_in _ (by omega)]; omega
    have s1 : (told_of (t.size, false, [], [])).f0 = n := i3'
    have s2 : (told_of (t.ht, false, [], [])).f0 = m := hht
    have pm : (2 : Int) ^ m ≤ 2 ^ 34 := by exact_mod_cast Nat.pow_le_pow_right (by omega) (by omega : m ≤ 34)
    have e34 : (2 : Int) ^ 34 = 17179869184 := by decide
    have wu : IntKind.u64.wrap (m : Int) = m := by rw [IntKind.wrap_u64]; omega
    have wsh : shl .i64 1 (m : Int) = 2 ^ m := by
      unfold shl
      rw [show min (m : Int).toNat IntKind.i64.bits = m by simp [IntKind.bits]; omega, Int.one_mul, IntKind.wrap_i64]
      omega
    refine Ev.congr (f := fun k => (spec_Least.f k (m : Int)).bind fun t140 => some (decide ((xs.length : Int) ≥ t140))) (fun k => ?_) ?_
    · unfold asked
      rw [w1, w2, hOl, q1, q2, s1, s2, wu, wsh, hl, if_pos (by omega), if_pos (by omega), if_pos (by omega), if_pos (by omega), if_pos (by omega), if_pos rfl, if_pos (by omega), if_pos (by omega), if_pos (by omega), if_pos (by omega)]
    · have hd : decide ((xs.length : Int) ≥ lean' m) = true := decide_eq_true (by omega)
      have := Ev.bind (f := fun _ t140 => some (decide ((xs.length : Int) ≥ t140))) hleast (Ev.now _)
      rwa [hd] at this

theorem FnAvlHeight : laws_FnAvlHeight.Pure := by
  intro a0 l1 hw _ _ _
  have hb : 0 ≤ a0 ∧ a0 ≤ 65535 := by simpa [Lit.wf, IntKind.min, IntKind.max, IntKind.signed, IntKind.bits] using hw
  by_cases h1 : (l1.length : Int) > 2147483647
  · exact ⟨0, by unfold laws_FnAvlHeight.f; rw [if_pos h1]⟩
  · have e : wrap64 a0 = a0 := wrap64_in _ (by omega)
    have h := fill_ev l1 a0.toNat (by omega) (fun xs hl hx => body_ev l1 (by omega) a0.toNat (by omega) xs hl hx) a0.toNat 0 (List.replicate a0.toNat 0) (by omega) (by simp) (fun j h hj => absurd hj (by omega))
    refine (Ev.congr (fun k => ?_) h).rounds
    unfold laws_FnAvlHeight.f
    rw [if_neg h1, e, if_pos (by omega), if_pos (by omega)]
    rfl

end Go.Proofs.Ytjlcebgfknfelaa.Pure
