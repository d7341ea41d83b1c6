/- The height of an interval tree is low: for every proper script. -/
import Derived.Test.YtmnjkdbopafkfaaQFnIntervalLowx2
import Derived.IntWalk
namespace Go.Proofs.Ytmnjkdbopafkfaa.Pure
open Go.RowKit Go.IntWalk Go.Proofs.Ytmnjkdbopafkfaa.QFnIntervalLow Go.Proofs.YtmnjkdbopafkfaaW.PrintWords Go.Proofs.YtmnjkdbopafkfaaW.PrintLast Go.Proofs.Ytmnjkdbopafkfaa.IntPure

theorem good_step {t : T} (h : T.Good t) (a : Int.Mk) : T.Good (Int.stepT t a) := by
  unfold Int.stepT
  split
  · exact (T.good_ins _ _ h).1
  · split
    · exact (T.good_ins _ _ h).1
    · split
      · exact (T.good_rem _ h).1
      · exact h

/-! ### Sizes by heights -/
theorem size_lt : ∀ t : T, ∃ n : Nat, t.tall = n ∧ t.size + 1 ≤ (2 : Int) ^ n
  | .nil => ⟨0, rfl, by simp [T.size]⟩
  | .node s h m l r => by
    obtain ⟨a, ha, sa⟩ := size_lt l
    obtain ⟨b, hb, sb⟩ := size_lt r
    refine ⟨1 + max a b, by simp only [T.tall, ha, hb]; omega, ?_⟩
    have pa : (2 : Int) ^ a ≤ 2 ^ (max a b) := by exact_mod_cast Nat.pow_le_pow_right (by omega) (Nat.le_max_left a b)
    have pb : (2 : Int) ^ b ≤ 2 ^ (max a b) := by exact_mod_cast Nat.pow_le_pow_right (by omega) (Nat.le_max_right a b)
    rw [Nat.add_comm 1, Int.pow_succ]
    simp only [T.size]
    omega
/-- The least nodes by levels. -/
def lean' : Nat → Int
  | 0 => 0
  | 1 => 1
  | n + 2 => lean' n + lean' (n + 1) + 1
theorem lean_bd : ∀ n : Nat, 0 ≤ lean' n ∧ lean' n + 1 ≤ (2 : Int) ^ n ∧ 0 ≤ lean' (n + 1) ∧ lean' (n + 1) + 1 ≤ (2 : Int) ^ (n + 1) ∧ lean' n ≤ lean' (n + 1)
  | 0 => by simp [lean']
  | n + 1 => by
    obtain ⟨h1, h2, h3, h4, h5⟩ := lean_bd n
    have e : lean' (n + 1 + 1) = lean' n + lean' (n + 1) + 1 := rfl
    have p1 : (2 : Int) ^ (n + 1) = 2 ^ n * 2 := Int.pow_succ ..
    have p2 : (2 : Int) ^ (n + 1 + 1) = 2 ^ (n + 1) * 2 := Int.pow_succ ..
    refine ⟨h3, h4, by omega, by omega, by omega⟩
theorem lean_mono (a : Nat) : ∀ d, lean' a ≤ lean' (a + d)
  | 0 => Int.le_refl _
  | d + 1 => Int.le_trans (lean_mono a d) (lean_bd (a + d)).2.2.2.2
theorem lean_three : ∀ j : Nat, (3 : Int) ^ j ≤ lean' (3 * j) + 1
  | 0 => by simp [lean']
  | j + 1 => by
    have ih := lean_three j
    have e1 : lean' (3 * j + 2) = lean' (3 * j) + lean' (3 * j + 1) + 1 := rfl
    have e2 : lean' (3 * j + 3) = lean' (3 * j + 1) + lean' (3 * j + 2) + 1 := rfl
    have m := (lean_bd (3 * j)).2.2.2.2
    have p : (3 : Int) ^ (j + 1) = 3 ^ j * 3 := Int.pow_succ ..
    rw [show 3 * (j + 1) = 3 * j + 3 by omega, e2, e1, p]
    omega
theorem lean_size : ∀ {t : T}, T.Even t → ∀ n : Nat, t.tall = n → lean' n ≤ t.size
  | .nil, _, n, h => by
    have : n = 0 := by simp [T.tall] at h; omega
    subst this; simp [lean', T.size]
  | .node s h' m l r, he, n, h => by
    obtain ⟨h1, h2, h3, h4⟩ := he
    simp only [T.tall] at h
    have a0 := T.tall_nonneg l
    have b0 := T.tall_nonneg r
    have sa := T.size_nonneg l
    have sb := T.size_nonneg r
    have ia := lean_size h3 l.tall.toNat (by omega)
    have ib := lean_size h4 r.tall.toNat (by omega)
    simp only [T.size]
    match n, h with
    | 0, h => omega
    | 1, h => simp only [lean']; omega
    | n + 2, h =>
      have e : lean' (n + 2) = lean' n + lean' (n + 1) + 1 := rfl
      have m := (lean_bd n).2.2.2.2
      rw [e]
      rcases Int.lt_or_le l.tall (n + 1) with c | c
      · have hr : r.tall.toNat = n + 1 := by omega
        rw [hr] at ib
        have hl : l.tall.toNat = n := by omega
        rw [hl] at ia; omega
      · have hl : l.tall.toNat = n + 1 := by omega
        rw [hl] at ia
        by_cases c2 : r.tall.toNat = n
        · rw [c2] at ib; omega
        · have hr : r.tall.toNat = n + 1 := by omega
          rw [hr] at ib; omega
theorem least_ev (h : Nat) (hh : h ≤ 60) (d : Nat) : ∀ i : Nat, i + d = h → Ev (fun k => spec_Least.l0 k h (lean' i) (lean' (i + 1)) i) (lean' h) := by
  induction d with
  | zero =>
    intro i hi
    have : i = h := by omega
    subst this
    refine Ev.step (f := fun _ => some (lean' i)) (fun k => ?_) (Ev.now _)
    simp only [spec_Least.l0]
    rw [if_neg (by omega)]
  | succ d ih =>
    intro i hi
    have b := lean_bd i
    have p : (2 : Int) ^ (i + 1) ≤ 2 ^ 60 := by exact_mod_cast Nat.pow_le_pow_right (by omega) (by omega : i + 1 ≤ 60)
    have q : (2 : Int) ^ 60 = 1152921504606846976 := by decide
    refine Ev.step (fun k => ?_) (ih (i + 1) (by omega))
    simp only [spec_Least.l0]
    rw [if_pos (by omega), if_neg (by omega), wrap64_in (lean' i + lean' (i + 1)) (by omega), wrap64_in (lean' i + lean' (i + 1) + 1) (by omega), wrap64_in ((i : Int) + 1) (by omega)]
    rfl

/-! ### Scripts -/
theorem rd_mark (l : List S25) (i : Nat) (h : i < l.length) : rd_T25 l i = l[i] := by simp [rd_T25, List.getD_eq_getElem?_getD, h]
def okM (x : S25) : Prop := (x.f0 = 0 ∨ x.f0 = 1 ∨ x.f0 = 4) → x.f1 < x.f2
theorem proper_ev (l : List S25) (hl : l.length ≤ 2147483647) (d : Nat) : ∀ i : Nat, i + d = l.length → ∃ b, Ev (fun k => spec_Proper.l0 k l i) b ∧ (b = true → ∀ j (h : j < l.length), i ≤ j → okM l[j]) := by
  induction d with
  | zero =>
    intro i hi
    refine ⟨true, Ev.step (f := fun _ => some true) (fun k => ?_) (Ev.now _), fun _ j h hj => by omega⟩
    simp only [spec_Proper.l0]
    rw [if_neg (by omega)]
  | succ d ih =>
    intro i hi
    have hlt : i < l.length := by omega
    obtain ⟨b, hb, hok⟩ := ih (i + 1) (by omega)
    have hr := rd_mark l i hlt
    by_cases bad : (l[i].f0 = 0 ∨ l[i].f0 = 1 ∨ l[i].f0 = 4) ∧ l[i].f1 ≥ l[i].f2
    · refine ⟨false, Ev.step (f := fun _ => some false) (fun k => ?_) (Ev.now _), fun h => by cases h⟩
      simp only [spec_Proper.l0]
      rw [if_pos (by omega), if_pos (by omega), hr]
      by_cases c0 : l[i].f0 = 0
      · rw [if_pos c0, if_pos bad.2]
      · by_cases c1 : l[i].f0 = 1
        · rw [if_neg c0, if_pos c1, if_pos bad.2]
        · rw [if_neg c0, if_neg c1, if_pos (by have := bad.1; omega), if_pos bad.2]
    · refine ⟨b, Ev.step (fun k => ?_) hb, fun hb' j h hj => ?_⟩
      · simp only [spec_Proper.l0]
        rw [if_pos (by omega), if_pos (by omega), hr, wrap64_in ((i : Int) + 1) (by omega)]
        by_cases c0 : l[i].f0 = 0
        · rw [if_pos c0, if_neg (fun c => bad ⟨.inl c0, c⟩)]; rfl
        · by_cases c1 : l[i].f0 = 1
          · rw [if_neg c0, if_pos c1, if_neg (fun c => bad ⟨.inr (.inl c1), c⟩)]; rfl
          · by_cases c4 : l[i].f0 = 4
            · rw [if_neg c0, if_neg c1, if_pos c4, if_neg (fun c => bad ⟨.inr (.inr c4), c⟩)]; rfl
            · rw [if_neg c0, if_neg c1, if_neg c4]; rfl
      · rcases Nat.eq_or_lt_of_le hj with e | e
        · subst e
          intro hd
          by_cases c : l[i].f1 < l[i].f2
          · exact c
          · exact absurd ⟨hd, by omega⟩ bad
        · exact hok hb' j h (by omega)
theorem fit_true {l : List Int.Mk} (h : ∀ a ∈ l, (a.1 = 0 ∨ a.1 = 1 ∨ a.1 = 4) → a.2.1 ≤ a.2.2.1) : fitB l = true := by
  refine List.all_eq_true.2 (fun a ha => ?_)
  by_cases c : a.1 = 0 ∨ a.1 = 1 ∨ a.1 = 4
  · have := h a ha c
    simp [this]
  · simp only [Bool.or_eq_true, Bool.not_eq_true', Bool.or_eq_false_iff, beq_eq_false_iff_ne]
    exact .inl ⟨⟨fun e => c (.inl e), fun e => c (.inr (.inl e))⟩, fun e => c (.inr (.inr e))⟩

def trip (x : S25) : List S25 := [x, ⟨6, 0, 0, 0⟩, ⟨7, 0, 0, 0⟩]
def tripT : T → List Int.Mk → List Int.Fd
  | _, [] => []
  | t, a :: l => Int.tellT t a :: ((0, 0, 0), false, [], (Int.stepT t a).size) :: ((0, 0, 0), false, [], (Int.stepT t a).ht) :: tripT (Int.stepT t a) l
theorem told_trip : ∀ (l : List S25) (t : T), Int.toldT t ((l.flatMap trip).map mk_of) = tripT t (l.map mk_of)
  | [], _ => rfl
  | x :: l, t => by
    show Int.toldT t (mk_of x :: (6, 0, 0, 0) :: (7, 0, 0, 0) :: (l.flatMap trip).map mk_of) = _
    show Int.tellT t (mk_of x) :: Int.tellT (Int.stepT t (mk_of x)) (6, 0, 0, 0) :: Int.tellT (Int.stepT t (mk_of x)) (7, 0, 0, 0) :: Int.toldT (Int.stepT t (mk_of x)) ((l.flatMap trip).map mk_of) = _
    rw [told_trip l]
    rfl
theorem trip_length : ∀ l : List S25, (l.flatMap trip).length = 3 * l.length
  | [] => rfl
  | x :: l => by simp [trip, trip_length l]; omega

theorem build_ev (l : List S25) (hl : l.length ≤ 2147483647) (r : Bool) (hrun : Ev (fun k => (impl_IntervalRun.f (l.flatMap trip)).bind fun t126 => (if (t126.length : Int) = ((l.flatMap trip).length : Int) then (laws_FnIntervalLow.l1 k l t126 0) else (some false))) r) (d : Nat) :
    ∀ (i : Nat) (x3 : List S25), i + d = l.length → x3 = (l.take i).flatMap trip → Ev (fun k => laws_FnIntervalLow.l0 k l x3 i) r := by
  induction d with
  | zero =>
    intro i x3 hi hx
    have e : l.take i = l := List.take_of_length_le (by omega)
    rw [e] at hx
    subst hx
    refine Ev.step (fun k => ?_) hrun
    simp only [laws_FnIntervalLow.l0]
    rw [if_neg (by omega)]
  | succ d ih =>
    intro i x3 hi hx
    have hlt : i < l.length := by omega
    have hxl : x3.length = 3 * i := by rw [hx, trip_length, List.length_take]; omega
    refine Ev.step (fun k => ?_) (ih (i + 1) (x3 ++ trip l[i]) (by omega) ?_)
    · simp only [laws_FnIntervalLow.l0]
      rw [if_pos (by omega), if_pos (by omega), rd_mark l i hlt, Option.bind_some, if_pos (by simp; omega), wrap64_in ((i : Int) + 1) (by omega)]
      rfl
    · rw [hx, List.take_add_one, List.getElem?_eq_getElem hlt, List.flatMap_append]
      simp

theorem rd_three (P R : List S32) (a b c : S32) (n : Nat) (h : P.length = n) : rd_T32 (P ++ a :: b :: c :: R) ((n : Int) + 1) = b ∧ rd_T32 (P ++ a :: b :: c :: R) ((n : Int) + 2) = c := by
  have e1 : ((n : Int) + 1).toNat = n + 1 := by omega
  have e2 : ((n : Int) + 2).toNat = n + 2 := by omega
  unfold rd_T32
  rw [e1, e2]
  constructor
  · rw [List.getD_eq_getElem?_getD, List.getElem?_append_right (by omega)]
    simp [h]
  · rw [List.getD_eq_getElem?_getD, List.getElem?_append_right (by omega)]
    simp [h]

theorem check_ev (l : List S25) (hl : l.length ≤ 2147483647) : ∀ (rest : List Int.Mk) (t : T) (i : Nat) (P : List S32), T.Good t → P.length = 3 * i → i + rest.length = l.length → t.size + rest.length ≤ 2147483647 →
    Ev (fun k => laws_FnIntervalLow.l1 k l (P ++ (tripT t rest).map found_of) i) true
  | [], t, i, P, _, _, hi, _ => by
    simp only [List.length_nil] at hi
    refine Ev.step (f := fun _ => some true) (fun k => ?_) (Ev.now _)
    simp only [laws_FnIntervalLow.l1]
    rw [if_neg (by omega)]
  | a :: rest, t, i, P, g, hP, hi, hs => by
    simp only [List.length_cons] at hi hs
    have g' := good_step g a
    have hsz := Int.size_step t a
    have hnn := T.size_nonneg (Int.stepT t a)
    have ih := check_ev l hl rest (Int.stepT t a) (i + 1) (P ++ [found_of (Int.tellT t a), found_of ((0, 0, 0), false, [], (Int.stepT t a).size), found_of ((0, 0, 0), false, [], (Int.stepT t a).ht)]) g' (by simp [hP] <;> omega) (by omega) (by omega)
    have eO : P ++ (tripT t (a :: rest)).map found_of = P ++ found_of (Int.tellT t a) :: found_of ((0, 0, 0), false, [], (Int.stepT t a).size) :: found_of ((0, 0, 0), false, [], (Int.stepT t a).ht) :: (tripT (Int.stepT t a) rest).map found_of := rfl
    have eO2 : P ++ [found_of (Int.tellT t a), found_of ((0, 0, 0), false, [], (Int.stepT t a).size), found_of ((0, 0, 0), false, [], (Int.stepT t a).ht)] ++ (tripT (Int.stepT t a) rest).map found_of = P ++ found_of (Int.tellT t a) :: found_of ((0, 0, 0), false, [], (Int.stepT t a).size) :: found_of ((0, 0, 0), false, [], (Int.stepT t a).ht) :: (tripT (Int.stepT t a) rest).map found_of := by simp
    rw [eO2] at ih
    rw [eO]
    obtain ⟨q1, q2⟩ := rd_three P ((tripT (Int.stepT t a) rest).map found_of) (found_of (Int.tellT t a)) (found_of ((0, 0, 0), false, [], (Int.stepT t a).size)) (found_of ((0, 0, 0), false, [], (Int.stepT t a).ht)) (3 * i) hP
    have hOl : 3 * i + 2 < (P ++ found_of (Int.tellT t a) :: found_of ((0, 0, 0), false, [], (Int.stepT t a).size) :: found_of ((0, 0, 0), false, [], (Int.stepT t a).ht) :: (tripT (Int.stepT t a) rest).map found_of).length := by simp [hP] <;> omega
    generalize hO : P ++ found_of (Int.tellT t a) :: found_of ((0, 0, 0), false, [], (Int.stepT t a).size) :: found_of ((0, 0, 0), false, [], (Int.stepT t a).ht) :: (tripT (Int.stepT t a) rest).map found_of = O at ih q1 q2 hOl
    obtain ⟨m, hm, hlt⟩ := size_lt (Int.stepT t a)
    have hlean := lean_size g'.even m hm
    have hm60 : m < 60 := by
      rcases Nat.lt_or_ge m 60 with h | h
      · exact h
      · have h1 := lean_three 20
        have h2 := lean_mono 60 (m - 60)
        rw [show 60 + (m - 60) = m by omega] at h2
        have e : (3 : Int) ^ 20 = 3486784401 := by decide
        rw [show 3 * 20 = 60 by decide] at h1
        omega
    have hht : (Int.stepT t a).ht = m := by rw [g'.right.ht, hm]
    have hleast : Ev (fun k => spec_Least.f k (m : Int)) (lean' m) := least_ev m (by omega) m 0 (by omega)
    have w0 : wrap64 (3 * (i : Int)) = 3 * i := wrap64_in _ (by omega)
    have w1 : wrap64 (3 * (i : Int) + 1) = ((3 * i : Nat) : Int) + 1 := by rw [wrap64_in _ (by omega)]; omega
    have w2 : wrap64 (3 * (i : Int) + 2) = ((3 * i : Nat) : Int) + 2 := by rw [wrap64_in _ (by omega)]; omega
    have s1 : (found_of ((0, 0, 0), false, [], (Int.stepT t a).size)).f3 = (Int.stepT t a).size := rfl
    have s2 : (found_of ((0, 0, 0), false, [], (Int.stepT t a).ht)).f3 = m := hht
    have pm : (2 : Int) ^ m ≤ 2 ^ 60 := by exact_mod_cast Nat.pow_le_pow_right (by omega) (by omega : m ≤ 60)
    have e60 : (2 : Int) ^ 60 = 1152921504606846976 := by decide
    have wu : IntKind.u64.wrap (m : Int) = m := by rw [IntKind.wrap_u64]; omega
    have wsh : shl .i64 1 (m : Int) = 2 ^ m := by
      unfold shl
      rw [show min (m : Int).toNat IntKind.i64.bits = m by simp [IntKind.bits]; omega, Int.one_mul, IntKind.wrap_i64]
      have : (0 : Int) < 2 ^ m := by exact Int.pow_pos (by omega)
      omega
    generalize (Int.stepT t a).size = z at *
    refine Ev.step (f := fun k => (spec_Least.f k (m : Int)).bind fun t131 => (if z < t131 then (some false) else laws_FnIntervalLow.l1 k l O ((i + 1 : Nat) : Int))) (fun k => ?_) ?_
    · simp only [laws_FnIntervalLow.l1]
      rw [if_pos (by omega), w0, w1, w2, q1, q2, s1, s2, wu, wsh, if_pos (by omega), if_pos (by omega), if_pos (by omega), if_pos (by omega), if_neg (by omega), if_pos (by omega), if_pos (by omega), if_neg (by omega), wrap64_in ((i : Int) + 1) (by omega)]
      rfl
    · refine Ev.bind (f := fun k t131 => if z < t131 then some false else laws_FnIntervalLow.l1 k l O ((i + 1 : Nat) : Int)) hleast ?_
      refine Ev.congr (fun k => ?_) ih
      rw [if_neg (by omega)]

theorem FnIntervalLow (l : List S25) : ∃ k, laws_FnIntervalLow.f k l = some true := by
  by_cases hl : (l.length : Int) > 2147483647
  · exact ⟨0, by unfold laws_FnIntervalLow.f; rw [if_pos hl]⟩
  · obtain ⟨b, hb, hok⟩ := proper_ev l (by omega) l.length 0 (by omega)
    suffices h : Ev (fun k => laws_FnIntervalLow.f k l) true from h.rounds
    refine Ev.congr (f := fun k => (spec_Proper.f k l).bind fun t118 => (if t118 = true then (laws_FnIntervalLow.l0 k l ([] : List (S25)) 0) else (some true))) (fun k => ?_) ?_
    · unfold laws_FnIntervalLow.f
      rw [if_neg hl]
    · refine Ev.bind (f := fun k t118 => if t118 = true then laws_FnIntervalLow.l0 k l [] 0 else some true) hb ?_
      cases b with
      | false => exact Ev.now _
      | true =>
        have hfit : fitB ((l.flatMap trip).map mk_of) = true := fit_true (fun a ha hd => by
          obtain ⟨x, hx, rfl⟩ := List.mem_map.1 ha
          obtain ⟨y, hy, hxy⟩ := List.mem_flatMap.1 hx
          simp only [trip, List.mem_cons, List.not_mem_nil, or_false] at hxy
          rcases hxy with rfl | rfl | rfl
          · obtain ⟨j, hj, rfl⟩ := List.getElem_of_mem hy
            exact Int.le_of_lt (hok rfl j hj (Nat.zero_le _) hd)
          · simp [mk_of] at hd
          · simp [mk_of] at hd)
        have hrun : impl_IntervalRun.f (l.flatMap trip) = some ((tripT .nil (l.map mk_of)).map found_of) := by
          unfold impl_IntervalRun.f
          rw [if_pos (by rw [trip_length]; omega), if_pos hfit, told_trip]
        have hlen : ((tripT .nil (l.map mk_of)).map found_of).length = (l.flatMap trip).length := by
          rw [← told_trip, List.length_map, Int.toldT_length, List.length_map]
        refine build_ev l (by omega) true ?_ l.length 0 [] (by omega) rfl
        have hc := check_ev l (by omega) (l.map mk_of) .nil 0 [] ⟨trivial, trivial, trivial⟩ rfl (by simp) (by simp [T.size]; omega)
        refine Ev.congr (fun k => ?_) hc
        rw [hrun, Option.bind_some, if_pos (by rw [hlen])]
        rfl

end Go.Proofs.Ytmnjkdbopafkfaa.Pure
