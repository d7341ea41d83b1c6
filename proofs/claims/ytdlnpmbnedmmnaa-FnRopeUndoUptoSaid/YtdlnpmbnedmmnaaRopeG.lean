/- Ropes in memory: At, SplitAt. For every rope and all its places. -/
import Derived.Test.YtdlnpmbnedmmnaaRopeF
namespace Go.Proofs.Ytdlnpmbnedmmnaa.Rope
open Go Go.RowKit Go.Deep Go.Proofs.Ytdlnpmbnedmmnaa.Hk Go.Proofs.Ytdlnpmbnedmmnaa.RopePure Go.Proofs.YtdlnpmbnedmmnaaW.PrintWords Go.Proofs.YtdlnpmbnedmmnaaW.PrintLast Go.Proofs.YtdlnpmbnedmmnaaW.PrintMore
def spl3.T : Bool × List (List Nat × List Nat) := (true, [([], []), ([0], [0]), ([1], [1]), ([2], [2]), ([], []), ([3, 4], [3, 4]), ([5], [5]), ([], []), ([7], [7]), ([8], [8]), ([9], [9]), ([], []), ([10, 11], [10, 11]), ([12, 6], [12]), ([6, 13, 0, 1, 2, 3, 4, 5, 6], [6]), ([13, 14, 0, 1, 2, 3, 4, 5, 6, 7, 8, 9, 10, 11, 12, 13, 14], [13])])
def spl3.B : List Nat := [0, 1, 3, 7, 0, 31, 63, 0, 128, 384, 896, 0, 3968, 8191, 16383, 32767]
theorem spl3.tab : rtab .any (opsOf Try.f35 3) = spl3.T := by kernel_rfl
theorem spl3.bits : waitsOk spl3.T.2 spl3.B = true := by kernel_rfl
set_option maxHeartbeats 8000000 in
set_option maxRecDepth 100000 in
theorem At_any (t : N) (a : Nat) (x : Int) (w : World) (hin : t.In w) (hx : t.raw.flat[a]? = some x) (hl : t.len ≤ 1099511627776) :
    Calls Try.prog 33 #[t.ptr, .int .i64 (a : Int)] w fun e w' => e = .returned (.int .i64 x) ∧ Below w.heap.size w w' := by
  have ha : a < t.len := (List.getElem?_eq_some_iff.1 hx).1
  have HI := hid hin
  have HX := hid hx
  have HL := hid hl
  have hseg : seg t.raw.flat a (a + 1) = [x] := by
    unfold seg
    rw [show a + 1 - a = 1 by omega]
    have h0 : t.raw.flat.drop a = x :: t.raw.flat.drop (a + 1) := by
      have := List.drop_eq_getElem_cons (l := t.raw.flat) (i := a) ha
      rw [this]
      congr 1
      rw [List.getElem?_eq_getElem ha] at hx
      exact Option.some.inj hx
    rw [h0]
    rfl
  have HS := hid hseg
  clear hin hx hseg
  go_enter Try.func33, Try.ntmps33
  go_wp2_with fail
  refine (show Calls Try.prog 32 #[t.ptr, .int .i64 (a : Int), .int .i64 ((a + 1 : Nat) : Int)] w _ from Slice_any t a (a + 1) w HI.out (by omega) (by omega) hl).mono ?_
  rintro e w1 ⟨A, c, rfl, hr, hb⟩
  rw [HS.out] at hr ⊢
  cases A with
  | none => exact absurd (hr.nil_ rfl) (by simp)
  | some ad =>
    have k0 : w1.cell? (ad.add 0) = some (.int .i64 x) := hr.at_ ad rfl 0 x rfl
    have HB := hid hb
    rw [show ([x] : List Int).length = 1 from rfl]
    clear hr hb
    rw [Addr.add_zero'] at k0
    go_wp2_with fail
    go_ret
    exact ⟨rfl, HB.out⟩
/-- What SplitAt hands back. -/
def Spl (t : N) (i : Nat) (w : World) (e : Ending) (w' : World) : Prop := ∃ l r : N, e = .returned (.tuple #[l.ptr, r.ptr]) ∧ l.raw = (T.split t.raw i).1 ∧ r.raw = (T.split t.raw i).2 ∧ l.In w' ∧ r.In w' ∧ (∀ k o, l.own k o → t.own k o ∨ w.heap.size ≤ k) ∧ (∀ k o, r.own k o → t.own k o ∨ w.heap.size ≤ k) ∧ (∀ k o, l.own k o → ¬ r.own k o) ∧ Below w.heap.size w w'
set_option maxHeartbeats 8000000 in
set_option maxRecDepth 100000 in
theorem split_leaf (bk : Nat) (A : Option Addr) (c : Nat) (xs : List Int) (i : Nat) (w : World) (hin : (N.leaf bk A c xs).In w) (hi : i ≤ xs.length) (hl : xs.length ≤ 1099511627776) :
    Calls Try.prog 35 #[.pointer (some ⟨bk, 0, none⟩), .int .i64 (i : Int)] w (Spl (.leaf bk A c xs) i w) := by
  have HI := hid hin
  have hxc := hin.2.1.le
  have c0 : w.cell? ⟨bk, 0, none⟩ = some (.int .u8 0) := hin.1.cell 0
  have c1 : w.cell? ⟨bk, 1, none⟩ = some (.slice A xs.length c) := hin.1.cell 1
  clear hin
  by_cases hc : i < c
  · obtain ⟨ba, qa, hA, hcl⟩ := HI.out.2.1.at_ (by omega)
    clear hcl
    subst hA
    go_enter Try.func35, Try.ntmps35
    go_wp2_with fail
    refine start_ (n := 16) (S := fun w' => w'.cell? ⟨bk, 1, none⟩ = some (.slice (some ⟨ba, qa, none⟩) xs.length c)) (ds := []) #[false, false, false, false, false, false, false, false, false, false, false, false, false, false, false, false] (by kernel_rfl) rfl rfl c1 (fun hHeld => ?_)
    refine with_tabW spl3.tab spl3.bits (fun HT_ HW_ => ?_)
    clear c0 c1
    refine pure_ (i := 0) (N := some 17) (v := ?_) (a' := ?_) #[true, false, false, false, false, false, false, false, false, false, false, false, false, false, false, false] rfl rfl (any_of HT_.out (by kernel_rfl)) (fun _ _ _ h => h) (Or.inl ⟨by rfl, ?_⟩) ?_ ?_
    rotate_left
    · intro w'
      go_simp
      with_reducible rfl
    rotate_left
    · simp only [Act.put, List.setIfInBounds_toArray, List.set_cons_zero, List.set_cons_succ]
      rfl
    refine pure_ (i := 1) (N := some 18) (v := ?_) (a' := ?_) #[true, true, false, false, false, false, false, false, false, false, false, false, false, false, false, false] rfl rfl (any_of HT_.out (by kernel_rfl)) (fun _ _ _ h => h) (Or.inl ⟨by rfl, ?_⟩) ?_ ?_
    rotate_left
    · intro w'
      go_simp
      with_reducible rfl
    rotate_left
    · simp only [Act.put, List.setIfInBounds_toArray, List.set_cons_zero, List.set_cons_succ]
      rfl
    refine pure_ (i := 2) (N := some 19) (v := ?_) (a' := ?_) #[true, true, true, false, false, false, false, false, false, false, false, false, false, false, false, false] rfl rfl (any_of HT_.out (by kernel_rfl)) (fun _ _ _ h => h) (Or.inl ⟨by rfl, ?_⟩) ?_ ?_
    rotate_left
    · intro w'
      go_simp
      with_reducible rfl
    rotate_left
    · simp only [Act.put, List.setIfInBounds_toArray, List.set_cons_zero, List.set_cons_succ]
      rfl
    refine take_ (i := 3) (N := some 20) (v := ?_) (a' := ?_) #[true, true, true, true, false, false, false, false, false, false, false, false, false, false, false, false] rfl rfl (take_ofW HT_.out HW_.out (by kernel_rfl)) (fun _ _ _ h => h) (Or.inl ⟨by rfl, ?_⟩) hHeld ?_ ?_
    rotate_left
    · intro w' s0
      go_simp
      with_reducible rfl
    rotate_left
    · simp only [Act.put, List.setIfInBounds_toArray, List.set_cons_zero, List.set_cons_succ]
      rfl
    refine pure_ (i := 4) (N := some 21) (v := ?_) (a' := ?_) #[true, true, true, true, true, false, false, false, false, false, false, false, false, false, false, false] rfl rfl (any_of HT_.out (by kernel_rfl)) (fun _ _ _ h => h) (Or.inl ⟨by rfl, ?_⟩) ?_ ?_
    rotate_left
    · intro w'
      go_simp
      with_reducible rfl
    rotate_left
    · simp only [Act.put, List.setIfInBounds_toArray, List.set_cons_zero, List.set_cons_succ]
      rfl
    refine pure_ (i := 5) (N := some 22) (v := ?_) (a' := ?_) #[true, true, true, true, true, true, false, false, false, false, false, false, false, false, false, false] rfl rfl (any_of HT_.out (by kernel_rfl)) (fun _ _ _ h => h) (Or.inl ⟨by rfl, ?_⟩) ?_ ?_
    rotate_left
    · intro w'
      go_simp
      rw [if_pos (show i ≤ c by omega)]
      all_goals with_reducible rfl
    rotate_left
    · simp only [Act.put, List.setIfInBounds_toArray, List.set_cons_zero, List.set_cons_succ]
      rfl
    refine pure_ (i := 7) (N := some 24) (v := ?_) (a' := ?_) #[true, true, true, true, true, true, false, true, false, false, false, false, false, false, false, false] rfl rfl (any_of HT_.out (by kernel_rfl)) (fun _ _ _ h => h) (Or.inl ⟨by rfl, ?_⟩) ?_ ?_
    rotate_left
    · intro w'
      go_simp
      with_reducible rfl
    rotate_left
    · simp only [Act.put, List.setIfInBounds_toArray, List.set_cons_zero, List.set_cons_succ]
      rfl
    refine pure_ (i := 8) (N := some 25) (v := ?_) (a' := ?_) #[true, true, true, true, true, true, false, true, true, false, false, false, false, false, false, false] rfl rfl (any_of HT_.out (by kernel_rfl)) (fun _ _ _ h => h) (Or.inl ⟨by rfl, ?_⟩) ?_ ?_
    rotate_left
    · intro w'
      go_simp
      with_reducible rfl
    rotate_left
    · simp only [Act.put, List.setIfInBounds_toArray, List.set_cons_zero, List.set_cons_succ]
      rfl
    refine pure_ (i := 9) (N := some 26) (v := ?_) (a' := ?_) #[true, true, true, true, true, true, false, true, true, true, false, false, false, false, false, false] rfl rfl (any_of HT_.out (by kernel_rfl)) (fun _ _ _ h => h) (Or.inl ⟨by rfl, ?_⟩) ?_ ?_
    rotate_left
    · intro w'
      go_simp
      with_reducible rfl
    rotate_left
    · simp only [Act.put, List.setIfInBounds_toArray, List.set_cons_zero, List.set_cons_succ]
      rfl
    refine take_ (i := 10) (N := some 27) (v := ?_) (a' := ?_) #[true, true, true, true, true, true, false, true, true, true, true, false, false, false, false, false] rfl rfl (take_ofW HT_.out HW_.out (by kernel_rfl)) (fun _ _ _ h => h) (Or.inl ⟨by rfl, ?_⟩) hHeld ?_ ?_
    rotate_left
    · intro w' s0
      go_simp
      with_reducible rfl
    rotate_left
    · simp only [Act.put, List.setIfInBounds_toArray, List.set_cons_zero, List.set_cons_succ]
      rfl
    refine pure_ (i := 11) (N := some 28) (v := ?_) (a' := ?_) #[true, true, true, true, true, true, false, true, true, true, true, true, false, false, false, false] rfl rfl (any_of HT_.out (by kernel_rfl)) (fun _ _ _ h => h) (Or.inl ⟨by rfl, ?_⟩) ?_ ?_
    rotate_left
    · intro w'
      go_simp
      with_reducible rfl
    rotate_left
    · simp only [Act.put, List.setIfInBounds_toArray, List.set_cons_zero, List.set_cons_succ]
      rfl
    refine pure_ (i := 12) (N := some 29) (v := ?_) (a' := ?_) #[true, true, true, true, true, true, false, true, true, true, true, true, true, false, false, false] rfl rfl (any_of HT_.out (by kernel_rfl)) (fun _ _ _ h => h) (Or.inl ⟨by rfl, ?_⟩) ?_ ?_
    rotate_left
    · intro w'
      go_simp
      rw [if_neg (show ¬ c = i by omega)]
      all_goals with_reducible rfl
    rotate_left
    · simp only [Act.put, List.setIfInBounds_toArray, List.set_cons_zero, List.set_cons_succ]
      rfl
    refine one_ (i := 6) (N := some 23) #[true, true, true, true, true, true, true, true, true, true, true, true, true, false, false, false] rfl rfl (one_of HT_.out (by kernel_rfl)) (by decide) (fun K_ hK => ?_)
    refine call_ (N := some 23) 19 #[.slice (some ⟨ba, qa, none⟩) i c] (by rfl) rfl (by go_simp) ?_
    have HCall_ := (show Calls Try.prog 19 #[.slice (some ⟨ba, qa, none⟩) i c] w.drew _ from (slice_lo hi) ▸ New_any (xs.take i) (by rw [slice_lo hi]; omega) (some ⟨ba, qa, none⟩) c w.drew ((HI.out.2.1.take i).fz (Fz.refl _ _).drew (fun _ _ _ e => e)))
    refine HCall_.mono ?_
    clear HCall_
    rintro e w1 ⟨tl, rfl, l1, l2, l3, l4⟩
    have HL := hid (And.intro l1 (And.intro l2 (And.intro (show ∀ k o, tl.own k o → dz (some ⟨ba, qa, none⟩) i k o ∨ w.heap.size ≤ k from l3) (show Below w.heap.size w w1 from ⟨l4.os, l4.tape, l4.output, l4.size, l4.block⟩))))
    clear l1 l2 l3 l4
    refine ⟨_, rfl, ?_⟩
    refine hK.out _ _ ((HI.out.1.below HL.out.2.2.2 HI.out.1.lt).cell 1) (fun hHeld => ?_)
    clear hK K_
    refine norm_ (a' := ?_) ?_ ?_
    rotate_left
    · show Act.put _ (some 23) _ = _
      simp only [Act.put, List.setIfInBounds_toArray, List.set_cons_zero, List.set_cons_succ]
      rfl
    refine one_ (i := 13) (N := some 30) #[true, true, true, true, true, true, true, true, true, true, true, true, true, true, false, false] rfl rfl (one_of HT_.out (by kernel_rfl)) (by decide) (fun K_ hK => ?_)
    refine call_ (N := some 30) 19 #[.slice (some ⟨ba, qa + i, none⟩) (xs.length - i) (c - i)] (by rfl) rfl (by go_simp) ?_
    have HCall_ := (show Calls Try.prog 19 #[.slice (some ⟨ba, qa + i, none⟩) (xs.length - i) (c - i)] w1 _ from (List.length_drop (i := i) (l := xs)) ▸ New_any (xs.drop i) (by rw [List.length_drop]; omega) (some ⟨ba, qa + i, none⟩) (c - i) w1 ((HI.out.2.1.below HL.out.2.2.2).drop rfl hi))
    refine HCall_.mono ?_
    clear HCall_
    rintro e w2 ⟨tr, rfl, r1, r2, r3, r4⟩
    have HR := hid (And.intro r1 (And.intro r2 (And.intro r3 r4)))
    have HB : Hid (Below w.heap.size w w2) := hid (below_at HL.out.2.2.2 r4 HL.out.2.2.2.size)
    clear r1 r2 r3 r4
    refine ⟨_, rfl, ?_⟩
    refine hK.out _ _ ((HI.out.1.below HB.out HI.out.1.lt).cell 1) (fun hHeld => ?_)
    clear hK K_
    refine norm_ (a' := ?_) ?_ ?_
    rotate_left
    · show Act.put _ (some 30) _ = _
      simp only [Act.put, List.setIfInBounds_toArray, List.set_cons_zero, List.set_cons_succ]
      rfl
    refine pure_ (i := 14) (N := some 4) (v := ?_) (a' := ?_) #[true, true, true, true, true, true, true, true, true, true, true, true, true, true, true, false] rfl rfl (any_of HT_.out (by kernel_rfl)) (fun _ _ _ h => h) (Or.inl ⟨by rfl, ?_⟩) ?_ ?_
    rotate_left
    · intro w'
      go_simp
      with_reducible rfl
    rotate_left
    · simp only [Act.put, List.setIfInBounds_toArray, List.set_cons_zero, List.set_cons_succ]
      rfl
    refine pure_ (i := 15) (N := some 5) (v := ?_) (a' := ?_) #[true, true, true, true, true, true, true, true, true, true, true, true, true, true, true, true] rfl rfl (any_of HT_.out (by kernel_rfl)) (fun _ _ _ h => h) (Or.inl ⟨by rfl, ?_⟩) ?_ ?_
    rotate_left
    · intro w'
      go_simp
      with_reducible rfl
    rotate_left
    · simp only [Act.put, List.setIfInBounds_toArray, List.set_cons_zero, List.set_cons_succ]
      rfl
    refine done_ (done_of HT_.out (by kernel_rfl)) ?_
    clear HT_ HW_
    go_wp2_with fail
    go_ret2
    refine ⟨tl, tr, rfl, HL.out.1, HR.out.1, HL.out.2.1.below HR.out.2.2.2, HR.out.2.1, fun k o ho => ?_, fun k o ho => ?_, fun k o h1 h2 => ?_, HB.out⟩
    · rcases HL.out.2.2.1 k o ho with q | q
      · obtain ⟨q1, e1, g2, g3⟩ := q
        exact .inl (.inr ⟨q1, e1, g2, by omega⟩)
      · exact .inr q
    · rcases HR.out.2.2.1 k o ho with q | q
      · obtain ⟨q1, e1, g2, g3⟩ := q
        injection e1 with e1; injection e1 with e1 e2
        exact .inl (.inr ⟨qa, by rw [e1], by omega, by omega⟩)
      · exact .inr (Nat.le_trans HL.out.2.2.2.size q)
    · have hlt : ∀ o, dz (some ⟨ba, qa, none⟩) c k o → k < w.heap.size := fun o hz => HI.out.2.1.lt hz
      rcases HL.out.2.2.1 k o h1 with q | q
      · obtain ⟨q1, e1, g2, g3⟩ := q
        injection e1 with e1; injection e1 with e1 e2
        rcases HR.out.2.2.1 k o h2 with z | z
        · obtain ⟨q2, e3, g4, g5⟩ := z
          injection e3 with e3; injection e3 with e3 e4
          omega
        · have := hlt o ⟨q1, by rw [e1, e2], g2, by omega⟩
          have := HL.out.2.2.2.size
          omega
      · rcases HR.out.2.2.1 k o h2 with z | z
        · obtain ⟨q2, e3, g4, g5⟩ := z
          injection e3 with e3; injection e3 with e3 e4
          have := hlt o ⟨qa, by rw [e3], by omega, by omega⟩
          omega
        · have := HL.out.2.1.lt k o h1
          omega
  · by_cases h0 : 0 < c
    · obtain ⟨ba, qa, hA, hcl⟩ := HI.out.2.1.at_ h0
      clear hcl
      subst hA
      go_enter Try.func35, Try.ntmps35
      go_wp2_with fail
      refine start_ (n := 16) (S := fun w' => w'.cell? ⟨bk, 1, none⟩ = some (.slice (some ⟨ba, qa, none⟩) xs.length c)) (ds := []) #[false, false, false, false, false, false, false, false, false, false, false, false, false, false, false, false] (by kernel_rfl) rfl rfl c1 (fun hHeld => ?_)
      refine with_tabW spl3.tab spl3.bits (fun HT_ HW_ => ?_)
      clear c0 c1
      refine pure_ (i := 0) (N := some 17) (v := ?_) (a' := ?_) #[true, false, false, false, false, false, false, false, false, false, false, false, false, false, false, false] rfl rfl (any_of HT_.out (by kernel_rfl)) (fun _ _ _ h => h) (Or.inl ⟨by rfl, ?_⟩) ?_ ?_
      rotate_left
      · intro w'
        go_simp
        with_reducible rfl
      rotate_left
      · simp only [Act.put, List.setIfInBounds_toArray, List.set_cons_zero, List.set_cons_succ]
        rfl
      refine pure_ (i := 1) (N := some 18) (v := ?_) (a' := ?_) #[true, true, false, false, false, false, false, false, false, false, false, false, false, false, false, false] rfl rfl (any_of HT_.out (by kernel_rfl)) (fun _ _ _ h => h) (Or.inl ⟨by rfl, ?_⟩) ?_ ?_
      rotate_left
      · intro w'
        go_simp
        with_reducible rfl
      rotate_left
      · simp only [Act.put, List.setIfInBounds_toArray, List.set_cons_zero, List.set_cons_succ]
        rfl
      refine pure_ (i := 2) (N := some 19) (v := ?_) (a' := ?_) #[true, true, true, false, false, false, false, false, false, false, false, false, false, false, false, false] rfl rfl (any_of HT_.out (by kernel_rfl)) (fun _ _ _ h => h) (Or.inl ⟨by rfl, ?_⟩) ?_ ?_
      rotate_left
      · intro w'
        go_simp
        with_reducible rfl
      rotate_left
      · simp only [Act.put, List.setIfInBounds_toArray, List.set_cons_zero, List.set_cons_succ]
        rfl
      refine take_ (i := 3) (N := some 20) (v := ?_) (a' := ?_) #[true, true, true, true, false, false, false, false, false, false, false, false, false, false, false, false] rfl rfl (take_ofW HT_.out HW_.out (by kernel_rfl)) (fun _ _ _ h => h) (Or.inl ⟨by rfl, ?_⟩) hHeld ?_ ?_
      rotate_left
      · intro w' s0
        go_simp
        with_reducible rfl
      rotate_left
      · simp only [Act.put, List.setIfInBounds_toArray, List.set_cons_zero, List.set_cons_succ]
        rfl
      refine pure_ (i := 4) (N := some 21) (v := ?_) (a' := ?_) #[true, true, true, true, true, false, false, false, false, false, false, false, false, false, false, false] rfl rfl (any_of HT_.out (by kernel_rfl)) (fun _ _ _ h => h) (Or.inl ⟨by rfl, ?_⟩) ?_ ?_
      rotate_left
      · intro w'
        go_simp
        with_reducible rfl
      rotate_left
      · simp only [Act.put, List.setIfInBounds_toArray, List.set_cons_zero, List.set_cons_succ]
        rfl
      refine pure_ (i := 5) (N := some 22) (v := ?_) (a' := ?_) #[true, true, true, true, true, true, false, false, false, false, false, false, false, false, false, false] rfl rfl (any_of HT_.out (by kernel_rfl)) (fun _ _ _ h => h) (Or.inl ⟨by rfl, ?_⟩) ?_ ?_
      rotate_left
      · intro w'
        go_simp
        rw [if_pos (show i ≤ c by omega)]
        all_goals with_reducible rfl
      rotate_left
      · simp only [Act.put, List.setIfInBounds_toArray, List.set_cons_zero, List.set_cons_succ]
        rfl
      refine pure_ (i := 7) (N := some 24) (v := ?_) (a' := ?_) #[true, true, true, true, true, true, false, true, false, false, false, false, false, false, false, false] rfl rfl (any_of HT_.out (by kernel_rfl)) (fun _ _ _ h => h) (Or.inl ⟨by rfl, ?_⟩) ?_ ?_
      rotate_left
      · intro w'
        go_simp
        with_reducible rfl
      rotate_left
      · simp only [Act.put, List.setIfInBounds_toArray, List.set_cons_zero, List.set_cons_succ]
        rfl
      refine pure_ (i := 8) (N := some 25) (v := ?_) (a' := ?_) #[true, true, true, true, true, true, false, true, true, false, false, false, false, false, false, false] rfl rfl (any_of HT_.out (by kernel_rfl)) (fun _ _ _ h => h) (Or.inl ⟨by rfl, ?_⟩) ?_ ?_
      rotate_left
      · intro w'
        go_simp
        with_reducible rfl
      rotate_left
      · simp only [Act.put, List.setIfInBounds_toArray, List.set_cons_zero, List.set_cons_succ]
        rfl
      refine pure_ (i := 9) (N := some 26) (v := ?_) (a' := ?_) #[true, true, true, true, true, true, false, true, true, true, false, false, false, false, false, false] rfl rfl (any_of HT_.out (by kernel_rfl)) (fun _ _ _ h => h) (Or.inl ⟨by rfl, ?_⟩) ?_ ?_
      rotate_left
      · intro w'
        go_simp
        with_reducible rfl
      rotate_left
      · simp only [Act.put, List.setIfInBounds_toArray, List.set_cons_zero, List.set_cons_succ]
        rfl
      refine take_ (i := 10) (N := some 27) (v := ?_) (a' := ?_) #[true, true, true, true, true, true, false, true, true, true, true, false, false, false, false, false] rfl rfl (take_ofW HT_.out HW_.out (by kernel_rfl)) (fun _ _ _ h => h) (Or.inl ⟨by rfl, ?_⟩) hHeld ?_ ?_
      rotate_left
      · intro w' s0
        go_simp
        with_reducible rfl
      rotate_left
      · simp only [Act.put, List.setIfInBounds_toArray, List.set_cons_zero, List.set_cons_succ]
        rfl
      refine pure_ (i := 11) (N := some 28) (v := ?_) (a' := ?_) #[true, true, true, true, true, true, false, true, true, true, true, true, false, false, false, false] rfl rfl (any_of HT_.out (by kernel_rfl)) (fun _ _ _ h => h) (Or.inl ⟨by rfl, ?_⟩) ?_ ?_
      rotate_left
      · intro w'
        go_simp
        with_reducible rfl
      rotate_left
      · simp only [Act.put, List.setIfInBounds_toArray, List.set_cons_zero, List.set_cons_succ]
        rfl
      refine pure_ (i := 12) (N := some 29) (v := ?_) (a' := ?_) #[true, true, true, true, true, true, false, true, true, true, true, true, true, false, false, false] rfl rfl (any_of HT_.out (by kernel_rfl)) (fun _ _ _ h => h) (Or.inl ⟨by rfl, ?_⟩) ?_ ?_
      rotate_left
      · intro w'
        go_simp
        try rw [if_pos (show c = i by omega)]
        all_goals with_reducible rfl
      rotate_left
      · simp only [Act.put, List.setIfInBounds_toArray, List.set_cons_zero, List.set_cons_succ]
        rfl
      refine one_ (i := 6) (N := some 23) #[true, true, true, true, true, true, true, true, true, true, true, true, true, false, false, false] rfl rfl (one_of HT_.out (by kernel_rfl)) (by decide) (fun K_ hK => ?_)
      refine call_ (N := some 23) 19 #[.slice (some ⟨ba, qa, none⟩) i c] (by rfl) rfl (by go_simp) ?_
      have HCall_ := (show Calls Try.prog 19 #[.slice (some ⟨ba, qa, none⟩) i c] w.drew _ from (slice_lo hi) ▸ New_any (xs.take i) (by rw [slice_lo hi]; omega) (some ⟨ba, qa, none⟩) c w.drew ((HI.out.2.1.take i).fz (Fz.refl _ _).drew (fun _ _ _ e => e)))
      refine HCall_.mono ?_
      clear HCall_
      rintro e w1 ⟨tl, rfl, l1, l2, l3, l4⟩
      have HL := hid (And.intro l1 (And.intro l2 (And.intro (show ∀ k o, tl.own k o → dz (some ⟨ba, qa, none⟩) i k o ∨ w.heap.size ≤ k from l3) (show Below w.heap.size w w1 from ⟨l4.os, l4.tape, l4.output, l4.size, l4.block⟩))))
      clear l1 l2 l3 l4
      refine ⟨_, rfl, ?_⟩
      refine hK.out _ _ ((HI.out.1.below HL.out.2.2.2 HI.out.1.lt).cell 1) (fun hHeld => ?_)
      clear hK K_
      refine norm_ (a' := ?_) ?_ ?_
      rotate_left
      · show Act.put _ (some 23) _ = _
        simp only [Act.put, List.setIfInBounds_toArray, List.set_cons_zero, List.set_cons_succ]
        rfl
      refine one_ (i := 13) (N := some 30) #[true, true, true, true, true, true, true, true, true, true, true, true, true, true, false, false] rfl rfl (one_of HT_.out (by kernel_rfl)) (by decide) (fun K_ hK => ?_)
      refine call_ (N := some 30) 19 #[.slice (some ⟨ba, qa, none⟩) (xs.length - i) (c - i)] (by rfl) rfl (by go_simp) ?_
      have HCall_ := (show Calls Try.prog 19 #[.slice (some ⟨ba, qa, none⟩) (xs.length - i) (c - i)] w1 _ from (List.length_drop (i := i) (l := xs)) ▸ New_any (xs.drop i) (by rw [List.length_drop]; omega) (some ⟨ba, qa, none⟩) (c - i) w1 (by rw [show xs.drop i = [] from List.drop_eq_nil_of_le (by omega), show c - i = 0 by omega]; exact Seg.empty _ _ HI.out.2.1.spot))
      refine HCall_.mono ?_
      clear HCall_
      rintro e w2 ⟨tr, rfl, r1, r2, r3, r4⟩
      have HR := hid (And.intro r1 (And.intro r2 (And.intro r3 r4)))
      have HB : Hid (Below w.heap.size w w2) := hid (below_at HL.out.2.2.2 r4 HL.out.2.2.2.size)
      clear r1 r2 r3 r4
      refine ⟨_, rfl, ?_⟩
      refine hK.out _ _ ((HI.out.1.below HB.out HI.out.1.lt).cell 1) (fun hHeld => ?_)
      clear hK K_
      refine norm_ (a' := ?_) ?_ ?_
      rotate_left
      · show Act.put _ (some 30) _ = _
        simp only [Act.put, List.setIfInBounds_toArray, List.set_cons_zero, List.set_cons_succ]
        rfl
      refine pure_ (i := 14) (N := some 4) (v := ?_) (a' := ?_) #[true, true, true, true, true, true, true, true, true, true, true, true, true, true, true, false] rfl rfl (any_of HT_.out (by kernel_rfl)) (fun _ _ _ h => h) (Or.inl ⟨by rfl, ?_⟩) ?_ ?_
      rotate_left
      · intro w'
        go_simp
        with_reducible rfl
      rotate_left
      · simp only [Act.put, List.setIfInBounds_toArray, List.set_cons_zero, List.set_cons_succ]
        rfl
      refine pure_ (i := 15) (N := some 5) (v := ?_) (a' := ?_) #[true, true, true, true, true, true, true, true, true, true, true, true, true, true, true, true] rfl rfl (any_of HT_.out (by kernel_rfl)) (fun _ _ _ h => h) (Or.inl ⟨by rfl, ?_⟩) ?_ ?_
      rotate_left
      · intro w'
        go_simp
        with_reducible rfl
      rotate_left
      · simp only [Act.put, List.setIfInBounds_toArray, List.set_cons_zero, List.set_cons_succ]
        rfl
      refine done_ (done_of HT_.out (by kernel_rfl)) ?_
      clear HT_ HW_
      go_wp2_with fail
      go_ret2
      have hnr : ∀ k o, ¬ dz (some ⟨ba, qa, none⟩) (xs.length - i) k o := fun k o hz => by
        obtain ⟨q1, e1, g2, g3⟩ := hz
        omega
      refine ⟨tl, tr, rfl, HL.out.1, HR.out.1, HL.out.2.1.below HR.out.2.2.2, HR.out.2.1, fun k o ho => ?_, fun k o ho => ?_, fun k o h1 h2 => ?_, HB.out⟩
      · rcases HL.out.2.2.1 k o ho with q | q
        · obtain ⟨q1, e1, g2, g3⟩ := q
          exact .inl (.inr ⟨q1, e1, g2, by omega⟩)
        · exact .inr q
      · rcases HR.out.2.2.1 k o ho with q | q
        · exact absurd (by simpa using q) (hnr k o)
        · exact .inr (Nat.le_trans HL.out.2.2.2.size q)
      · rcases HR.out.2.2.1 k o h2 with z | z
        · exact absurd (by simpa using z) (hnr k o)
        · have := HL.out.2.1.lt k o h1
          omega
    · cases A with
      | none =>
        go_enter Try.func35, Try.ntmps35
        go_wp2_with fail
        refine start_ (n := 16) (S := fun w' => w'.cell? ⟨bk, 1, none⟩ = some (.slice (none) xs.length c)) (ds := []) #[false, false, false, false, false, false, false, false, false, false, false, false, false, false, false, false] (by kernel_rfl) rfl rfl c1 (fun hHeld => ?_)
        refine with_tabW spl3.tab spl3.bits (fun HT_ HW_ => ?_)
        clear c0 c1
        refine pure_ (i := 0) (N := some 17) (v := ?_) (a' := ?_) #[true, false, false, false, false, false, false, false, false, false, false, false, false, false, false, false] rfl rfl (any_of HT_.out (by kernel_rfl)) (fun _ _ _ h => h) (Or.inl ⟨by rfl, ?_⟩) ?_ ?_
        rotate_left
        · intro w'
          go_simp
          with_reducible rfl
        rotate_left
        · simp only [Act.put, List.setIfInBounds_toArray, List.set_cons_zero, List.set_cons_succ]
          rfl
        refine pure_ (i := 1) (N := some 18) (v := ?_) (a' := ?_) #[true, true, false, false, false, false, false, false, false, false, false, false, false, false, false, false] rfl rfl (any_of HT_.out (by kernel_rfl)) (fun _ _ _ h => h) (Or.inl ⟨by rfl, ?_⟩) ?_ ?_
        rotate_left
        · intro w'
          go_simp
          with_reducible rfl
        rotate_left
        · simp only [Act.put, List.setIfInBounds_toArray, List.set_cons_zero, List.set_cons_succ]
          rfl
        refine pure_ (i := 2) (N := some 19) (v := ?_) (a' := ?_) #[true, true, true, false, false, false, false, false, false, false, false, false, false, false, false, false] rfl rfl (any_of HT_.out (by kernel_rfl)) (fun _ _ _ h => h) (Or.inl ⟨by rfl, ?_⟩) ?_ ?_
        rotate_left
        · intro w'
          go_simp
          with_reducible rfl
        rotate_left
        · simp only [Act.put, List.setIfInBounds_toArray, List.set_cons_zero, List.set_cons_succ]
          rfl
        refine take_ (i := 3) (N := some 20) (v := ?_) (a' := ?_) #[true, true, true, true, false, false, false, false, false, false, false, false, false, false, false, false] rfl rfl (take_ofW HT_.out HW_.out (by kernel_rfl)) (fun _ _ _ h => h) (Or.inl ⟨by rfl, ?_⟩) hHeld ?_ ?_
        rotate_left
        · intro w' s0
          go_simp
          with_reducible rfl
        rotate_left
        · simp only [Act.put, List.setIfInBounds_toArray, List.set_cons_zero, List.set_cons_succ]
          rfl
        refine pure_ (i := 4) (N := some 21) (v := ?_) (a' := ?_) #[true, true, true, true, true, false, false, false, false, false, false, false, false, false, false, false] rfl rfl (any_of HT_.out (by kernel_rfl)) (fun _ _ _ h => h) (Or.inl ⟨by rfl, ?_⟩) ?_ ?_
        rotate_left
        · intro w'
          go_simp
          with_reducible rfl
        rotate_left
        · simp only [Act.put, List.setIfInBounds_toArray, List.set_cons_zero, List.set_cons_succ]
          rfl
        refine pure_ (i := 5) (N := some 22) (v := ?_) (a' := ?_) #[true, true, true, true, true, true, false, false, false, false, false, false, false, false, false, false] rfl rfl (any_of HT_.out (by kernel_rfl)) (fun _ _ _ h => h) (Or.inl ⟨by rfl, ?_⟩) ?_ ?_
        rotate_left
        · intro w'
          go_simp
          rw [if_pos (show i ≤ c by omega)]
          all_goals with_reducible rfl
        rotate_left
        · simp only [Act.put, List.setIfInBounds_toArray, List.set_cons_zero, List.set_cons_succ]
          rfl
        refine pure_ (i := 7) (N := some 24) (v := ?_) (a' := ?_) #[true, true, true, true, true, true, false, true, false, false, false, false, false, false, false, false] rfl rfl (any_of HT_.out (by kernel_rfl)) (fun _ _ _ h => h) (Or.inl ⟨by rfl, ?_⟩) ?_ ?_
        rotate_left
        · intro w'
          go_simp
          with_reducible rfl
        rotate_left
        · simp only [Act.put, List.setIfInBounds_toArray, List.set_cons_zero, List.set_cons_succ]
          rfl
        refine pure_ (i := 8) (N := some 25) (v := ?_) (a' := ?_) #[true, true, true, true, true, true, false, true, true, false, false, false, false, false, false, false] rfl rfl (any_of HT_.out (by kernel_rfl)) (fun _ _ _ h => h) (Or.inl ⟨by rfl, ?_⟩) ?_ ?_
        rotate_left
        · intro w'
          go_simp
          with_reducible rfl
        rotate_left
        · simp only [Act.put, List.setIfInBounds_toArray, List.set_cons_zero, List.set_cons_succ]
          rfl
        refine pure_ (i := 9) (N := some 26) (v := ?_) (a' := ?_) #[true, true, true, true, true, true, false, true, true, true, false, false, false, false, false, false] rfl rfl (any_of HT_.out (by kernel_rfl)) (fun _ _ _ h => h) (Or.inl ⟨by rfl, ?_⟩) ?_ ?_
        rotate_left
        · intro w'
          go_simp
          with_reducible rfl
        rotate_left
        · simp only [Act.put, List.setIfInBounds_toArray, List.set_cons_zero, List.set_cons_succ]
          rfl
        refine take_ (i := 10) (N := some 27) (v := ?_) (a' := ?_) #[true, true, true, true, true, true, false, true, true, true, true, false, false, false, false, false] rfl rfl (take_ofW HT_.out HW_.out (by kernel_rfl)) (fun _ _ _ h => h) (Or.inl ⟨by rfl, ?_⟩) hHeld ?_ ?_
        rotate_left
        · intro w' s0
          go_simp
          with_reducible rfl
        rotate_left
        · simp only [Act.put, List.setIfInBounds_toArray, List.set_cons_zero, List.set_cons_succ]
          rfl
        refine pure_ (i := 11) (N := some 28) (v := ?_) (a' := ?_) #[true, true, true, true, true, true, false, true, true, true, true, true, false, false, false, false] rfl rfl (any_of HT_.out (by kernel_rfl)) (fun _ _ _ h => h) (Or.inl ⟨by rfl, ?_⟩) ?_ ?_
        rotate_left
        · intro w'
          go_simp
          with_reducible rfl
        rotate_left
        · simp only [Act.put, List.setIfInBounds_toArray, List.set_cons_zero, List.set_cons_succ]
          rfl
        refine pure_ (i := 12) (N := some 29) (v := ?_) (a' := ?_) #[true, true, true, true, true, true, false, true, true, true, true, true, true, false, false, false] rfl rfl (any_of HT_.out (by kernel_rfl)) (fun _ _ _ h => h) (Or.inl ⟨by rfl, ?_⟩) ?_ ?_
        rotate_left
        · intro w'
          go_simp
          try rw [if_pos (show c = i by omega)]
          all_goals with_reducible rfl
        rotate_left
        · simp only [Act.put, List.setIfInBounds_toArray, List.set_cons_zero, List.set_cons_succ]
          rfl
        refine one_ (i := 6) (N := some 23) #[true, true, true, true, true, true, true, true, true, true, true, true, true, false, false, false] rfl rfl (one_of HT_.out (by kernel_rfl)) (by decide) (fun K_ hK => ?_)
        refine call_ (N := some 23) 19 #[.slice (none) i c] (by rfl) rfl (by go_simp) ?_
        have HCall_ := (show Calls Try.prog 19 #[.slice (none) i c] w.drew _ from (slice_lo hi) ▸ New_any (xs.take i) (by rw [slice_lo hi]; omega) (none) c w.drew ((HI.out.2.1.take i).fz (Fz.refl _ _).drew (fun _ _ _ e => e)))
        refine HCall_.mono ?_
        clear HCall_
        rintro e w1 ⟨tl, rfl, l1, l2, l3, l4⟩
        have HL := hid (And.intro l1 (And.intro l2 (And.intro (show ∀ k o, tl.own k o → dz (none) i k o ∨ w.heap.size ≤ k from l3) (show Below w.heap.size w w1 from ⟨l4.os, l4.tape, l4.output, l4.size, l4.block⟩))))
        clear l1 l2 l3 l4
        refine ⟨_, rfl, ?_⟩
        refine hK.out _ _ ((HI.out.1.below HL.out.2.2.2 HI.out.1.lt).cell 1) (fun hHeld => ?_)
        clear hK K_
        refine norm_ (a' := ?_) ?_ ?_
        rotate_left
        · show Act.put _ (some 23) _ = _
          simp only [Act.put, List.setIfInBounds_toArray, List.set_cons_zero, List.set_cons_succ]
          rfl
        refine one_ (i := 13) (N := some 30) #[true, true, true, true, true, true, true, true, true, true, true, true, true, true, false, false] rfl rfl (one_of HT_.out (by kernel_rfl)) (by decide) (fun K_ hK => ?_)
        refine call_ (N := some 30) 19 #[.slice (none) (xs.length - i) (c - i)] (by rfl) rfl (by go_simp) ?_
        have HCall_ := (show Calls Try.prog 19 #[.slice (none) (xs.length - i) (c - i)] w1 _ from (List.length_drop (i := i) (l := xs)) ▸ New_any (xs.drop i) (by rw [List.length_drop]; omega) (none) (c - i) w1 (by rw [show xs.drop i = [] from List.drop_eq_nil_of_le (by omega), show c - i = 0 by omega]; exact Seg.empty _ _ HI.out.2.1.spot))
        refine HCall_.mono ?_
        clear HCall_
        rintro e w2 ⟨tr, rfl, r1, r2, r3, r4⟩
        have HR := hid (And.intro r1 (And.intro r2 (And.intro r3 r4)))
        have HB : Hid (Below w.heap.size w w2) := hid (below_at HL.out.2.2.2 r4 HL.out.2.2.2.size)
        clear r1 r2 r3 r4
        refine ⟨_, rfl, ?_⟩
        refine hK.out _ _ ((HI.out.1.below HB.out HI.out.1.lt).cell 1) (fun hHeld => ?_)
        clear hK K_
        refine norm_ (a' := ?_) ?_ ?_
        rotate_left
        · show Act.put _ (some 30) _ = _
          simp only [Act.put, List.setIfInBounds_toArray, List.set_cons_zero, List.set_cons_succ]
          rfl
        refine pure_ (i := 14) (N := some 4) (v := ?_) (a' := ?_) #[true, true, true, true, true, true, true, true, true, true, true, true, true, true, true, false] rfl rfl (any_of HT_.out (by kernel_rfl)) (fun _ _ _ h => h) (Or.inl ⟨by rfl, ?_⟩) ?_ ?_
        rotate_left
        · intro w'
          go_simp
          with_reducible rfl
        rotate_left
        · simp only [Act.put, List.setIfInBounds_toArray, List.set_cons_zero, List.set_cons_succ]
          rfl
        refine pure_ (i := 15) (N := some 5) (v := ?_) (a' := ?_) #[true, true, true, true, true, true, true, true, true, true, true, true, true, true, true, true] rfl rfl (any_of HT_.out (by kernel_rfl)) (fun _ _ _ h => h) (Or.inl ⟨by rfl, ?_⟩) ?_ ?_
        rotate_left
        · intro w'
          go_simp
          with_reducible rfl
        rotate_left
        · simp only [Act.put, List.setIfInBounds_toArray, List.set_cons_zero, List.set_cons_succ]
          rfl
        refine done_ (done_of HT_.out (by kernel_rfl)) ?_
        clear HT_ HW_
        go_wp2_with fail
        go_ret2
        have hnr : ∀ k o, ¬ dz (none) (xs.length - i) k o := fun k o hz => by
          obtain ⟨q1, e1, g2, g3⟩ := hz
          omega
        refine ⟨tl, tr, rfl, HL.out.1, HR.out.1, HL.out.2.1.below HR.out.2.2.2, HR.out.2.1, fun k o ho => ?_, fun k o ho => ?_, fun k o h1 h2 => ?_, HB.out⟩
        · rcases HL.out.2.2.1 k o ho with q | q
          · obtain ⟨q1, e1, g2, g3⟩ := q
            exact .inl (.inr ⟨q1, e1, g2, by omega⟩)
          · exact .inr q
        · rcases HR.out.2.2.1 k o ho with q | q
          · exact absurd (by simpa using q) (hnr k o)
          · exact .inr (Nat.le_trans HL.out.2.2.2.size q)
        · rcases HR.out.2.2.1 k o h2 with z | z
          · exact absurd (by simpa using z) (hnr k o)
          · have := HL.out.2.1.lt k o h1
            omega
      | some ad =>
        go_enter Try.func35, Try.ntmps35
        go_wp2_with fail
        refine start_ (n := 16) (S := fun w' => w'.cell? ⟨bk, 1, none⟩ = some (.slice (some ad) xs.length c)) (ds := []) #[false, false, false, false, false, false, false, false, false, false, false, false, false, false, false, false] (by kernel_rfl) rfl rfl c1 (fun hHeld => ?_)
        refine with_tabW spl3.tab spl3.bits (fun HT_ HW_ => ?_)
        clear c0 c1
        refine pure_ (i := 0) (N := some 17) (v := ?_) (a' := ?_) #[true, false, false, false, false, false, false, false, false, false, false, false, false, false, false, false] rfl rfl (any_of HT_.out (by kernel_rfl)) (fun _ _ _ h => h) (Or.inl ⟨by rfl, ?_⟩) ?_ ?_
        rotate_left
        · intro w'
          go_simp
          with_reducible rfl
        rotate_left
        · simp only [Act.put, List.setIfInBounds_toArray, List.set_cons_zero, List.set_cons_succ]
          rfl
        refine pure_ (i := 1) (N := some 18) (v := ?_) (a' := ?_) #[true, true, false, false, false, false, false, false, false, false, false, false, false, false, false, false] rfl rfl (any_of HT_.out (by kernel_rfl)) (fun _ _ _ h => h) (Or.inl ⟨by rfl, ?_⟩) ?_ ?_
        rotate_left
        · intro w'
          go_simp
          with_reducible rfl
        rotate_left
        · simp only [Act.put, List.setIfInBounds_toArray, List.set_cons_zero, List.set_cons_succ]
          rfl
        refine pure_ (i := 2) (N := some 19) (v := ?_) (a' := ?_) #[true, true, true, false, false, false, false, false, false, false, false, false, false, false, false, false] rfl rfl (any_of HT_.out (by kernel_rfl)) (fun _ _ _ h => h) (Or.inl ⟨by rfl, ?_⟩) ?_ ?_
        rotate_left
        · intro w'
          go_simp
          with_reducible rfl
        rotate_left
        · simp only [Act.put, List.setIfInBounds_toArray, List.set_cons_zero, List.set_cons_succ]
          rfl
        refine take_ (i := 3) (N := some 20) (v := ?_) (a' := ?_) #[true, true, true, true, false, false, false, false, false, false, false, false, false, false, false, false] rfl rfl (take_ofW HT_.out HW_.out (by kernel_rfl)) (fun _ _ _ h => h) (Or.inl ⟨by rfl, ?_⟩) hHeld ?_ ?_
        rotate_left
        · intro w' s0
          go_simp
          with_reducible rfl
        rotate_left
        · simp only [Act.put, List.setIfInBounds_toArray, List.set_cons_zero, List.set_cons_succ]
          rfl
        refine pure_ (i := 4) (N := some 21) (v := ?_) (a' := ?_) #[true, true, true, true, true, false, false, false, false, false, false, false, false, false, false, false] rfl rfl (any_of HT_.out (by kernel_rfl)) (fun _ _ _ h => h) (Or.inl ⟨by rfl, ?_⟩) ?_ ?_
        rotate_left
        · intro w'
          go_simp
          with_reducible rfl
        rotate_left
        · simp only [Act.put, List.setIfInBounds_toArray, List.set_cons_zero, List.set_cons_succ]
          rfl
        refine pure_ (i := 5) (N := some 22) (v := ?_) (a' := ?_) #[true, true, true, true, true, true, false, false, false, false, false, false, false, false, false, false] rfl rfl (any_of HT_.out (by kernel_rfl)) (fun _ _ _ h => h) (Or.inl ⟨by rfl, ?_⟩) ?_ ?_
        rotate_left
        · intro w'
          go_simp
          rw [if_pos (show i ≤ c by omega)]
          all_goals with_reducible rfl
        rotate_left
        · simp only [Act.put, List.setIfInBounds_toArray, List.set_cons_zero, List.set_cons_succ]
          rfl
        refine pure_ (i := 7) (N := some 24) (v := ?_) (a' := ?_) #[true, true, true, true, true, true, false, true, false, false, false, false, false, false, false, false] rfl rfl (any_of HT_.out (by kernel_rfl)) (fun _ _ _ h => h) (Or.inl ⟨by rfl, ?_⟩) ?_ ?_
        rotate_left
        · intro w'
          go_simp
          with_reducible rfl
        rotate_left
        · simp only [Act.put, List.setIfInBounds_toArray, List.set_cons_zero, List.set_cons_succ]
          rfl
        refine pure_ (i := 8) (N := some 25) (v := ?_) (a' := ?_) #[true, true, true, true, true, true, false, true, true, false, false, false, false, false, false, false] rfl rfl (any_of HT_.out (by kernel_rfl)) (fun _ _ _ h => h) (Or.inl ⟨by rfl, ?_⟩) ?_ ?_
        rotate_left
        · intro w'
          go_simp
          with_reducible rfl
        rotate_left
        · simp only [Act.put, List.setIfInBounds_toArray, List.set_cons_zero, List.set_cons_succ]
          rfl
        refine pure_ (i := 9) (N := some 26) (v := ?_) (a' := ?_) #[true, true, true, true, true, true, false, true, true, true, false, false, false, false, false, false] rfl rfl (any_of HT_.out (by kernel_rfl)) (fun _ _ _ h => h) (Or.inl ⟨by rfl, ?_⟩) ?_ ?_
        rotate_left
        · intro w'
          go_simp
          with_reducible rfl
        rotate_left
        · simp only [Act.put, List.setIfInBounds_toArray, List.set_cons_zero, List.set_cons_succ]
          rfl
        refine take_ (i := 10) (N := some 27) (v := ?_) (a' := ?_) #[true, true, true, true, true, true, false, true, true, true, true, false, false, false, false, false] rfl rfl (take_ofW HT_.out HW_.out (by kernel_rfl)) (fun _ _ _ h => h) (Or.inl ⟨by rfl, ?_⟩) hHeld ?_ ?_
        rotate_left
        · intro w' s0
          go_simp
          with_reducible rfl
        rotate_left
        · simp only [Act.put, List.setIfInBounds_toArray, List.set_cons_zero, List.set_cons_succ]
          rfl
        refine pure_ (i := 11) (N := some 28) (v := ?_) (a' := ?_) #[true, true, true, true, true, true, false, true, true, true, true, true, false, false, false, false] rfl rfl (any_of HT_.out (by kernel_rfl)) (fun _ _ _ h => h) (Or.inl ⟨by rfl, ?_⟩) ?_ ?_
        rotate_left
        · intro w'
          go_simp
          with_reducible rfl
        rotate_left
        · simp only [Act.put, List.setIfInBounds_toArray, List.set_cons_zero, List.set_cons_succ]
          rfl
        refine pure_ (i := 12) (N := some 29) (v := ?_) (a' := ?_) #[true, true, true, true, true, true, false, true, true, true, true, true, true, false, false, false] rfl rfl (any_of HT_.out (by kernel_rfl)) (fun _ _ _ h => h) (Or.inl ⟨by rfl, ?_⟩) ?_ ?_
        rotate_left
        · intro w'
          go_simp
          try rw [if_pos (show c = i by omega)]
          all_goals with_reducible rfl
        rotate_left
        · simp only [Act.put, List.setIfInBounds_toArray, List.set_cons_zero, List.set_cons_succ]
          rfl
        refine one_ (i := 6) (N := some 23) #[true, true, true, true, true, true, true, true, true, true, true, true, true, false, false, false] rfl rfl (one_of HT_.out (by kernel_rfl)) (by decide) (fun K_ hK => ?_)
        refine call_ (N := some 23) 19 #[.slice (some ad) i c] (by rfl) rfl (by go_simp) ?_
        have HCall_ := (show Calls Try.prog 19 #[.slice (some ad) i c] w.drew _ from (slice_lo hi) ▸ New_any (xs.take i) (by rw [slice_lo hi]; omega) (some ad) c w.drew ((HI.out.2.1.take i).fz (Fz.refl _ _).drew (fun _ _ _ e => e)))
        refine HCall_.mono ?_
        clear HCall_
        rintro e w1 ⟨tl, rfl, l1, l2, l3, l4⟩
        have HL := hid (And.intro l1 (And.intro l2 (And.intro (show ∀ k o, tl.own k o → dz (some ad) i k o ∨ w.heap.size ≤ k from l3) (show Below w.heap.size w w1 from ⟨l4.os, l4.tape, l4.output, l4.size, l4.block⟩))))
        clear l1 l2 l3 l4
        refine ⟨_, rfl, ?_⟩
        refine hK.out _ _ ((HI.out.1.below HL.out.2.2.2 HI.out.1.lt).cell 1) (fun hHeld => ?_)
        clear hK K_
        refine norm_ (a' := ?_) ?_ ?_
        rotate_left
        · show Act.put _ (some 23) _ = _
          simp only [Act.put, List.setIfInBounds_toArray, List.set_cons_zero, List.set_cons_succ]
          rfl
        refine one_ (i := 13) (N := some 30) #[true, true, true, true, true, true, true, true, true, true, true, true, true, true, false, false] rfl rfl (one_of HT_.out (by kernel_rfl)) (by decide) (fun K_ hK => ?_)
        refine call_ (N := some 30) 19 #[.slice (some ad) (xs.length - i) (c - i)] (by rfl) rfl (by go_simp) ?_
        have HCall_ := (show Calls Try.prog 19 #[.slice (some ad) (xs.length - i) (c - i)] w1 _ from (List.length_drop (i := i) (l := xs)) ▸ New_any (xs.drop i) (by rw [List.length_drop]; omega) (some ad) (c - i) w1 (by rw [show xs.drop i = [] from List.drop_eq_nil_of_le (by omega), show c - i = 0 by omega]; exact Seg.empty _ _ HI.out.2.1.spot))
        refine HCall_.mono ?_
        clear HCall_
        rintro e w2 ⟨tr, rfl, r1, r2, r3, r4⟩
        have HR := hid (And.intro r1 (And.intro r2 (And.intro r3 r4)))
        have HB : Hid (Below w.heap.size w w2) := hid (below_at HL.out.2.2.2 r4 HL.out.2.2.2.size)
        clear r1 r2 r3 r4
        refine ⟨_, rfl, ?_⟩
        refine hK.out _ _ ((HI.out.1.below HB.out HI.out.1.lt).cell 1) (fun hHeld => ?_)
        clear hK K_
        refine norm_ (a' := ?_) ?_ ?_
        rotate_left
        · show Act.put _ (some 30) _ = _
          simp only [Act.put, List.setIfInBounds_toArray, List.set_cons_zero, List.set_cons_succ]
          rfl
        refine pure_ (i := 14) (N := some 4) (v := ?_) (a' := ?_) #[true, true, true, true, true, true, true, true, true, true, true, true, true, true, true, false] rfl rfl (any_of HT_.out (by kernel_rfl)) (fun _ _ _ h => h) (Or.inl ⟨by rfl, ?_⟩) ?_ ?_
        rotate_left
        · intro w'
          go_simp
          with_reducible rfl
        rotate_left
        · simp only [Act.put, List.setIfInBounds_toArray, List.set_cons_zero, List.set_cons_succ]
          rfl
        refine pure_ (i := 15) (N := some 5) (v := ?_) (a' := ?_) #[true, true, true, true, true, true, true, true, true, true, true, true, true, true, true, true] rfl rfl (any_of HT_.out (by kernel_rfl)) (fun _ _ _ h => h) (Or.inl ⟨by rfl, ?_⟩) ?_ ?_
        rotate_left
        · intro w'
          go_simp
          with_reducible rfl
        rotate_left
        · simp only [Act.put, List.setIfInBounds_toArray, List.set_cons_zero, List.set_cons_succ]
          rfl
        refine done_ (done_of HT_.out (by kernel_rfl)) ?_
        clear HT_ HW_
        go_wp2_with fail
        go_ret2
        have hnr : ∀ k o, ¬ dz (some ad) (xs.length - i) k o := fun k o hz => by
          obtain ⟨q1, e1, g2, g3⟩ := hz
          omega
        refine ⟨tl, tr, rfl, HL.out.1, HR.out.1, HL.out.2.1.below HR.out.2.2.2, HR.out.2.1, fun k o ho => ?_, fun k o ho => ?_, fun k o h1 h2 => ?_, HB.out⟩
        · rcases HL.out.2.2.1 k o ho with q | q
          · obtain ⟨q1, e1, g2, g3⟩ := q
            exact .inl (.inr ⟨q1, e1, g2, by omega⟩)
          · exact .inr q
        · rcases HR.out.2.2.1 k o ho with q | q
          · exact absurd (by simpa using q) (hnr k o)
          · exact .inr (Nat.le_trans HL.out.2.2.2.size q)
        · rcases HR.out.2.2.1 k o h2 with z | z
          · exact absurd (by simpa using z) (hnr k o)
          · have := HL.out.2.1.lt k o h1
            omega

theorem split_len (t : T) (i : Nat) (h : i ≤ t.len) : (T.split t i).1.len = i ∧ (T.split t i).2.len = t.len - i := by
  obtain ⟨h1, h2⟩ := T.flat_split t i h
  have hl : t.flat.length = t.len := rfl
  constructor
  · show (T.split t i).1.flat.length = i
    rw [h1, List.length_take, hl]; omega
  · show (T.split t i).2.flat.length = t.len - i
    rw [h2, List.length_drop, hl]
set_option maxHeartbeats 8000000 in
set_option maxRecDepth 100000 in
theorem SplitAt_any : ∀ (t : N) (i : Nat) (w : World), t.In w → i ≤ t.len → t.len ≤ 1099511627776 → Calls Try.prog 35 #[t.ptr, .int .i64 (i : Int)] w (Spl t i w)
  | .leaf bk A c xs, i, w, hin, hi, hl => split_leaf bk A c xs i w hin hi hl
  | .node bk l r, i, w, hin, hi, hl => by
    have HSL := hid (SplitAt_any l)
    have HSR := hid (SplitAt_any r)
    have HI := hid hin
    have hlen : (N.node bk l r).len = l.len + r.len := T.len_node _ _
    rw [hlen] at hi hl
    clear hlen
    have c0 : w.cell? ⟨bk, 0, none⟩ = some (.int .u8 1) := hin.1.cell 0
    have c3 : w.cell? ⟨bk, 3, none⟩ = some l.ptr := hin.1.cell 3
    have c4 : w.cell? ⟨bk, 4, none⟩ = some r.ptr := hin.1.cell 4
    have cl : w.cell? ⟨l.blk, 2, none⟩ = some (.int .i64 (l.len : Int)) := hin.2.1.len2
    clear hin
    rw [show (N.node bk l r).ptr = .pointer (some ⟨bk, 0, none⟩) from rfl]
    rw [show l.ptr = .pointer (some ⟨l.blk, 0, none⟩) from rfl] at c3
    rw [show r.ptr = .pointer (some ⟨r.blk, 0, none⟩) from rfl] at c4
    rcases Nat.lt_trichotomy i l.len with h | h | h
    · have hne : ¬ i = l.len := by omega
      have HE : Hid (T.split (N.node bk l r).raw i = ((T.split l.raw i).1, T.adj (T.split l.raw i).2 r.raw)) := hid (by show T.split (.node l.raw r.raw) i = _; rw [T.split, if_neg hne, if_pos h])
      have HSP := hid (split_len l.raw i (Nat.le_of_lt h))
      go_enter Try.func35, Try.ntmps35
      go_wp2_with fail
      refine (HSL.out i w HI.out.2.1 (by omega) (by omega)).mono ?_
      rintro e w1 ⟨t1, t2, rfl, a1, a2, a3, a4, a5, a6, a7, a8⟩
      have H := hid (And.intro a1 (And.intro a2 (And.intro a3 (And.intro a4 (And.intro a5 (And.intro a6 (And.intro a7 a8)))))))
      have k4 : w1.cell? ⟨bk, 4, none⟩ = some (.pointer (some ⟨r.blk, 0, none⟩)) := (HI.out.1.below a8 HI.out.1.lt).cell 4
      clear a1 a2 a3 a4 a5 a6 a7 a8 c0 c3 c4 cl hne
      go_wp2_with fail
      refine (join_any t2 r w1 H.out.2.2.2.1 (HI.out.2.2.1.below H.out.2.2.2.2.2.2.2) (fun k o h1 h2 => ?_) ?_).mono ?_
      · rcases H.out.2.2.2.2.2.1 k o h1 with q | q
        · exact HI.out.2.2.2.2.2 k o q h2
        · exact HI.out.2.2.1.far q h2
      · have : t2.len = l.len - i := by unfold N.len; rw [H.out.2.1]; exact HSP.out.2
        omega
      rintro e w2 ⟨t, rfl, b1, b2, b3, b4⟩
      have HJ := hid (And.intro b1 (And.intro b2 (And.intro b3 b4)))
      clear b1 b2 b3 b4
      go_wp2_with fail
      go_ret2
      have hE := HE.out
      refine ⟨t1, t, rfl, by rw [hE]; exact H.out.1, by rw [hE, HJ.out.1, H.out.2.1], H.out.2.2.1.below HJ.out.2.2.2, HJ.out.2.1, fun k o ho => ?_, fun k o ho => ?_, fun k o h1 h2 => ?_, below_at H.out.2.2.2.2.2.2.2 HJ.out.2.2.2 H.out.2.2.2.2.2.2.2.size⟩
      · rcases H.out.2.2.2.2.1 k o ho with q | q
        · exact .inl (.inr (.inl q))
        · exact .inr q
      · rcases HJ.out.2.2.1 k o ho with q | q | q
        · rcases H.out.2.2.2.2.2.1 k o q with q | q
          · exact .inl (.inr (.inl q))
          · exact .inr q
        · exact .inl (.inr (.inr q))
        · exact .inr (Nat.le_trans H.out.2.2.2.2.2.2.2.size q)
      · rcases HJ.out.2.2.1 k o h2 with q | q | q
        · exact H.out.2.2.2.2.2.2.1 k o h1 q
        · rcases H.out.2.2.2.2.1 k o h1 with z | z
          · exact HI.out.2.2.2.2.2 k o z q
          · exact HI.out.2.2.1.far z q
        · exact H.out.2.2.1.far q h1
    · subst h
      have HE : Hid (T.split (N.node bk l r).raw l.len = (l.raw, r.raw)) := hid (by show T.split (.node l.raw r.raw) l.raw.len = _; rw [T.split, if_pos rfl])
      go_enter Try.func35, Try.ntmps35
      go_wp2_with fail
      refine still_drew (by kernel_rfl) (by kernel_rfl) ?_
      repeat still_step
      refine wpStill_nil ?_
      go_wp2_with fail
      go_ret2
      have hE := HE.out
      have hB : Below w.heap.size w w.drew := (Below.refl _ _).drew
      exact ⟨l, r, rfl, by rw [hE], by rw [hE], HI.out.2.1.below hB, HI.out.2.2.1.below hB, fun k o ho => .inl (.inr (.inl ho)), fun k o ho => .inl (.inr (.inr ho)), HI.out.2.2.2.2.2, hB⟩
    · have hne : ¬ i = l.len := by omega
      have hnl : ¬ i < l.len := by omega
      have HE : Hid (T.split (N.node bk l r).raw i = (T.adj l.raw (T.split r.raw (i - l.len)).1, (T.split r.raw (i - l.len)).2)) := hid (by show T.split (.node l.raw r.raw) i = _; rw [T.split, if_neg hne, if_neg hnl])
      have HSP := hid (split_len r.raw (i - l.len) (by show i - l.len ≤ r.len; omega))
      go_enter Try.func35, Try.ntmps35
      go_wp2_with fail
      have hcast : (i : Int) - (l.len : Int) = ((i - l.len : Nat) : Int) := by omega
      rw [hcast]
      refine (HSR.out (i - l.len) w HI.out.2.2.1 (by omega) (by omega)).mono ?_
      rintro e w1 ⟨t1, t2, rfl, a1, a2, a3, a4, a5, a6, a7, a8⟩
      have H := hid (And.intro a1 (And.intro a2 (And.intro a3 (And.intro a4 (And.intro a5 (And.intro a6 (And.intro a7 a8)))))))
      have k3 : w1.cell? ⟨bk, 3, none⟩ = some (.pointer (some ⟨l.blk, 0, none⟩)) := (HI.out.1.below a8 HI.out.1.lt).cell 3
      clear a1 a2 a3 a4 a5 a6 a7 a8 c0 c3 c4 cl hne hnl hcast
      go_wp2_with fail
      refine (join_any l t1 w1 (HI.out.2.1.below H.out.2.2.2.2.2.2.2) H.out.2.2.1 (fun k o h1 h2 => ?_) ?_).mono ?_
      · rcases H.out.2.2.2.2.1 k o h2 with q | q
        · exact HI.out.2.2.2.2.2 k o h1 q
        · exact HI.out.2.1.far q h1
      · have : t1.len = i - l.len := by unfold N.len; rw [H.out.1]; exact HSP.out.1
        omega
      rintro e w2 ⟨t, rfl, b1, b2, b3, b4⟩
      have HJ := hid (And.intro b1 (And.intro b2 (And.intro b3 b4)))
      clear b1 b2 b3 b4
      go_wp2_with fail
      go_ret2
      have hE := HE.out
      refine ⟨t, t2, rfl, by rw [hE, HJ.out.1, H.out.1], by rw [hE]; exact H.out.2.1, HJ.out.2.1, H.out.2.2.2.1.below HJ.out.2.2.2, fun k o ho => ?_, fun k o ho => ?_, fun k o h1 h2 => ?_, below_at H.out.2.2.2.2.2.2.2 HJ.out.2.2.2 H.out.2.2.2.2.2.2.2.size⟩
      · rcases HJ.out.2.2.1 k o ho with q | q | q
        · exact .inl (.inr (.inl q))
        · rcases H.out.2.2.2.2.1 k o q with q | q
          · exact .inl (.inr (.inr q))
          · exact .inr q
        · exact .inr (Nat.le_trans H.out.2.2.2.2.2.2.2.size q)
      · rcases H.out.2.2.2.2.2.1 k o ho with q | q
        · exact .inl (.inr (.inr q))
        · exact .inr q
      · rcases HJ.out.2.2.1 k o h1 with q | q | q
        · rcases H.out.2.2.2.2.2.1 k o h2 with z | z
          · exact HI.out.2.2.2.2.2 k o q z
          · exact HI.out.2.1.far z q
        · exact H.out.2.2.2.2.2.2.1 k o q h2
        · exact H.out.2.2.2.1.far q h2
end Go.Proofs.Ytdlnpmbnedmmnaa.Rope
