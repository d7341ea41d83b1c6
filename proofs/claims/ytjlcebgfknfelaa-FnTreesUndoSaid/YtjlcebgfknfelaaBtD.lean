/- B-trees in memory: the walk through all. For every tree. -/
import Derived.Test.YtjlcebgfknfelaaBtC
import Derived.Test.YtjlcebgfknfelaaAvlF
namespace Go.Proofs.Ytjlcebgfknfelaa.Bt
open Go Go.RowKit Go.IntWalk Go.Proofs.Ytjlcebgfknfelaa.Hk Go.Proofs.Ytjlcebgfknfelaa.BtPure Go.Proofs.Ytjlcebgfknfelaa.Less Go.Proofs.YtjlcebgfknfelaaW.PrintWords Go.Proofs.YtjlcebgfknfelaaW.PrintLast Go.Proofs.YtjlcebgfknfelaaW.PrintMore
open Go.Proofs.Ytjlcebgfknfelaa.Row hiding hid alloc_size
open Go.Proofs.Ytjlcebgfknfelaa.Avl (LessS Acc Acc.drew Acc.drewN Pre Mid end_of part_of own_ge box_cell box_cell' infoInt)

def clo.T : Bool × List (List Nat × List Nat) := (true, [([], []), ([0], [0]), ([], []), ([2], [2]), ([1, 3], [1, 3]), ([], []), ([5], [5]), ([], []), ([7], [7]), ([6, 8, 4], [6, 8]), ([0, 1, 2, 3, 4, 5, 6], []), ([10, 4, 9, 0, 1, 2, 3, 4, 5, 6], [4, 10]), ([0, 1, 2, 3, 4, 5, 6, 7, 8, 9, 10, 11], []), ([12, 9, 11, 0, 1, 2, 3, 4, 5, 6, 7, 8, 9, 10, 11], [9, 12])])
def clo.B : List Nat := [0, 1, 0, 4, 15, 0, 32, 0, 128, 511, 127, 2047, 4095, 8191]
theorem clo.tab : rtab .any (opsOf Try.f76 0) = clo.T := by kernel_rfl
theorem clo.bits : waitsOk clo.T.2 clo.B = true := by kernel_rfl

set_option maxHeartbeats 4000000 in
set_option maxRecDepth 100000 in
theorem btDo1_any (N0 X : Nat) (val : Int) (okv : Bool) (ks vs : List Int) (k v : Int) (w : World) (hA : Acc N0 X val okv ks vs w) (hl : ks.length ≤ 1099511627776) (hl2 : vs.length ≤ 1099511627776) :
    Calls Try.prog 76 #[.int .i64 k, .int .i64 v, .pointer (some ⟨X, 0, none⟩)] w fun e w' => e = .returned (.tuple #[]) ∧ Acc N0 X val okv (ks ++ [k]) (vs ++ [v]) w' ∧ Fr (fun b => b = X ∨ N0 ≤ b) w w' := by
  obtain ⟨K, V, hB, hX, hN, hK, hV⟩ := hA
  obtain ⟨AK, cK, rfl⟩ := Kd.R_slice hK
  obtain ⟨AV, cV, rfl⟩ := Kd.R_slice hV
  have c2 : w.cell? ⟨X, 2, none⟩ = some (.slice AK ks.length cK) := hB.cell 2
  have c3 : w.cell? ⟨X, 3, none⟩ = some (.slice AV vs.length cV) := hB.cell 3
  have H : Hid (Pre N0 X val okv ks vs (.slice AK ks.length cK) (.slice AV vs.length cV) w w.drew) := ⟨hB, hN, Kd.R_drew hK, Kd.R_drew hV, (Fr.refl _ _).drew⟩
  have HN : Hid (X < N0) := hX
  clear hB hK hV hN hX
  go_enter Try.func76, Try.ntmps76
  refine start_ (n := 14) (S := fun w' => w'.cell? ⟨X, 2, none⟩ = some (.slice AK ks.length cK) ∧ w'.cell? ⟨X, 3, none⟩ = some (.slice AV vs.length cV)) (ds := [11, 13]) #[false, false, false, false, false, false, false, false, false, false, false, false, false, false] (by kernel_rfl) rfl rfl ⟨c2, c3⟩ (fun hHeld => ?_)
  refine with_tabW clo.tab clo.bits (fun HT_ HW_ => ?_)
  clear c2 c3
  generalize w.drew = W0 at H hHeld ⊢
  refine pure_ (i := 0) (N := some 5) (v := ?_) (a' := ?_) #[true, false, false, false, false, false, false, false, false, false, false, false, false, false] rfl rfl (any_of HT_.out (by kernel_rfl)) (fun _ _ _ h => h) (Or.inl ⟨by rfl, ?_⟩) ?_ ?_
  rotate_left
  · intro w'
    go_simp
    with_reducible rfl
  rotate_left
  · simp only [Act.put, List.setIfInBounds_toArray, List.set_cons_zero, List.set_cons_succ]
    rfl
  refine pure_ (i := 2) (N := some 7) (v := ?_) (a' := ?_) #[true, false, true, false, false, false, false, false, false, false, false, false, false, false] rfl rfl (any_of HT_.out (by kernel_rfl)) (fun _ _ _ h => h) (Or.inl ⟨by rfl, ?_⟩) ?_ ?_
  rotate_left
  · intro w'
    go_simp
    with_reducible rfl
  rotate_left
  · simp only [Act.put, List.setIfInBounds_toArray, List.set_cons_zero, List.set_cons_succ]
    rfl
  refine pure_ (i := 5) (N := some 10) (v := ?_) (a' := ?_) #[true, false, true, false, false, true, false, false, false, false, false, false, false, false] rfl rfl (any_of HT_.out (by kernel_rfl)) (fun _ _ _ h => h) (Or.inl ⟨by rfl, ?_⟩) ?_ ?_
  rotate_left
  · intro w'
    go_simp
    with_reducible rfl
  rotate_left
  · simp only [Act.put, List.setIfInBounds_toArray, List.set_cons_zero, List.set_cons_succ]
    rfl
  refine pure_ (i := 7) (N := some 12) (v := ?_) (a' := ?_) #[true, false, true, false, false, true, false, true, false, false, false, false, false, false] rfl rfl (any_of HT_.out (by kernel_rfl)) (fun _ _ _ h => h) (Or.inl ⟨by rfl, ?_⟩) ?_ ?_
  rotate_left
  · intro w'
    go_simp
    with_reducible rfl
  rotate_left
  · simp only [Act.put, List.setIfInBounds_toArray, List.set_cons_zero, List.set_cons_succ]
    rfl
  refine take_ (i := 1) (N := some 6) (v := ?_) (a' := ?_) #[true, true, true, false, false, true, false, true, false, false, false, false, false, false] rfl rfl (take_ofW HT_.out HW_.out (by kernel_rfl)) (fun _ _ _ h => h) (Or.inl ⟨by rfl, ?_⟩) hHeld ?_ ?_
  rotate_left
  · intro w' s0
    have s1 := s0.1
    have s2 := s0.2
    go_simp
    with_reducible rfl
  rotate_left
  · simp only [Act.put, List.setIfInBounds_toArray, List.set_cons_zero, List.set_cons_succ]
    rfl
  refine take_ (i := 6) (N := some 11) (v := ?_) (a' := ?_) #[true, true, true, false, false, true, true, true, false, false, false, false, false, false] rfl rfl (take_ofW HT_.out HW_.out (by kernel_rfl)) (fun _ _ _ h => h) (Or.inl ⟨by rfl, ?_⟩) hHeld ?_ ?_
  rotate_left
  · intro w' s0
    have s1 := s0.1
    have s2 := s0.2
    go_simp
    with_reducible rfl
  rotate_left
  · simp only [Act.put, List.setIfInBounds_toArray, List.set_cons_zero, List.set_cons_succ]
    rfl
  refine join_ (σ := Value × Nat × Nat) 4 #[true, true, true, true, true, true, true, true, true, false, true, false, false, false] (fun s => [(8, .slice (some ⟨s.2.1, 0, none⟩) 1 1), (9, s.1), (13, .slice (some ⟨s.2.2, 0, none⟩) 1 1), (15, .pointer (some ⟨X, 2, none⟩))]) (fun s W => Mid N0 X val okv ks vs (.slice AK ks.length cK) (.slice AV vs.length cV) s.1 k v s.2.2 w W) ?hcont ?hord
  case hcont =>
    rintro ⟨K1, g8, g13⟩ W hM
    have HM := hid hM
    obtain ⟨AK1, cK1, hq⟩ := Kd.R_slice hM.2.2.2.1
    rw [List.length_append, List.length_singleton] at hq
    replace hq : K1 = _ := hq
    subst hq
    clear hM H hHeld
    refine norm_ (a' := ?_) ?_ ?_
    rotate_left
    · simp only [putAll, Act.put, List.setIfInBounds_toArray, List.set_cons_zero, List.set_cons_succ]
      rfl
    refine one_ (i := 9) (N := some 14) #[true, true, true, true, true, true, true, true, true, true, true, false, false, false] rfl rfl (one_of HT_.out (by kernel_rfl)) (by decide) (fun K_ hK => ?_)
    refine append_int rfl (.tmp 11) (.tmp 13) 24 3 rfl Try.underlying24 infoInt N0 (.slice AV vs.length cV) vs v _ W rfl HM.out.2.2.2.2.1 ⟨g13, 0, none⟩ 1 rfl HM.out.1 (by omega) HM.out.2.2.1 ?_
    intro V1 W1 hR hg hat
    have HE := hid (end_of HN.out HM.out hR hg hat)
    obtain ⟨AV1, cV1, hq⟩ := Kd.R_slice hR
    rw [List.length_append, List.length_singleton] at hq
    subst hq
    refine hK.out _ _ ⟨HE.out.1.cell 2, HE.out.1.cell 3⟩ (fun hHeld => ?_)
    clear hK K_
    have e2 := hHeld.1
    have e3 := hHeld.2
    have f2 : W1.frozen? ⟨X, 2, none⟩ = false := HE.out.1.free 2
    have f3 : W1.frozen? ⟨X, 3, none⟩ = false := HE.out.1.free 3
    clear hR hg hat hHeld
    refine norm_ (a' := ?_) ?_ ?_
    rotate_left
    · show Act.put _ (some 14) _ = _
      simp only [Act.put, List.setIfInBounds_toArray, List.set_cons_zero, List.set_cons_succ]
      rfl
    refine last_ (i := 11) (N := none) #[true, true, true, true, true, true, true, true, true, true, true, true, false, false] rfl rfl (one_of HT_.out (by kernel_rfl)) (by decide) (fun K_ hK => ?_)
    refine skip_ (w1 := ?_) (by rfl) rfl ?_ ?_
    rotate_left
    · go_simp
      rfl
    refine hK.out _ _ ?_
    clear hK K_
    refine pure_ (i := 12) (N := some 16) (v := ?_) (a' := ?_) #[true, true, true, true, true, true, true, true, true, true, true, true, true, false] rfl rfl (any_of HT_.out (by kernel_rfl)) (fun _ _ _ h => h) (Or.inl ⟨by rfl, ?_⟩) ?_ ?_
    rotate_left
    · intro w'
      go_simp
      with_reducible rfl
    rotate_left
    · simp only [Act.put, List.setIfInBounds_toArray, List.set_cons_zero, List.set_cons_succ]
      rfl
    refine last_ (i := 13) (N := none) #[true, true, true, true, true, true, true, true, true, true, true, true, true, true] rfl rfl (one_of HT_.out (by kernel_rfl)) (by decide) (fun K_ hK => ?_)
    refine skip_ (w1 := ?_) (by rfl) rfl ?_ ?_
    rotate_left
    · go_simp
      rfl
    refine hK.out _ _ ?_
    clear hK K_
    refine done_ (done_of HT_.out (by kernel_rfl)) ?_
    try go_wp2
    go_end0
    exact ⟨rfl, HE.out.2.1, HE.out.2.2⟩
  case hord =>
    intro hcont
    clear hHeld
    refine two_ (i := 3) (j := 8) (Ni := some 8) (Nj := some 13) #[true, true, true, true, false, true, true, true, false, false, false, false, false, false] #[true, true, true, false, false, true, true, true, true, false, false, false, false, false] rfl rfl rfl rfl (two_of HT_.out (by kernel_rfl)) (by decide) (by decide) (fun K_ hK => ?_) (fun K_ hK => ?_)
    · refine value_ (w1 := ?_) (v := ?_) (by rfl) rfl ?_ ?_
      rotate_left 2
      · go_simp
        constructor
        · rfl
        · rfl
      refine hK.out _ _ ⟨(H.out.alloc _).cell2, (H.out.alloc _).cell3⟩ (fun hHeld => ?_)
      clear hK K_
      refine norm_ (a' := ?_) ?_ ?_
      rotate_left
      · show Act.put _ (some 8) _ = _
        simp only [Act.put, List.setIfInBounds_toArray, List.set_cons_zero, List.set_cons_succ]
        rfl
      have H1 := hid (H.out.alloc (.cells #[.int .i64 k] 3))
      have C1 := hid (box_cell W0 (.int .i64 k) 3)
      clear hHeld
      refine two_ (i := 4) (j := 8) (Ni := some 9) (Nj := some 13) #[true, true, true, true, true, true, true, true, false, false, false, false, false, false] #[true, true, true, true, false, true, true, true, true, false, false, false, false, false] rfl rfl rfl rfl (two_of HT_.out (by kernel_rfl)) (by decide) (by decide) (fun K_ hK => ?_) (fun K_ hK => ?_)
      · refine append_int rfl (.tmp 6) (.tmp 8) 24 3 rfl Try.underlying24 infoInt N0 (.slice AK ks.length cK) ks k _ _ rfl H1.out.2.2.1 ⟨W0.heap.size, 0, none⟩ 1 rfl C1.out (by omega) H1.out.2.1 ?_
        intro K1 W1 hR hg hat
        have HP := hid (part_of HN.out H1.out hR hg hat)
        refine hK.out _ _ ⟨HP.out.1.cell 2, HP.out.1.cell 3⟩ (fun hHeld => ?_)
        clear hK K_ hR hg hat hHeld
        refine norm_ (a' := ?_) ?_ ?_
        rotate_left
        · show Act.put _ (some 9) _ = _
          simp only [Act.put, List.setIfInBounds_toArray, List.set_cons_zero, List.set_cons_succ]
          rfl
        refine pure_ (i := 10) (N := some 15) (v := ?_) (a' := ?_) #[true, true, true, true, true, true, true, true, false, false, true, false, false, false] rfl rfl (any_of HT_.out (by kernel_rfl)) (fun _ _ _ h => h) (Or.inl ⟨by rfl, ?_⟩) ?_ ?_
        rotate_left
        · intro w'
          go_simp
          with_reducible rfl
        rotate_left
        · simp only [Act.put, List.setIfInBounds_toArray, List.set_cons_zero, List.set_cons_succ]
          rfl
        refine one_ (i := 8) (N := some 13) #[true, true, true, true, true, true, true, true, true, false, true, false, false, false] rfl rfl (one_of HT_.out (by kernel_rfl)) (by decide) (fun K_ hK => ?_)
        refine value_ (w1 := ?_) (v := ?_) (by rfl) rfl ?_ ?_
        rotate_left 2
        · go_simp
          constructor
          · rfl
          · rfl
        refine hK.out _ _ ⟨(HP.out.1.alloc _).cell 2, (HP.out.1.alloc _).cell 3⟩ (fun hHeld => ?_)
        clear hK K_
        exact norm_ rfl (hcont ⟨K1, W0.heap.size, W1.heap.size⟩ _ ⟨box_cell W1 _ _, HP.out.1.alloc _, by rw [alloc_size]; exact Nat.le_succ_of_le HP.out.2.1, Kd.R_alloc HP.out.2.2.1 _, Kd.R_alloc HP.out.2.2.2.1 _, HP.out.2.2.2.2.alloc _⟩)
      · refine value_ (w1 := ?_) (v := ?_) (by rfl) rfl ?_ ?_
        rotate_left 2
        · go_simp
          constructor
          · rfl
          · rfl
        refine hK.out _ _ ⟨(H1.out.alloc _).cell2, (H1.out.alloc _).cell3⟩ (fun hHeld => ?_)
        clear hK K_
        refine norm_ (a' := ?_) ?_ ?_
        rotate_left
        · show Act.put _ (some 13) _ = _
          simp only [Act.put, List.setIfInBounds_toArray, List.set_cons_zero, List.set_cons_succ]
          rfl
        have C2 := hid (((Below.refl _ _).alloc (Nat.le_refl _) (.cells #[.int .i64 v] 3) : Below _ (W0.alloc (.cells #[.int .i64 k] 3)) _))
        have H3 := hid (H1.out.alloc (.cells #[.int .i64 v] 3))
        have C3 := hid (box_cell' (W0.alloc (.cells #[.int .i64 k] 3)) (.int .i64 v) 3 (alloc_size _ _))
        clear H1 hHeld
        have H1 := H3
        clear H3
        refine one_ (i := 4) (N := some 9) #[true, true, true, true, true, true, true, true, true, false, false, false, false, false] rfl rfl (one_of HT_.out (by kernel_rfl)) (by decide) (fun K_ hK => ?_)
        refine append_int rfl (.tmp 6) (.tmp 8) 24 3 rfl Try.underlying24 infoInt N0 (.slice AK ks.length cK) ks k _ _ rfl H1.out.2.2.1 ⟨W0.heap.size, 0, none⟩ 1 rfl ((C2.out.cell (by rw [alloc_size]; exact Nat.lt_succ_self _)).trans C1.out) (by omega) H1.out.2.1 ?_
        intro K1 W1 hR hg hat
        have HP := hid (part_of HN.out H1.out hR hg hat)
        refine hK.out _ _ ⟨HP.out.1.cell 2, HP.out.1.cell 3⟩ (fun hHeld => ?_)
        have C4 := hid (hg.cell C3.out (fun e => by have := own_ge H.out.2.2.1 _ e.symm; simp only at this; omega))
        clear hK K_ hR hg hat hHeld
        refine norm_ (a' := ?_) ?_ ?_
        rotate_left
        · show Act.put _ (some 9) _ = _
          simp only [Act.put, List.setIfInBounds_toArray, List.set_cons_zero, List.set_cons_succ]
          rfl
        refine pure_ (i := 10) (N := some 15) (v := ?_) (a' := ?_) #[true, true, true, true, true, true, true, true, true, false, true, false, false, false] rfl rfl (any_of HT_.out (by kernel_rfl)) (fun _ _ _ h => h) (Or.inl ⟨by rfl, ?_⟩) ?_ ?_
        rotate_left
        · intro w'
          go_simp
          with_reducible rfl
        rotate_left
        · simp only [Act.put, List.setIfInBounds_toArray, List.set_cons_zero, List.set_cons_succ]
          rfl
        exact norm_ rfl (hcont ⟨K1, W0.heap.size, W0.heap.size + 1⟩ _ ⟨C4.out, HP.out⟩)
    · refine value_ (w1 := ?_) (v := ?_) (by rfl) rfl ?_ ?_
      rotate_left 2
      · go_simp
        constructor
        · rfl
        · rfl
      refine hK.out _ _ ⟨(H.out.alloc _).cell2, (H.out.alloc _).cell3⟩ (fun hHeld => ?_)
      clear hK K_
      refine norm_ (a' := ?_) ?_ ?_
      rotate_left
      · show Act.put _ (some 13) _ = _
        simp only [Act.put, List.setIfInBounds_toArray, List.set_cons_zero, List.set_cons_succ]
        rfl
      have H0 := hid (H.out.alloc (.cells #[.int .i64 v] 3))
      have C1 := hid (box_cell W0 (.int .i64 v) 3)
      clear hHeld
      refine one_ (i := 3) (N := some 8) #[true, true, true, true, false, true, true, true, true, false, false, false, false, false] rfl rfl (one_of HT_.out (by kernel_rfl)) (by decide) (fun K_ hK => ?_)
      refine value_ (w1 := ?_) (v := ?_) (by rfl) rfl ?_ ?_
      rotate_left 2
      · go_simp
        constructor
        · rfl
        · rfl
      refine hK.out _ _ ⟨(H0.out.alloc _).cell2, (H0.out.alloc _).cell3⟩ (fun hHeld => ?_)
      clear hK K_
      refine norm_ (a' := ?_) ?_ ?_
      rotate_left
      · show Act.put _ (some 8) _ = _
        simp only [Act.put, List.setIfInBounds_toArray, List.set_cons_zero, List.set_cons_succ]
        rfl
      have H1 := hid (H0.out.alloc (.cells #[.int .i64 k] 3))
      have C3 := hid (box_cell' (W0.alloc (.cells #[.int .i64 v] 3)) (.int .i64 k) 3 (alloc_size _ _))
      have C2 := hid (((Below.refl _ _).alloc (Nat.le_refl _) (.cells #[.int .i64 k] 3) : Below _ (W0.alloc (.cells #[.int .i64 v] 3)) _))
      clear hHeld
      refine one_ (i := 4) (N := some 9) #[true, true, true, true, true, true, true, true, true, false, false, false, false, false] rfl rfl (one_of HT_.out (by kernel_rfl)) (by decide) (fun K_ hK => ?_)
      refine append_int rfl (.tmp 6) (.tmp 8) 24 3 rfl Try.underlying24 infoInt N0 (.slice AK ks.length cK) ks k _ _ rfl H1.out.2.2.1 ⟨_, 0, none⟩ 1 rfl C3.out (by omega) H1.out.2.1 ?_
      intro K1 W1 hR hg hat
      have HP := hid (part_of HN.out H1.out hR hg hat)
      refine hK.out _ _ ⟨HP.out.1.cell 2, HP.out.1.cell 3⟩ (fun hHeld => ?_)
      have C4 := hid (hg.cell ((C2.out.cell (by rw [alloc_size]; exact Nat.lt_succ_self _)).trans C1.out) (fun e => by have := own_ge H.out.2.2.1 _ e.symm; simp only at this; omega))
      clear hK K_ hR hg hat hHeld
      refine norm_ (a' := ?_) ?_ ?_
      rotate_left
      · show Act.put _ (some 9) _ = _
        simp only [Act.put, List.setIfInBounds_toArray, List.set_cons_zero, List.set_cons_succ]
        rfl
      refine pure_ (i := 10) (N := some 15) (v := ?_) (a' := ?_) #[true, true, true, true, true, true, true, true, true, false, true, false, false, false] rfl rfl (any_of HT_.out (by kernel_rfl)) (fun _ _ _ h => h) (Or.inl ⟨by rfl, ?_⟩) ?_ ?_
      rotate_left
      · intro w'
        go_simp
        with_reducible rfl
      rotate_left
      · simp only [Act.put, List.setIfInBounds_toArray, List.set_cons_zero, List.set_cons_succ]
        rfl
      exact norm_ rfl (hcont ⟨K1, W0.heap.size + 1, W0.heap.size⟩ _ ⟨C4.out, HP.out⟩)

/-- The function value that gathers into X. -/
def cloV (X : Nat) : Value := .func (.func 76) #[] #[.pointer (some ⟨X, 0, none⟩)]
/-- The keys and the values that are there. -/
def keysV (l : List E) : List Int := (l.filter (·.2.2)).map (·.1)
def valsV (l : List E) : List Int := (l.filter (·.2.2)).map (·.2.1)
theorem keysV_app (a b : List E) : keysV (a ++ b) = keysV a ++ keysV b := by simp [keysV]
theorem valsV_app (a b : List E) : valsV (a ++ b) = valsV a ++ valsV b := by simp [valsV]
theorem valsV_len (l : List E) : (valsV l).length = (keysV l).length := by simp [valsV, keysV]
theorem keysV_le (l : List E) : (keysV l).length ≤ l.length := by simp [keysV, List.length_filter_le]

set_option maxHeartbeats 8000000 in
set_option maxRecDepth 100000 in
theorem each_leaf (N0 X R : Nat) (val : Int) (okv : Bool) (t : N 0) (ks vs : List Int) (w : World) (hI : N.In w 0 t) (hF : N.Fit 0 t) (hid' : ∀ b ∈ N.ids 0 t, b < N0 ∧ b ≠ X) (hA : Acc N0 X val okv ks vs w) (hlen : vs.length = ks.length)
    (hsz : ks.length + (T.flat 0 (N.raw 0 t)).length ≤ 1099511627776) :
    Calls Try.prog 94 #[.pointer (some ⟨R, 0, none⟩), .pointer (some ⟨N.blk 0 t, 0, none⟩), .int .i64 0, cloV X] w fun e w' => e = .returned (.tuple #[]) ∧ Acc N0 X val okv (ks ++ keysV (T.flat 0 (N.raw 0 t))) (vs ++ valsV (T.flat 0 (N.raw 0 t))) w' ∧ Fr (fun b => b = X ∨ N0 ≤ b) w w' := by
  obtain ⟨b, es⟩ := t
  obtain ⟨g, hN, hP⟩ := hI
  have HN : Hid (Nd w b es.length g) := hN
  have HP : Hid (Rep Rep0 g es) := hP
  have HF : Hid (es.length ≤ 63) := hF
  have HD : Hid (b < N0 ∧ b ≠ X) := hid' b (by show b ∈ [b]; simp)
  have HA := hid hA
  have HL := hid hlen
  have HS : Hid (ks.length + es.length ≤ 1099511627776) := hsz
  clear hN hP hF hid' hA hlen hsz
  show Calls Try.prog 94 #[.pointer (some ⟨R, 0, none⟩), .pointer (some ⟨b, 0, none⟩), .int .i64 0, .func (.func 76) #[] #[.pointer (some ⟨X, 0, none⟩)]] w fun e w' => e = .returned (.tuple #[]) ∧ Acc N0 X val okv (ks ++ keysV es) (vs ++ valsV es) w' ∧ Fr (fun b => b = X ∨ N0 ≤ b) w w'
  go_enter Try.func94, Try.ntmps94
  go_wp2_with fail
  go_loopg [8] es.length (fun n_ v8 wr => ∃ i : Nat, v8 = .int .i64 i ∧ i ≤ es.length ∧ Hid (n_ + i = es.length) ∧ Hid (Acc N0 X val okv (ks ++ keysV (es.take i)) (vs ++ valsV (es.take i)) wr ∧ Fr (fun b => b = X ∨ N0 ≤ b) w wr))
  case atStart => exact ⟨0, rfl, Nat.zero_le _, Nat.add_zero _, by show Acc N0 X val okv (ks ++ []) (vs ++ []) w; rw [List.append_nil, List.append_nil]; exact HA.out, Fr.refl _ _⟩
  case round =>
    obtain ⟨i, rfl, hi, HG, HI⟩ := hrel
    have HNW : Hid (Nd wr b es.length g) := Blk.fr HN.out HI.out.2 (fun h => by have := HD.out; omega)
    have c0 : wr.cell? ⟨b, 0, none⟩ = some (.int .i64 es.length) := HNW.out.m0
    by_cases hlt : i < es.length
    · have hx : es[i]? = some es[i] := List.getElem?_eq_getElem hlt
      have ht : es.take (i + 1) = es.take i ++ [es[i]] := List.take_succ_eq_append_getElem hlt
      have h64 : i < 64 := by have := HF.out; omega
      generalize es[i] = x at hx ht
      have hr := HP.out i x hx
      have a0 : wr.cell? ⟨b, 1 + i * 4, none⟩ = some (.int .i64 x.1) := by rw [← hr.1]; exact HNW.out.at' i 0 h64 (by omega)
      have a1 : wr.cell? ⟨b, 1 + i * 4 + 1, none⟩ = some (.int .i64 x.2.1) := by rw [← hr.2.1]; exact HNW.out.at' i 1 h64 (by omega)
      have a2 : wr.cell? ⟨b, 1 + i * 4 + 2, none⟩ = some (.bool x.2.2) := by rw [← hr.2.2]; exact HNW.out.at' i 2 h64 (by omega)
      have HT := hid ht
      clear hr hx ht
      have r1 : (i : Int) < 64 := by omega
      have hlti : (i : Int) < es.length := by omega
      cases hv : x.2.2 with
      | false =>
        rw [hv] at a2
        have HV := hid hv
        clear hv
        go_wp2_with fail
        have hg0 := HG.out
        obtain ⟨k1, rfl⟩ : ∃ k1, gk = k1 + 1 := ⟨gk - 1, by omega⟩
        go_roundg k1
        case measure => omega
        case rel => exact ⟨i + 1, rfl, hlt, by show k1 + (i + 1) = es.length; omega, by
          rw [HT.out, keysV_app, valsV_app, show keysV [x] = [] by simp [keysV, HV.out], show valsV [x] = [] by simp [valsV, HV.out], List.append_nil, List.append_nil]
          exact HI.out.1, HI.out.2⟩
      | true =>
        rw [hv] at a2
        have HV := hid hv
        clear hv
        go_upto_region 5 with fail
        refine still_tail_drew 15 (by kernel_rfl) (by kernel_rfl) ?_
        simp only [List.take_succ_cons, List.take_zero, List.drop_succ_cons, List.drop_zero]
        repeat still_step
        refine wpStill_nil ?_
        go_wp2_with fail
        refine (btDo1_any N0 X val okv (ks ++ keysV (es.take i)) (vs ++ valsV (es.take i)) x.1 x.2.1 wr.drew HI.out.1.drew ?l1 ?l2).mono ?_
        case l1 => have h1 := keysV_le (es.take i); have h2 := HS.out; rw [List.length_take] at h1; rw [List.length_append]; omega
        case l2 => have h1 := keysV_le (es.take i); have h2 := HS.out; have h3 := valsV_len (es.take i); have h4 := HL.out; rw [List.length_take] at h1; rw [List.length_append]; omega
        rintro e w2 ⟨rfl, hA2, hF2⟩
        have HA2 := hid hA2
        have HF2 : Hid (Fr (fun b => b = X ∨ N0 ≤ b) w w2) := HI.out.2.trans (⟨hF2.os, hF2.tape, hF2.output, hF2.size, hF2.block⟩ : Fr (fun b => b = X ∨ N0 ≤ b) wr w2) (fun _ _ h => h)
        clear hA2 hF2
        go_wp2_with fail
        have hg0 := HG.out
        obtain ⟨k1, rfl⟩ : ∃ k1, gk = k1 + 1 := ⟨gk - 1, by omega⟩
        go_roundg k1
        case measure => omega
        case rel => exact ⟨i + 1, rfl, hlt, by show k1 + (i + 1) = es.length; omega, by
          rw [HT.out, keysV_app, valsV_app, show keysV [x] = [x.1] by simp [keysV, HV.out], show valsV [x] = [x.2.1] by simp [valsV, HV.out], ← List.append_assoc, ← List.append_assoc]
          exact HA2.out, HF2.out⟩
    · obtain rfl : i = es.length := by omega
      have hlti : ¬ (es.length : Int) < es.length := by omega
      go_wp2_with fail
      go_end0
      have h1 := HI.out.1
      rw [List.take_length] at h1
      exact ⟨rfl, h1, HI.out.2⟩

set_option maxHeartbeats 8000000 in
set_option maxRecDepth 100000 in
theorem each_any (N0 X R : Nat) (val : Int) (okv : Bool) : ∀ (h : Nat) (t : N h) (ks vs : List Int) (w : World), N.In w h t → N.Fit h t → (∀ b ∈ N.ids h t, b < N0 ∧ b ≠ X) → Acc N0 X val okv ks vs w → vs.length = ks.length →
    ks.length + (T.flat h (N.raw h t)).length ≤ 1099511627776 → h ≤ 1099511627776 →
    Calls Try.prog 94 #[.pointer (some ⟨R, 0, none⟩), .pointer (some ⟨N.blk h t, 0, none⟩), .int .i64 h, cloV X] w fun e w' => e = .returned (.tuple #[]) ∧ Acc N0 X val okv (ks ++ keysV (T.flat h (N.raw h t))) (vs ++ valsV (T.flat h (N.raw h t))) w' ∧ Fr (fun b => b = X ∨ N0 ≤ b) w w'
  | 0, t, ks, vs, w, h1, h2, h3, h4, h5, h6, _ => each_leaf N0 X R val okv t ks vs w h1 h2 h3 h4 h5 h6
  | h + 1, (b, cs), ks, vs, w, hI, hF, hid', hA, hlen, hsz, hh => by
    obtain ⟨⟨g, hN, hP⟩, hI'⟩ := hI
    have HIH := hid (each_any N0 X R val okv h)
    have HN : Hid (Nd w b cs.length g) := hN
    have HP : Hid (Rep Rep1 g cs) := hP
    have HI1 : Hid (∀ c ∈ cs, N.In w h c.2) := hI'
    have HF : Hid (cs.length ≤ 63 ∧ 1 ≤ cs.length ∧ ∀ c ∈ cs, N.Fit h c.2) := hF
    have HD : Hid ((b < N0 ∧ b ≠ X) ∧ ∀ y ∈ fids cs, y < N0 ∧ y ≠ X) := ⟨hid' b (by show b ∈ b :: fids cs; simp), fun y hy => hid' y (by show y ∈ b :: fids cs; simp [hy])⟩
    have HA := hid hA
    have HL := hid hlen
    have HS : Hid (ks.length + (flatC (cs.map rawC)).length ≤ 1099511627776) := hsz
    have HH := hid hh
    clear hN hP hI' hF hid' hA hlen hsz hh
    have hz : (((h + 1 : Nat) : Int) == 0) = false := beq_eq_false_iff_ne.2 (by omega)
    have hz2 : wrap64 (((h + 1 : Nat) : Int) - 1) = (h : Int) := by have := HH.out; rw [wrap64_in _ (by omega)]; omega
    show Calls Try.prog 94 #[.pointer (some ⟨R, 0, none⟩), .pointer (some ⟨b, 0, none⟩), .int .i64 ((h + 1 : Nat) : Int), .func (.func 76) #[] #[.pointer (some ⟨X, 0, none⟩)]] w fun e w' => e = .returned (.tuple #[]) ∧ Acc N0 X val okv (ks ++ keysV (flatC (cs.map rawC))) (vs ++ valsV (flatC (cs.map rawC))) w' ∧ Fr (fun b => b = X ∨ N0 ≤ b) w w'
    obtain ⟨hv, hhv⟩ : ∃ hv : Int, hv = ((h + 1 : Nat) : Int) := ⟨_, rfl⟩
    rw [← hhv] at hz hz2 ⊢
    have hz3 : IntKind.i64.wrap (hv - 1) = (h : Int) := by rw [i64_w]; exact hz2
    clear hhv
    go_enter Try.func94, Try.ntmps94
    go_wp2_with fail
    go_loopg [9] cs.length (fun n_ v9 wr => ∃ i : Nat, v9 = .int .i64 i ∧ i ≤ cs.length ∧ Hid (n_ + i = cs.length) ∧ Hid (Acc N0 X val okv (ks ++ keysV (flatC ((cs.take i).map rawC))) (vs ++ valsV (flatC ((cs.take i).map rawC))) wr ∧ Fr (fun b => b = X ∨ N0 ≤ b) w wr))
    case atStart => exact ⟨0, rfl, Nat.zero_le _, Nat.add_zero _, by show Acc N0 X val okv (ks ++ []) (vs ++ []) w; rw [List.append_nil, List.append_nil]; exact HA.out, Fr.refl _ _⟩
    case round =>
      obtain ⟨i, rfl, hi, HG, HI⟩ := hrel
      have HNW : Hid (Nd wr b cs.length g) := Blk.fr HN.out HI.out.2 (fun h => by have := HD.out.1; omega)
      have c0 : wr.cell? ⟨b, 0, none⟩ = some (.int .i64 cs.length) := HNW.out.m0
      by_cases hlt : i < cs.length
      · have hx : cs[i]? = some cs[i] := List.getElem?_eq_getElem hlt
        have ht : cs.take (i + 1) = cs.take i ++ [cs[i]] := List.take_succ_eq_append_getElem hlt
        have h64 : i < 64 := by have := HF.out.1; omega
        have hm : cs[i] ∈ cs := List.getElem_mem hlt
        have hsp : flatC (cs.map rawC) = flatC ((cs.take i).map rawC) ++ (T.flat h (N.raw h cs[i].2) ++ flatC ((cs.drop (i + 1)).map rawC)) := by
          rw [← flatC_cons (rawC cs[i]), ← flatC_app]
          congr 1
          rw [← List.map_cons, ← List.map_append, ← List.drop_eq_getElem_cons hlt, List.take_append_drop]
        generalize cs[i] = x at hx ht hm hsp
        have hr := (HP.out i x hx).2
        have a3 : wr.cell? ⟨b, 1 + i * 4 + 3, none⟩ = some (.pointer (some ⟨N.blk h x.2, 0, none⟩)) := by rw [← hr]; exact HNW.out.at' i 3 h64 (by omega)
        have HT := hid ht
        have HXI : Hid (N.In wr h x.2) := (HI1.out x hm).fr HI.out.2 (fun y hy e => by have := HD.out.2 y (mem_fids hm hy); omega)
        have HXF : Hid (N.Fit h x.2 ∧ ∀ y ∈ N.ids h x.2, y < N0 ∧ y ≠ X) := ⟨HF.out.2.2 x hm, fun y hy => HD.out.2 y (mem_fids hm hy)⟩
        have HSX : Hid (vs.length + (valsV (flatC ((cs.take i).map rawC))).length = ks.length + (keysV (flatC ((cs.take i).map rawC))).length ∧ ks.length + (keysV (flatC ((cs.take i).map rawC))).length + (T.flat h (N.raw h x.2)).length ≤ 1099511627776) := by
          have h1 := HS.out
          rw [hsp, List.length_append, List.length_append] at h1
          have h2 := keysV_le (flatC ((cs.take i).map rawC))
          have h3 := valsV_len (flatC ((cs.take i).map rawC))
          have h4 := HL.out
          exact ⟨by omega, by omega⟩
        clear hr hx ht hm hsp
        have r1 : (i : Int) < 64 := by omega
        have hlti : (i : Int) < cs.length := by omega
        go_wp2_with fail
        refine (HIH.out x.2 (ks ++ keysV (flatC ((cs.take i).map rawC))) (vs ++ valsV (flatC ((cs.take i).map rawC))) wr HXI.out HXF.out.1 HXF.out.2 HI.out.1 (by rw [List.length_append, List.length_append]; exact HSX.out.1) (by rw [List.length_append]; exact HSX.out.2) (by have := HH.out; omega)).mono ?_
        rintro e w2 ⟨rfl, hA2, hF2⟩
        have HA2 := hid hA2
        have HF2 : Hid (Fr (fun b => b = X ∨ N0 ≤ b) w w2) := HI.out.2.trans hF2 (fun _ _ h => h)
        clear hA2 hF2
        go_wp2_with fail
        have hg0 := HG.out
        obtain ⟨k1, rfl⟩ : ∃ k1, gk = k1 + 1 := ⟨gk - 1, by omega⟩
        go_roundg k1
        case measure => omega
        case rel => exact ⟨i + 1, rfl, hlt, by show k1 + (i + 1) = cs.length; omega, by
          rw [HT.out, List.map_append, flatC_app, keysV_app, valsV_app, show flatC ([x].map rawC) = T.flat h (N.raw h x.2) by simp [flatC], ← List.append_assoc, ← List.append_assoc]
          exact HA2.out, HF2.out⟩
      · obtain rfl : i = cs.length := by omega
        have hlti : ¬ (cs.length : Int) < cs.length := by omega
        go_wp2_with fail
        go_end0
        have h1 := HI.out.1
        rw [List.take_length] at h1
        exact ⟨rfl, h1, HI.out.2⟩
end Go.Proofs.Ytjlcebgfknfelaa.Bt
