/- Ropes in memory: Slice, At. For every rope and all its places. -/
import Derived.Test.YtdlnpmbnedmmnaaRopeE
namespace Go.Proofs.Ytdlnpmbnedmmnaa.Rope
open Go Go.RowKit Go.Deep Go.Proofs.Ytdlnpmbnedmmnaa.Hk Go.Proofs.Ytdlnpmbnedmmnaa.RopePure Go.Proofs.YtdlnpmbnedmmnaaW.PrintWords Go.Proofs.YtdlnpmbnedmmnaaW.PrintLast Go.Proofs.YtdlnpmbnedmmnaaW.PrintMore
def sli15.T : Bool × List (List Nat × List Nat) := (true, [([], []), ([0], [0]), ([1], [1]), ([2], [2]), ([], []), ([], []), ([3, 4, 5], [3, 4, 5]), ([], []), ([7], [7]), ([8], [8]), ([9], [9]), ([], []), ([], []), ([10, 11, 12, 6], [10, 11, 12]), ([6, 13, 13], [6, 13]), ([14, 14, 0, 1, 2, 3, 4, 5, 6, 7, 8, 9, 10, 11, 12, 13, 14], [14])])
def sli15.B : List Nat := [0, 1, 3, 7, 0, 0, 63, 0, 128, 384, 896, 0, 0, 8191, 16383, 32767]
theorem sli15.tab : rtab .any (opsOf Try.f32 15) = sli15.T := by kernel_rfl
theorem sli15.bits : waitsOk sli15.T.2 sli15.B = true := by kernel_rfl

theorem Min_any (a b : Int) (w : World) : Calls Try.prog 39 #[.int .i64 a, .int .i64 b] w fun e w' => e = .returned (.int .i64 (min a b)) ∧ w' = w := by
  by_cases h : a < b
  · go_enter Try.func39, Try.ntmps39
    go_wp2_with fail
    go_ret
    exact ⟨by rw [show min a b = a by omega]; rfl, rfl⟩
  · go_enter Try.func39, Try.ntmps39
    go_wp2_with fail
    go_ret
    exact ⟨by rw [show min a b = b by omega]; rfl, rfl⟩
theorem Max_any (a b : Int) (w : World) : Calls Try.prog 40 #[.int .i64 a, .int .i64 b] w fun e w' => e = .returned (.int .i64 (max a b)) ∧ w' = w := by
  by_cases h : b < a
  · go_enter Try.func40, Try.ntmps40
    go_wp2_with fail
    go_ret
    exact ⟨by rw [show max a b = a by omega]; rfl, rfl⟩
  · go_enter Try.func40, Try.ntmps40
    go_wp2_with fail
    go_ret
    exact ⟨by rw [show max a b = b by omega]; rfl, rfl⟩
/-- A part of a row. -/
abbrev seg (xs : List Int) (a b : Nat) : List Int := (xs.drop a).take (b - a)
theorem seg_len {xs : List Int} {a b : Nat} (h : b ≤ xs.length) : (seg xs a b).length = b - a := by rw [List.length_take, List.length_drop]; omega
theorem seg_app (xs ys : List Int) (a b : Nat) (h : a ≤ b) : seg (xs ++ ys) a b = seg xs (min a xs.length) (min b xs.length) ++ seg ys (a - xs.length) (b - xs.length) := by
  unfold seg
  rw [List.drop_append, List.take_append, List.length_drop]
  congr 1
  · rcases Nat.le_total a xs.length with h1 | h1
    · rw [Nat.min_eq_left h1]
      rcases Nat.le_total b xs.length with h2 | h2
      · rw [Nat.min_eq_left h2]
      · rw [Nat.min_eq_right h2, List.take_of_length_le (by rw [List.length_drop]; omega), List.take_of_length_le (by rw [List.length_drop]; omega)]
    · rw [Nat.min_eq_right h1, List.drop_eq_nil_of_le h1, List.drop_eq_nil_of_le (Nat.le_refl _), List.take_nil, List.take_nil]
  · congr 1
    omega
/-- What Slice hands back: a row that reads so. -/
def Sli (w : World) (xs : List Int) (e : Ending) (w' : World) : Prop := ∃ A c, e = .returned (.slice A xs.length c) ∧ Rd w' A c xs ∧ Below w.heap.size w w'
theorem Rd.empty (w : World) (b : Nat) (c : Nat) : Rd w (some ⟨b, 0, none⟩) c [] := ⟨fun e => (by cases e), fun e => (by cases e), fun ad _ j x hx => by simp at hx⟩
theorem Rd.part {w : World} {A : Option Addr} {c n : Nat} {xs : List Int} {b q a : Nat} (h : Rd w A n xs) (hA : A = some ⟨b, q, none⟩) (m : Nat) : Rd w (some ⟨b, q + a, none⟩) c ((xs.drop a).take m) :=
  ⟨fun e => (by cases e), fun e => (by cases e), fun ad e j x hx => by
    obtain rfl := Option.some.inj e
    rw [List.getElem?_take] at hx
    split at hx
    · rw [List.getElem?_drop] at hx
      have := h.at_ _ hA (a + j) x hx
      rw [Addr.add_lit] at this ⊢
      rwa [Nat.add_assoc]
    · cases hx⟩
set_option maxHeartbeats 8000000 in
set_option maxRecDepth 100000 in
theorem Slice_any : ∀ (t : N) (a b : Nat) (w : World), t.In w → a ≤ b → b ≤ t.len → t.len ≤ 1099511627776 → Calls Try.prog 32 #[t.ptr, .int .i64 (a : Int), .int .i64 (b : Int)] w (Sli w (seg t.raw.flat a b))
  | .leaf bk A c xs, a, b, w, hin, hab, hb, hl => by
    have HI := hid hin
    have hbx : b ≤ xs.length := hb
    have hxc := hin.2.1.le
    have hlx : xs.length ≤ 1099511627776 := hl
    have c0 : w.cell? ⟨bk, 0, none⟩ = some (.int .u8 0) := hin.1.cell 0
    have c1 : w.cell? ⟨bk, 1, none⟩ = some (.slice A xs.length c) := hin.1.cell 1
    clear hin hb hl
    rw [show (N.leaf bk A c xs).ptr = .pointer (some ⟨bk, 0, none⟩) from rfl]
    by_cases h : b ≤ a
    · have hn : seg xs a b = [] := by unfold seg; rw [show b - a = 0 by omega, List.take_zero]
      go_enter Try.func32, Try.ntmps32
      go_wp2_with fail
      go_ret
      show Sli w (seg xs a b) (.returned (.slice (some ⟨w.heap.size, 0, none⟩) 0 0)) _
      rw [hn]
      exact ⟨_, 0, rfl, Rd.empty _ _ _, (Below.refl _ _).alloc (Nat.le_refl _) _⟩
    · obtain ⟨ba, qa, hA, hcl⟩ := HI.out.2.1.at_ (by omega)
      clear hcl
      subst hA
      go_enter Try.func32, Try.ntmps32
      go_wp2_with fail
      go_ret
      show Sli w (seg xs a b) (.returned (.slice (some ⟨ba, qa + a, none⟩) (b - a) (c - a))) _
      exact ⟨_, c - a, by rw [seg_len hbx], HI.out.2.1.rd.part rfl (b - a), Below.refl _ _⟩
  | .node bk l r, a, b, w, hin, hab, hb, hl => by
    have HSL := hid (Slice_any l)
    have HSR := hid (Slice_any r)
    have HI := hid hin
    have hlen : (N.node bk l r).len = l.len + r.len := T.len_node _ _
    rw [hlen] at hb hl
    clear hlen
    have c0 : w.cell? ⟨bk, 0, none⟩ = some (.int .u8 1) := hin.1.cell 0
    have c3 : w.cell? ⟨bk, 3, none⟩ = some l.ptr := hin.1.cell 3
    have c4 : w.cell? ⟨bk, 4, none⟩ = some r.ptr := hin.1.cell 4
    have cl : w.cell? ⟨l.blk, 2, none⟩ = some (.int .i64 (l.len : Int)) := hin.2.1.len2
    have cr : w.cell? ⟨r.blk, 2, none⟩ = some (.int .i64 (r.len : Int)) := hin.2.2.1.len2
    clear hin
    rw [show (N.node bk l r).ptr = .pointer (some ⟨bk, 0, none⟩) from rfl]
    rw [show l.ptr = .pointer (some ⟨l.blk, 0, none⟩) from rfl] at c3
    rw [show r.ptr = .pointer (some ⟨r.blk, 0, none⟩) from rfl] at c4
    by_cases h : b ≤ a
    · have hn : seg (N.node bk l r).raw.flat a b = [] := by unfold seg; rw [show b - a = 0 by omega, List.take_zero]
      go_enter Try.func32, Try.ntmps32
      go_wp2_with fail
      go_ret
      rw [hn]
      exact ⟨_, 0, rfl, Rd.empty _ _ _, (Below.refl _ _).alloc (Nat.le_refl _) _⟩
    · by_cases h1 : b ≤ l.len
      · have E1 : Hid (min (a : Int) (l.len : Int) = (a : Int)) := hid (by omega)
        have E2 : Hid (min (b : Int) (l.len : Int) = (b : Int)) := hid (by omega)
        have E3 : Hid (max 0 (min ((a : Int) - (l.len : Int)) (r.len : Int)) = (0 : Int)) := hid (by omega)
        have E4 : Hid (max 0 (min ((b : Int) - (l.len : Int)) (r.len : Int)) = (0 : Int)) := hid (by omega)
        go_enter Try.func32, Try.ntmps32
        go_wp2_with fail
        refine (Min_any (a : Int) (l.len : Int) _).mono ?_
        rintro e w' ⟨rfl, rfl⟩
        rw [E1.out]
        go_wp2_with fail
        refine (Min_any (b : Int) (l.len : Int) _).mono ?_
        rintro e w' ⟨rfl, rfl⟩
        rw [E2.out]
        go_wp2_with fail
        refine (Min_any ((a : Int) - (l.len : Int)) (r.len : Int) _).mono ?_
        rintro e w' ⟨rfl, rfl⟩
        go_wp2_with fail
        refine (Max_any 0 (min ((a : Int) - (l.len : Int)) (r.len : Int)) _).mono ?_
        rintro e w' ⟨rfl, rfl⟩
        rw [E3.out]
        go_wp2_with fail
        refine (Min_any ((b : Int) - (l.len : Int)) (r.len : Int) _).mono ?_
        rintro e w' ⟨rfl, rfl⟩
        go_wp2_with fail
        refine (Max_any 0 (min ((b : Int) - (l.len : Int)) (r.len : Int)) _).mono ?_
        rintro e w' ⟨rfl, rfl⟩
        rw [E4.out]
        go_wp2_with fail
        refine (HSL.out a b w' HI.out.2.1 (by omega) (by omega) (by omega)).mono ?_
        rintro e w1 ⟨A1, k1, rfl, hr1, hb1⟩
        have H1 := hid (And.intro hr1 hb1)
        clear hr1 hb1
        generalize hg : (seg l.raw.flat a b).length = n1
        have HG := hid hg
        clear hg
        go_wp2_with fail
        go_ret
        have hs : seg (N.node bk l r).raw.flat a b = seg l.raw.flat a b := by
          show seg (l.raw.flat ++ r.raw.flat) a b = _
          rw [seg_app _ _ _ _ (by omega), Nat.min_eq_left (by unfold N.len T.len at *; omega), Nat.min_eq_left (by unfold N.len T.len at *; omega)]
          unfold seg
          rw [show b - l.raw.flat.length - (a - l.raw.flat.length) = 0 by unfold N.len T.len at *; omega, List.take_zero, List.append_nil]
        rw [hs]
        exact ⟨A1, k1, by rw [HG.out]; rfl, H1.out.1, H1.out.2⟩
      · by_cases h2 : l.len ≤ a
        · have E1 : Hid (min (a : Int) (l.len : Int) = (l.len : Int)) := hid (by omega)
          have E2 : Hid (min (b : Int) (l.len : Int) = (l.len : Int)) := hid (by omega)
          have E3 : Hid (max 0 (min ((a : Int) - (l.len : Int)) (r.len : Int)) = ((a - l.len : Nat) : Int)) := hid (by omega)
          have E4 : Hid (max 0 (min ((b : Int) - (l.len : Int)) (r.len : Int)) = ((b - l.len : Nat) : Int)) := hid (by omega)
          go_enter Try.func32, Try.ntmps32
          go_wp2_with fail
          refine (Min_any (a : Int) (l.len : Int) _).mono ?_
          rintro e w' ⟨rfl, rfl⟩
          rw [E1.out]
          go_wp2_with fail
          refine (Min_any (b : Int) (l.len : Int) _).mono ?_
          rintro e w' ⟨rfl, rfl⟩
          rw [E2.out]
          go_wp2_with fail
          refine (Min_any ((a : Int) - (l.len : Int)) (r.len : Int) _).mono ?_
          rintro e w' ⟨rfl, rfl⟩
          go_wp2_with fail
          refine (Max_any 0 (min ((a : Int) - (l.len : Int)) (r.len : Int)) _).mono ?_
          rintro e w' ⟨rfl, rfl⟩
          rw [E3.out]
          go_wp2_with fail
          refine (Min_any ((b : Int) - (l.len : Int)) (r.len : Int) _).mono ?_
          rintro e w' ⟨rfl, rfl⟩
          go_wp2_with fail
          refine (Max_any 0 (min ((b : Int) - (l.len : Int)) (r.len : Int)) _).mono ?_
          rintro e w' ⟨rfl, rfl⟩
          rw [E4.out]
          go_wp2_with fail
          refine (HSR.out (a - l.len) (b - l.len) w' HI.out.2.2.1 (by omega) (by omega) (by omega)).mono ?_
          rintro e w1 ⟨A1, k1, rfl, hr1, hb1⟩
          have H1 := hid (And.intro hr1 hb1)
          clear hr1 hb1
          generalize hg : (seg r.raw.flat (a - l.len) (b - l.len)).length = n1
          have HG := hid hg
          clear hg
          go_wp2_with fail
          go_ret
          have hs : seg (N.node bk l r).raw.flat a b = seg r.raw.flat (a - l.len) (b - l.len) := by
            show seg (l.raw.flat ++ r.raw.flat) a b = _
            rw [seg_app _ _ _ _ (by omega)]
            have : seg l.raw.flat (min a l.raw.flat.length) (min b l.raw.flat.length) = [] := by
              unfold seg
              rw [show min b l.raw.flat.length - min a l.raw.flat.length = 0 by unfold N.len T.len at *; omega, List.take_zero]
            rw [this, List.nil_append]
            rfl
          rw [hs]
          exact ⟨A1, k1, by rw [HG.out]; rfl, H1.out.1, H1.out.2⟩
        · have E1 : Hid (min (a : Int) (l.len : Int) = (a : Int)) := hid (by omega)
          have E2 : Hid (min (b : Int) (l.len : Int) = (l.len : Int)) := hid (by omega)
          have E3 : Hid (max 0 (min ((a : Int) - (l.len : Int)) (r.len : Int)) = (0 : Int)) := hid (by omega)
          have E4 : Hid (max 0 (min ((b : Int) - (l.len : Int)) (r.len : Int)) = ((b - l.len : Nat) : Int)) := hid (by omega)
          go_enter Try.func32, Try.ntmps32
          go_wp2_with fail
          refine (Min_any (a : Int) (l.len : Int) _).mono ?_
          rintro e w' ⟨rfl, rfl⟩
          rw [E1.out]
          go_wp2_with fail
          refine (Min_any (b : Int) (l.len : Int) _).mono ?_
          rintro e w' ⟨rfl, rfl⟩
          rw [E2.out]
          go_wp2_with fail
          refine (Min_any ((a : Int) - (l.len : Int)) (r.len : Int) _).mono ?_
          rintro e w' ⟨rfl, rfl⟩
          go_wp2_with fail
          refine (Max_any 0 (min ((a : Int) - (l.len : Int)) (r.len : Int)) _).mono ?_
          rintro e w' ⟨rfl, rfl⟩
          rw [E3.out]
          go_wp2_with fail
          refine (Min_any ((b : Int) - (l.len : Int)) (r.len : Int) _).mono ?_
          rintro e w' ⟨rfl, rfl⟩
          go_wp2_with fail
          refine (Max_any 0 (min ((b : Int) - (l.len : Int)) (r.len : Int)) _).mono ?_
          rintro e w' ⟨rfl, rfl⟩
          rw [E4.out]
          go_wp2_with fail
          refine start_ (n := 16) (S := fun w' => w'.cell? ⟨bk, 3, none⟩ = some (l.ptr) ∧ w'.cell? ⟨bk, 4, none⟩ = some (r.ptr)) (ds := []) #[false, false, false, false, false, false, false, false, false, false, false, false, false, false, false, false] (by kernel_rfl) rfl rfl ⟨c3, c4⟩ (fun hHeld => ?_)
          refine with_tabW sli15.tab sli15.bits (fun HT_ HW_ => ?_)
          clear c0 c3 c4 cl cr
          refine pure_ (i := 0) (N := some 70) (v := ?_) (a' := ?_) #[true, false, false, false, false, false, false, false, false, false, false, false, false, false, false, false] rfl rfl (any_of HT_.out (by kernel_rfl)) (fun _ _ _ h => h) (Or.inl ⟨by rfl, ?_⟩) ?_ ?_
          rotate_left
          · intro w'
            go_simp
            with_reducible rfl
          rotate_left
          · simp only [Act.put, List.setIfInBounds_toArray, List.set_cons_zero, List.set_cons_succ]
            rfl
          refine pure_ (i := 1) (N := some 71) (v := ?_) (a' := ?_) #[true, true, false, false, false, false, false, false, false, false, false, false, false, false, false, false] rfl rfl (any_of HT_.out (by kernel_rfl)) (fun _ _ _ h => h) (Or.inl ⟨by rfl, ?_⟩) ?_ ?_
          rotate_left
          · intro w'
            go_simp
            with_reducible rfl
          rotate_left
          · simp only [Act.put, List.setIfInBounds_toArray, List.set_cons_zero, List.set_cons_succ]
            rfl
          refine pure_ (i := 2) (N := some 72) (v := ?_) (a' := ?_) #[true, true, true, false, false, false, false, false, false, false, false, false, false, false, false, false] rfl rfl (any_of HT_.out (by kernel_rfl)) (fun _ _ _ h => h) (Or.inl ⟨by rfl, ?_⟩) ?_ ?_
          rotate_left
          · intro w'
            go_simp
            with_reducible rfl
          rotate_left
          · simp only [Act.put, List.setIfInBounds_toArray, List.set_cons_zero, List.set_cons_succ]
            rfl
          refine take_ (i := 3) (N := some 73) (v := ?_) (a' := ?_) #[true, true, true, true, false, false, false, false, false, false, false, false, false, false, false, false] rfl rfl (take_ofW HT_.out HW_.out (by kernel_rfl)) (fun _ _ _ h => h) (Or.inl ⟨by rfl, ?_⟩) hHeld ?_ ?_
          rotate_left
          · intro w' s0
            obtain ⟨s1, s2⟩ := s0
            go_simp
            with_reducible rfl
          rotate_left
          · simp only [Act.put, List.setIfInBounds_toArray, List.set_cons_zero, List.set_cons_succ]
            rfl
          refine pure_ (i := 4) (N := some 74) (v := ?_) (a' := ?_) #[true, true, true, true, true, false, false, false, false, false, false, false, false, false, false, false] rfl rfl (any_of HT_.out (by kernel_rfl)) (fun _ _ _ h => h) (Or.inl ⟨by rfl, ?_⟩) ?_ ?_
          rotate_left
          · intro w'
            go_simp
            with_reducible rfl
          rotate_left
          · simp only [Act.put, List.setIfInBounds_toArray, List.set_cons_zero, List.set_cons_succ]
            rfl
          refine pure_ (i := 5) (N := some 75) (v := ?_) (a' := ?_) #[true, true, true, true, true, true, false, false, false, false, false, false, false, false, false, false] rfl rfl (any_of HT_.out (by kernel_rfl)) (fun _ _ _ h => h) (Or.inl ⟨by rfl, ?_⟩) ?_ ?_
          rotate_left
          · intro w'
            go_simp
            with_reducible rfl
          rotate_left
          · simp only [Act.put, List.setIfInBounds_toArray, List.set_cons_zero, List.set_cons_succ]
            rfl
          refine pure_ (i := 7) (N := some 77) (v := ?_) (a' := ?_) #[true, true, true, true, true, true, false, true, false, false, false, false, false, false, false, false] rfl rfl (any_of HT_.out (by kernel_rfl)) (fun _ _ _ h => h) (Or.inl ⟨by rfl, ?_⟩) ?_ ?_
          rotate_left
          · intro w'
            go_simp
            with_reducible rfl
          rotate_left
          · simp only [Act.put, List.setIfInBounds_toArray, List.set_cons_zero, List.set_cons_succ]
            rfl
          refine pure_ (i := 8) (N := some 78) (v := ?_) (a' := ?_) #[true, true, true, true, true, true, false, true, true, false, false, false, false, false, false, false] rfl rfl (any_of HT_.out (by kernel_rfl)) (fun _ _ _ h => h) (Or.inl ⟨by rfl, ?_⟩) ?_ ?_
          rotate_left
          · intro w'
            go_simp
            with_reducible rfl
          rotate_left
          · simp only [Act.put, List.setIfInBounds_toArray, List.set_cons_zero, List.set_cons_succ]
            rfl
          refine pure_ (i := 9) (N := some 79) (v := ?_) (a' := ?_) #[true, true, true, true, true, true, false, true, true, true, false, false, false, false, false, false] rfl rfl (any_of HT_.out (by kernel_rfl)) (fun _ _ _ h => h) (Or.inl ⟨by rfl, ?_⟩) ?_ ?_
          rotate_left
          · intro w'
            go_simp
            with_reducible rfl
          rotate_left
          · simp only [Act.put, List.setIfInBounds_toArray, List.set_cons_zero, List.set_cons_succ]
            rfl
          refine take_ (i := 10) (N := some 80) (v := ?_) (a' := ?_) #[true, true, true, true, true, true, false, true, true, true, true, false, false, false, false, false] rfl rfl (take_ofW HT_.out HW_.out (by kernel_rfl)) (fun _ _ _ h => h) (Or.inl ⟨by rfl, ?_⟩) hHeld ?_ ?_
          rotate_left
          · intro w' s0
            obtain ⟨s1, s2⟩ := s0
            go_simp
            with_reducible rfl
          rotate_left
          · simp only [Act.put, List.setIfInBounds_toArray, List.set_cons_zero, List.set_cons_succ]
            rfl
          refine pure_ (i := 11) (N := some 81) (v := ?_) (a' := ?_) #[true, true, true, true, true, true, false, true, true, true, true, true, false, false, false, false] rfl rfl (any_of HT_.out (by kernel_rfl)) (fun _ _ _ h => h) (Or.inl ⟨by rfl, ?_⟩) ?_ ?_
          rotate_left
          · intro w'
            go_simp
            with_reducible rfl
          rotate_left
          · simp only [Act.put, List.setIfInBounds_toArray, List.set_cons_zero, List.set_cons_succ]
            rfl
          refine pure_ (i := 12) (N := some 82) (v := ?_) (a' := ?_) #[true, true, true, true, true, true, false, true, true, true, true, true, true, false, false, false] rfl rfl (any_of HT_.out (by kernel_rfl)) (fun _ _ _ h => h) (Or.inl ⟨by rfl, ?_⟩) ?_ ?_
          rotate_left
          · intro w'
            go_simp
            with_reducible rfl
          rotate_left
          · simp only [Act.put, List.setIfInBounds_toArray, List.set_cons_zero, List.set_cons_succ]
            rfl
          refine one_ (i := 6) (N := some 76) #[true, true, true, true, true, true, true, true, true, true, true, true, true, false, false, false] rfl rfl (one_of HT_.out (by kernel_rfl)) (by decide) (fun K_ hK => ?_)
          refine call_ (N := some 76) 32 #[l.ptr, .int .i64 (a : Int), .int .i64 (l.len : Int)] (by rfl) rfl (by go_simp) ?_
          have HCall_ := HSL.out a l.len w'.drew (HI.out.2.1.fz (Fz.refl _ _).drew (fun _ _ _ e => e)) (by omega) (Nat.le_refl _) (by omega)
          refine HCall_.mono ?_
          clear HCall_
          rintro e w1 ⟨A1, k1, rfl, hr1, hb1⟩
          have H1 := hid (And.intro hr1 (show Below w'.heap.size w' w1 from ⟨hb1.os, hb1.tape, hb1.output, hb1.size, hb1.block⟩))
          clear hr1 hb1
          refine ⟨_, rfl, ?_⟩
          refine hK.out _ _ ⟨((HI.out.1.below H1.out.2 HI.out.1.lt).cell 3), ((HI.out.1.below H1.out.2 HI.out.1.lt).cell 4)⟩ (fun hHeld => ?_)
          clear hK K_
          refine norm_ (a' := ?_) ?_ ?_
          rotate_left
          · show Act.put _ (some 76) _ = _
            simp only [Act.put, List.setIfInBounds_toArray, List.set_cons_zero, List.set_cons_succ]
            rfl
          refine one_ (i := 13) (N := some 83) #[true, true, true, true, true, true, true, true, true, true, true, true, true, true, false, false] rfl rfl (one_of HT_.out (by kernel_rfl)) (by decide) (fun K_ hK => ?_)
          refine call_ (N := some 83) 32 #[r.ptr, .int .i64 0, .int .i64 ((b - l.len : Nat) : Int)] (by rfl) rfl (by go_simp) ?_
          have HCall_ := HSR.out 0 (b - l.len) w1 (HI.out.2.2.1.below H1.out.2) (Nat.zero_le _) (by omega) (by omega)
          refine HCall_.mono ?_
          clear HCall_
          rintro e w2 ⟨A2, k2, rfl, hr2, hb2⟩
          have H2 := hid (And.intro hr2 hb2)
          have HB : Hid (Below w'.heap.size w' w2) := hid (below_at H1.out.2 hb2 H1.out.2.size)
          clear hr2 hb2
          refine ⟨_, rfl, ?_⟩
          refine hK.out _ _ ⟨((HI.out.1.below HB.out HI.out.1.lt).cell 3), ((HI.out.1.below HB.out HI.out.1.lt).cell 4)⟩ (fun hHeld => ?_)
          clear hK K_
          refine norm_ (a' := ?_) ?_ ?_
          rotate_left
          · show Act.put _ (some 83) _ = _
            simp only [Act.put, List.setIfInBounds_toArray, List.set_cons_zero, List.set_cons_succ]
            rfl
          refine one_ (i := 14) (N := some 84) #[true, true, true, true, true, true, true, true, true, true, true, true, true, true, true, false] rfl rfl (one_of HT_.out (by kernel_rfl)) (by decide) (fun K_ hK => ?_)
          refine call_ (N := some 84) 29 #[.slice A1 (seg l.raw.flat a l.len).length k1, .slice A2 (seg r.raw.flat 0 (b - l.len)).length k2] (by rfl) rfl (by go_simp) ?_
          have HCall_ := concat_any A1 A2 k1 k2 _ _ w2 (H1.out.1.below H2.out.2) H2.out.1 (Nat.le_trans (Nat.le_of_eq (seg_len (xs := l.raw.flat) (a := a) (Nat.le_refl l.len))) (by omega)) (Nat.le_trans (Nat.le_of_eq (seg_len (xs := r.raw.flat) (a := 0) (show b - l.len ≤ r.len by omega))) (by omega))
          refine HCall_.mono ?_
          clear HCall_
          rintro e w3 ⟨v3, rfl, hm⟩
          have H3 := hid (And.intro hm (below_at HB.out hm.2 HB.out.size))
          clear hm
          refine ⟨_, rfl, ?_⟩
          refine hK.out _ _ ⟨((HI.out.1.below H3.out.2 HI.out.1.lt).cell 3), ((HI.out.1.below H3.out.2 HI.out.1.lt).cell 4)⟩ (fun hHeld => ?_)
          clear hK K_
          refine norm_ (a' := ?_) ?_ ?_
          rotate_left
          · show Act.put _ (some 84) _ = _
            simp only [Act.put, List.setIfInBounds_toArray, List.set_cons_zero, List.set_cons_succ]
            rfl
          refine pure_ (i := 15) (N := some 6) (v := ?_) (a' := ?_) #[true, true, true, true, true, true, true, true, true, true, true, true, true, true, true, true] rfl rfl (any_of HT_.out (by kernel_rfl)) (fun _ _ _ h => h) (Or.inl ⟨by rfl, ?_⟩) ?_ ?_
          rotate_left
          · intro w'
            go_simp
            with_reducible rfl
          rotate_left
          · simp only [Act.put, List.setIfInBounds_toArray, List.set_cons_zero, List.set_cons_succ]
            rfl
          refine done_ (done_of HT_.out (by kernel_rfl)) ?_
          clear HT_ HW_
          go_wp2_with fail
          go_ret
          have hs : seg (N.node bk l r).raw.flat a b = seg l.raw.flat a l.len ++ seg r.raw.flat 0 (b - l.len) := by
            show seg (l.raw.flat ++ r.raw.flat) a b = _
            rw [seg_app _ _ _ _ (by omega), Nat.min_eq_left (by unfold N.len T.len at *; omega), Nat.min_eq_right (by unfold N.len T.len at *; omega), show a - l.raw.flat.length = 0 by unfold N.len T.len at *; omega]
            rfl
          rw [hs]
          obtain ⟨A3, k3, rfl, hs3, _, hn3⟩ := Seg.owned H3.out.1.1
          exact ⟨A3, k3, rfl, hs3.rd, H3.out.2⟩
end Go.Proofs.Ytdlnpmbnedmmnaa.Rope
