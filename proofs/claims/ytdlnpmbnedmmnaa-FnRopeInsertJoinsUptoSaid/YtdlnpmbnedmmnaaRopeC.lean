/- Ropes in memory: a rope's value. For every rope. -/
import Derived.Test.YtdlnpmbnedmmnaaRopeB
import Derived.Test.YtdlnpmbnedmmnaaWTab
namespace Go.Proofs.Ytdlnpmbnedmmnaa.Rope
open Go Go.RowKit Go.Deep Go.Proofs.Ytdlnpmbnedmmnaa.Hk Go.Proofs.Ytdlnpmbnedmmnaa.RopePure Go.Proofs.YtdlnpmbnedmmnaaW.PrintWords Go.Proofs.YtdlnpmbnedmmnaaW.PrintLast Go.Proofs.YtdlnpmbnedmmnaaW.PrintMore
def val5.T : Bool × List (List Nat × List Nat) := (true, [([], []), ([0], [0]), ([1], [1]), ([2], [2]), ([3], [3]), ([], []), ([5], [5]), ([6], [6]), ([7], [7]), ([8, 4], [8]), ([4, 9, 9], [4, 9]), ([10, 10, 0, 1, 2, 3, 4, 5, 6, 7, 8, 9, 10], [10])])
def val5.B : List Nat := [0, 1, 3, 7, 15, 0, 32, 96, 224, 511, 1023, 2047]
theorem val5.tab : rtab .any (opsOf Try.f22 5) = val5.T := by kernel_rfl
theorem val5.bits : waitsOk val5.T.2 val5.B = true := by kernel_rfl

/-- What Value hands back: a leaf's own row, or a new one. -/
def Val (w w' : World) (v : Value) : N → Prop
  | .leaf _ A c xs => v = .slice A xs.length c ∧ w' = w
  | .node _ l r => Made w w' v (l.raw.flat ++ r.raw.flat)
theorem Val.rd {w w' : World} {v : Value} {t : N} (h : Val w w' v t) (hin : t.In w) : ∃ A c, v = .slice A t.raw.flat.length c ∧ Rd w' A c t.raw.flat ∧ Below w.heap.size w w' := by
  cases t with
  | leaf b A c xs =>
    obtain ⟨rfl, rfl⟩ := h
    exact ⟨A, c, rfl, hin.2.1.rd, Below.refl _ _⟩
  | node b l r =>
    obtain ⟨h1, h2⟩ := h
    obtain ⟨A, c, hv, hs, _, hn⟩ := Seg.owned h1
    exact ⟨A, c, hv, hs.rd, h2⟩
theorem N.len_le_l {b : Nat} {l r : N} {n : Nat} (h : (N.node b l r).raw.flat.length ≤ n) : l.raw.flat.length ≤ n := by
  have : (N.node b l r).raw.flat = l.raw.flat ++ r.raw.flat := rfl
  rw [this, List.length_append] at h; omega
theorem N.len_le_r {b : Nat} {l r : N} {n : Nat} (h : (N.node b l r).raw.flat.length ≤ n) : r.raw.flat.length ≤ n := by
  have : (N.node b l r).raw.flat = l.raw.flat ++ r.raw.flat := rfl
  rw [this, List.length_append] at h; omega
theorem Made.lower {base base' n : Nat} {w : World} {v : Value} {xs : List Value} (h : w.ownsRow base 3 1 v n xs) (hb : base' ≤ base) : w.ownsRow base' 3 1 v n xs := by
  refine ⟨h.1, ?_⟩
  rcases h.2 with e | ⟨g, cap, cur, e, h1, h2⟩
  · exact .inl e
  · exact .inr ⟨g, cap, cur, e, Nat.le_trans hb h1, h2⟩
set_option maxHeartbeats 8000000 in
set_option maxRecDepth 100000 in
theorem Value_any : ∀ (t : N) (w : World), t.In w → t.raw.flat.length ≤ 1099511627776 → Calls Try.prog 22 #[t.ptr] w fun e w' => ∃ v, e = .returned v ∧ Val w w' v t
  | .leaf b A c xs, w, hin, hl => by
    have c0 : w.cell? ⟨b, 0, none⟩ = some (.int .u8 0) := hin.1.cell 0
    have c1 : w.cell? ⟨b, 1, none⟩ = some (.slice A xs.length c) := hin.1.cell 1
    clear hin
    rw [show (N.leaf b A c xs).ptr = .pointer (some ⟨b, 0, none⟩) from rfl]
    go_enter Try.func22, Try.ntmps22
    go_wp2_with fail
    go_ret
    exact ⟨_, rfl, rfl, rfl⟩
  | .node b l r, w, hin, hl => by
    have IL := hid (Value_any l)
    have IR := hid (Value_any r)
    have HI := hid hin
    have HL := hid hl
    have c0 : w.cell? ⟨b, 0, none⟩ = some (.int .u8 1) := hin.1.cell 0
    have c3 : w.cell? ⟨b, 3, none⟩ = some l.ptr := hin.1.cell 3
    have c4 : w.cell? ⟨b, 4, none⟩ = some r.ptr := hin.1.cell 4
    clear hin hl
    rw [show (N.node b l r).ptr = .pointer (some ⟨b, 0, none⟩) from rfl]
    go_enter Try.func22, Try.ntmps22
    go_wp2_with fail
    refine start_ (n := 12) (S := fun w' => w'.cell? ⟨b, 3, none⟩ = some (l.ptr) ∧ w'.cell? ⟨b, 4, none⟩ = some (r.ptr)) (ds := []) #[false, false, false, false, false, false, false, false, false, false, false, false] (by kernel_rfl) rfl rfl ⟨c3, c4⟩ (fun hHeld => ?_)
    refine with_tabW val5.tab val5.bits (fun HT_ HW_ => ?_)
    clear c0 c3 c4
    refine pure_ (i := 0) (N := some 15) (v := ?_) (a' := ?_) #[true, false, false, false, false, false, false, false, false, false, false, false] rfl rfl (any_of HT_.out (by kernel_rfl)) (fun _ _ _ h => h) (Or.inl ⟨by rfl, ?_⟩) ?_ ?_
    rotate_left
    · intro w'
      go_simp
      with_reducible rfl
    rotate_left
    · simp only [Act.put, List.setIfInBounds_toArray, List.set_cons_zero, List.set_cons_succ]
      rfl
    refine pure_ (i := 1) (N := some 16) (v := ?_) (a' := ?_) #[true, true, false, false, false, false, false, false, false, false, false, false] rfl rfl (any_of HT_.out (by kernel_rfl)) (fun _ _ _ h => h) (Or.inl ⟨by rfl, ?_⟩) ?_ ?_
    rotate_left
    · intro w'
      go_simp
      with_reducible rfl
    rotate_left
    · simp only [Act.put, List.setIfInBounds_toArray, List.set_cons_zero, List.set_cons_succ]
      rfl
    refine pure_ (i := 2) (N := some 17) (v := ?_) (a' := ?_) #[true, true, true, false, false, false, false, false, false, false, false, false] rfl rfl (any_of HT_.out (by kernel_rfl)) (fun _ _ _ h => h) (Or.inl ⟨by rfl, ?_⟩) ?_ ?_
    rotate_left
    · intro w'
      go_simp
      with_reducible rfl
    rotate_left
    · simp only [Act.put, List.setIfInBounds_toArray, List.set_cons_zero, List.set_cons_succ]
      rfl
    refine take_ (i := 3) (N := some 18) (v := ?_) (a' := ?_) #[true, true, true, true, false, false, false, false, false, false, false, false] rfl rfl (take_ofW HT_.out HW_.out (by kernel_rfl)) (fun _ _ _ h => h) (Or.inl ⟨by rfl, ?_⟩) hHeld ?_ ?_
    rotate_left
    · intro w' s0
      obtain ⟨s1, s2⟩ := s0
      go_simp
      with_reducible rfl
    rotate_left
    · simp only [Act.put, List.setIfInBounds_toArray, List.set_cons_zero, List.set_cons_succ]
      rfl
    refine pure_ (i := 5) (N := some 20) (v := ?_) (a' := ?_) #[true, true, true, true, false, true, false, false, false, false, false, false] rfl rfl (any_of HT_.out (by kernel_rfl)) (fun _ _ _ h => h) (Or.inl ⟨by rfl, ?_⟩) ?_ ?_
    rotate_left
    · intro w'
      go_simp
      with_reducible rfl
    rotate_left
    · simp only [Act.put, List.setIfInBounds_toArray, List.set_cons_zero, List.set_cons_succ]
      rfl
    refine pure_ (i := 6) (N := some 21) (v := ?_) (a' := ?_) #[true, true, true, true, false, true, true, false, false, false, false, false] rfl rfl (any_of HT_.out (by kernel_rfl)) (fun _ _ _ h => h) (Or.inl ⟨by rfl, ?_⟩) ?_ ?_
    rotate_left
    · intro w'
      go_simp
      with_reducible rfl
    rotate_left
    · simp only [Act.put, List.setIfInBounds_toArray, List.set_cons_zero, List.set_cons_succ]
      rfl
    refine pure_ (i := 7) (N := some 22) (v := ?_) (a' := ?_) #[true, true, true, true, false, true, true, true, false, false, false, false] rfl rfl (any_of HT_.out (by kernel_rfl)) (fun _ _ _ h => h) (Or.inl ⟨by rfl, ?_⟩) ?_ ?_
    rotate_left
    · intro w'
      go_simp
      with_reducible rfl
    rotate_left
    · simp only [Act.put, List.setIfInBounds_toArray, List.set_cons_zero, List.set_cons_succ]
      rfl
    refine take_ (i := 8) (N := some 23) (v := ?_) (a' := ?_) #[true, true, true, true, false, true, true, true, true, false, false, false] rfl rfl (take_ofW HT_.out HW_.out (by kernel_rfl)) (fun _ _ _ h => h) (Or.inl ⟨by rfl, ?_⟩) hHeld ?_ ?_
    rotate_left
    · intro w' s0
      obtain ⟨s1, s2⟩ := s0
      go_simp
      with_reducible rfl
    rotate_left
    · simp only [Act.put, List.setIfInBounds_toArray, List.set_cons_zero, List.set_cons_succ]
      rfl
    refine one_ (i := 4) (N := some 19) #[true, true, true, true, true, true, true, true, true, false, false, false] rfl rfl (one_of HT_.out (by kernel_rfl)) (by decide) (fun K_ hK => ?_)
    refine call_ (N := some 19) 22 #[l.ptr] (by rfl) rfl (by go_simp) ?_
    have HCall_ := IL.out w.drew (HI.out.2.1.fz (Fz.refl _ _).drew (fun _ _ _ e => e)) (N.len_le_l HL.out)
    refine HCall_.mono ?_
    clear HCall_
    rintro e w1 ⟨v1, rfl, hv⟩
    obtain ⟨A1, k1, rfl, hr1, hb1⟩ := hv.rd (HI.out.2.1.fz (Z := fun _ _ => False) (Fz.refl _ _).drew (fun _ _ _ e => e))
    have H1 := hid (And.intro hr1 (show Below w.heap.size w w1 from ⟨hb1.os, hb1.tape, hb1.output, hb1.size, hb1.block⟩))
    clear hv hr1 hb1
    refine ⟨_, rfl, ?_⟩
    refine hK.out _ _ ⟨((HI.out.1.below H1.out.2 HI.out.1.lt).cell 3), ((HI.out.1.below H1.out.2 HI.out.1.lt).cell 4)⟩ (fun hHeld => ?_)
    clear hK K_
    refine norm_ (a' := ?_) ?_ ?_
    rotate_left
    · show Act.put _ (some 19) _ = _
      simp only [Act.put, List.setIfInBounds_toArray, List.set_cons_zero, List.set_cons_succ]
      rfl
    refine one_ (i := 9) (N := some 24) #[true, true, true, true, true, true, true, true, true, true, false, false] rfl rfl (one_of HT_.out (by kernel_rfl)) (by decide) (fun K_ hK => ?_)
    refine call_ (N := some 24) 22 #[r.ptr] (by rfl) rfl (by go_simp) ?_
    have HCall_ := IR.out w1 (HI.out.2.2.1.below H1.out.2) (N.len_le_r HL.out)
    refine HCall_.mono ?_
    clear HCall_
    rintro e w2 ⟨v2, rfl, hv⟩
    obtain ⟨A2, k2, rfl, hr2, hb2⟩ := hv.rd (HI.out.2.2.1.below H1.out.2)
    have H2 := hid (And.intro hr2 hb2)
    have HB : Hid (Below w.heap.size w w2) := hid (below_at H1.out.2 hb2 H1.out.2.size)
    clear hv hr2 hb2
    refine ⟨_, rfl, ?_⟩
    refine hK.out _ _ ⟨((HI.out.1.below HB.out HI.out.1.lt).cell 3), ((HI.out.1.below HB.out HI.out.1.lt).cell 4)⟩ (fun hHeld => ?_)
    clear hK K_
    refine norm_ (a' := ?_) ?_ ?_
    rotate_left
    · show Act.put _ (some 24) _ = _
      simp only [Act.put, List.setIfInBounds_toArray, List.set_cons_zero, List.set_cons_succ]
      rfl
    refine one_ (i := 10) (N := some 25) #[true, true, true, true, true, true, true, true, true, true, true, false] rfl rfl (one_of HT_.out (by kernel_rfl)) (by decide) (fun K_ hK => ?_)
    refine call_ (N := some 25) 29 #[.slice A1 l.raw.flat.length k1, .slice A2 r.raw.flat.length k2] (by rfl) rfl (by go_simp) ?_
    have HCall_ := concat_any A1 A2 k1 k2 l.raw.flat r.raw.flat w2 (H1.out.1.below H2.out.2) H2.out.1 (N.len_le_l HL.out) (N.len_le_r HL.out)
    refine HCall_.mono ?_
    clear HCall_
    rintro e w3 ⟨v3, rfl, hm⟩
    have H3 := hid (And.intro hm (below_at HB.out hm.2 HB.out.size))
    clear hm
    refine ⟨_, rfl, ?_⟩
    refine hK.out _ _ ⟨((HI.out.1.below H3.out.2 HI.out.1.lt).cell 3), ((HI.out.1.below H3.out.2 HI.out.1.lt).cell 4)⟩ (fun hHeld => ?_)
    clear hK K_
    refine norm_ (a' := ?_) ?_ ?_
    rotate_left
    · show Act.put _ (some 25) _ = _
      simp only [Act.put, List.setIfInBounds_toArray, List.set_cons_zero, List.set_cons_succ]
      rfl
    refine pure_ (i := 11) (N := some 2) (v := ?_) (a' := ?_) #[true, true, true, true, true, true, true, true, true, true, true, true] rfl rfl (any_of HT_.out (by kernel_rfl)) (fun _ _ _ h => h) (Or.inl ⟨by rfl, ?_⟩) ?_ ?_
    rotate_left
    · intro w'
      go_simp
      with_reducible rfl
    rotate_left
    · simp only [Act.put, List.setIfInBounds_toArray, List.set_cons_zero, List.set_cons_succ]
      rfl
    refine done_ (done_of HT_.out (by kernel_rfl)) ?_
    clear HT_ HW_
    go_wp2_with fail
    go_ret
    refine ⟨_, rfl, ?_, H3.out.2⟩
    have h := H3.out.1.1
    exact Made.lower h HB.out.size
end Go.Proofs.Ytdlnpmbnedmmnaa.Rope
