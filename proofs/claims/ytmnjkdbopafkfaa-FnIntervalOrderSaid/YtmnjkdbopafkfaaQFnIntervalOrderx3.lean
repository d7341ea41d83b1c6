/- The machine's side of a law, as the kit's print writes it; of the functions that the print doesn't cover this session's own contracts stand in it: no condition. -/
import Derived.Test.YtmnjkdbopafkfaaIntJ
import Derived.Test.YtmnjkdbopafkfaaQFnIntervalOrderx0
namespace Go.Proofs.Ytmnjkdbopafkfaa.QFnIntervalOrder
open Go.RowKit Go.Proofs.YtmnjkdbopafkfaaW.PrintWords Go.Proofs.YtmnjkdbopafkfaaW.PrintLast Go.Proofs.YtmnjkdbopafkfaaW.PrintMore
attribute [local go_sem] max2_int min2_int max_two min_two max_three min_three max_four min_four   -- for this text's walks alone
set_option linter.unusedVariables false
set_option linter.unusedSimpArgs false

theorem some_set {w : World} {p q : Addr} {v u : Value} (h : w.cell? p = some u) : ∃ u', (w.setCell q v).cell? p = some u' := by
  by_cases e : q = p
  · subst e; exact ⟨v, World.cell?_setCell_same w q v h⟩
  · exact ⟨u, (World.cell?_setCell_other w q p v e).trans h⟩
theorem some_set' {w : World} {p q : Addr} {v : Value} (h : ∃ u, w.cell? p = some u) : ∃ u', (w.setCell q v).cell? p = some u' := by
  obtain ⟨_, h⟩ := h
  exact some_set h

/-! ### impl_Mark: function 14 -/
def impl_Mark.l0 : Nat → List Int → List (S25) → Int → Option ((List (S25)))
  | 0, _, _, _ => none
  | k + 1, x1, x5, x6 => if x6 < (x1.length : Int) then (if (x5.length : Int) > 0 then (if (x5.length : Int) = 0 then (none) else (if 0 ≤ x6 then (if 0 ≤ (Int.tmod (wrap64 ((Int.tmod (rd x1 x6) (x5.length : Int)) + (x5.length : Int))) (x5.length : Int)) then (if (Int.tmod (wrap64 ((Int.tmod (rd x1 x6) (x5.length : Int)) + (x5.length : Int))) (x5.length : Int)) < (x5.length : Int) then (if 0 ≤ (Int.tmod x6 (x5.length : Int)) then (if (Int.tmod x6 (x5.length : Int)) < (x5.length : Int) then (impl_Mark.l0 k x1 ((x5.set ((Int.tmod x6 (x5.length : Int)) : Int).toNat (⟨(rd_T25 x5 (Int.tmod (wrap64 ((Int.tmod (rd x1 x6) (x5.length : Int)) + (x5.length : Int))) (x5.length : Int))).f0, (rd_T25 x5 (Int.tmod (wrap64 ((Int.tmod (rd x1 x6) (x5.length : Int)) + (x5.length : Int))) (x5.length : Int))).f1, (rd_T25 x5 (Int.tmod (wrap64 ((Int.tmod (rd x1 x6) (x5.length : Int)) + (x5.length : Int))) (x5.length : Int))).f2, (rd_T25 x5 (Int.tmod (wrap64 ((Int.tmod (rd x1 x6) (x5.length : Int)) + (x5.length : Int))) (x5.length : Int))).f3⟩ : S25)).set ((Int.tmod (wrap64 ((Int.tmod (rd x1 x6) (x5.length : Int)) + (x5.length : Int))) (x5.length : Int)) : Int).toNat (⟨(rd_T25 x5 (Int.tmod x6 (x5.length : Int))).f0, (rd_T25 x5 (Int.tmod x6 (x5.length : Int))).f1, (rd_T25 x5 (Int.tmod x6 (x5.length : Int))).f2, (rd_T25 x5 (Int.tmod x6 (x5.length : Int))).f3⟩ : S25)) (wrap64 (x6 + 1))) else (none)) else (none)) else (none)) else (none)) else (none))) else (some x5)) else (some x5)
def impl_Mark.f (k : Nat) (l0 : List (S25)) (l1 : List Int) : Option ((List (S25))) := (some (([] : List (S25)) : List (S25))).bind fun y113 => (if y113.length + l0.length < 4398046511104 then (impl_Mark.l0 k l1 (y113 ++ l0) 0) else (none))
theorem impl_Mark.mono_l : ∀ k, (∀ y0 y1 y2, LeO (impl_Mark.l0 k y0 y1 y2) (impl_Mark.l0 (k + 1) y0 y1 y2))
  | 0 => fun _ _ _ r h => by simp [impl_Mark.l0] at h
  | k + 1 => by
    have ih0 := impl_Mark.mono_l k
    · intro y0 y1 y2
      unfold impl_Mark.l0
      repeat' first
      | (with_reducible exact ih0 _ _ _)
      | (with_reducible exact LeO.refl _)
      | (with_reducible exact LeO.none _)
      | (with_reducible refine LeO.ite ?_ ?_)
      | (with_reducible refine LeO.bind ?_ (fun _ => ?_))
      | exact ih0 _ _ _
      | exact LeO.none _
      | refine LeO.ite ?_ ?_
      | refine LeO.bind ?_ (fun _ => ?_)
theorem impl_Mark.mono : ∀ a0 a1 k, LeO (impl_Mark.f k a0 a1) (impl_Mark.f (k + 1) a0 a1) := by
  intro a0 a1 k
  have ih0 := impl_Mark.mono_l k
  unfold impl_Mark.f
  repeat' first
      | (with_reducible exact ih0 _ _ _)
      | (with_reducible exact LeO.refl _)
      | (with_reducible exact LeO.none _)
      | (with_reducible refine LeO.ite ?_ ?_)
      | (with_reducible refine LeO.bind ?_ (fun _ => ?_))
      | exact ih0 _ _ _
      | exact LeO.none _
      | refine LeO.ite ?_ ?_
      | refine LeO.bind ?_ (fun _ => ?_)
def impl_Mark.T5 : Bool × List (List Nat × List Nat) := (true, [([], []), ([], []), ([1], [1]), ([0, 2], [0, 2]), ([], []), ([], []), ([4, 5], [4, 5]), ([6], [6]), ([], []), ([8], [8]), ([7, 9], [7, 9]), ([], []), ([11], [11]), ([10, 12], [10, 12]), ([], []), ([14], [14]), ([13, 15], [13, 15]), ([3, 0, 1, 2, 3], [3]), ([16, 17, 0, 1, 2, 3, 4, 5, 6, 7, 8, 9, 10, 11, 12, 13, 14, 15, 16, 17], [16])])
def impl_Mark.B5 : List Nat := [0, 0, 2, 7, 0, 0, 48, 112, 0, 256, 1008, 0, 2048, 8176, 0, 16384, 65520, 15, 262143]
theorem impl_Mark.tab5 : rtab .any (opsOf Try.f14 5) = impl_Mark.T5 := by kernel_rfl
theorem impl_Mark.bits5 : waitsOk impl_Mark.T5.2 impl_Mark.B5 = true := by kernel_rfl
def impl_Mark.T6 : Bool × List (List Nat × List Nat) := (true, [([], []), ([], []), ([], []), ([], []), ([], []), ([], []), ([4, 5], [4, 5]), ([6], [6]), ([], []), ([], []), ([8, 9], [8, 9]), ([10], [10]), ([0, 1, 0, 1, 4, 5, 6, 7, 11], [0, 1]), ([12, 7, 0, 1, 4, 5, 6, 7, 11], [7, 12]), ([2, 3, 0, 1, 2, 3, 4, 5, 6, 7, 8, 9, 10, 11, 12, 13], [2, 3]), ([14, 11, 13, 0, 1, 2, 3, 4, 5, 6, 7, 8, 9, 10, 11, 12, 13], [11, 14])])
def impl_Mark.B6 : List Nat := [0, 0, 0, 0, 0, 0, 48, 112, 0, 0, 768, 1792, 4083, 8179, 16383, 32767]
theorem impl_Mark.tab6 : rtab .any (opsOf Try.f14 6) = impl_Mark.T6 := by kernel_rfl
theorem impl_Mark.bits6 : waitsOk impl_Mark.T6.2 impl_Mark.B6 = true := by kernel_rfl
set_option maxHeartbeats 8000000 in
set_option maxRecDepth 100000 in
theorem impl_Mark.calls (k : Nat) (A0 : Option Addr) (c0 : Nat) (l0 : List (S25)) (A1 : Option Addr) (c1 : Nat) (l1 : List Int) (r : List (S25)) (w : World) (hr0 : Kd.C k25 w A0 l0.length l0) (hc0 : l0.length ≤ c0) (hr1 : Kd.C (Kd.int .i64) w A1 l1.length l1) (hc1 : l1.length ≤ c1) (h : impl_Mark.f k l0 l1 = some r) :
    Calls Try.prog 14 #[.slice A0 l0.length c0, .slice A1 l1.length c1] w fun e w' => ∃ v0_ : Value, e = .returned (v0_) ∧ Kd.R k25 25 w' w.heap.size (fun _ => True) v0_ r ∧ Below w.heap.size w w' := by
  have hu25 := Try.underlying25
  have HR0 := Aside0.mk hr0
  have HC0 := Aside0.mk hc0
  clear hr0 hc0
  have HR1 := Aside0.mk hr1
  have HC1 := Aside0.mk hc1
  clear hr1 hc1
  have HB := Aside0.mk (Below.refl w.heap.size w)
  have H : ((some (([] : List (S25)) : List (S25))).bind fun y113 => (if y113.length + l0.length < 4398046511104 then (impl_Mark.l0 k l1 (y113 ++ l0) 0) else (none))) = some r := h
  clear h
  obtain ⟨y113, hy113⟩ : ∃ y_ : List (S25), y_ = (([] : List (S25))) := ⟨_, rfl⟩
  replace H : (if y113.length + l0.length < 4398046511104 then (impl_Mark.l0 k l1 (y113 ++ l0) 0) else (none)) = some r := by first | (rw [hy113]; with_reducible exact H) | (have H2_ := (Option.bind_some _ _).symm.trans H; rw [hy113]; with_reducible exact H2_) | (have H2_ := (Option.bind_some _ _).symm.trans H; with_reducible exact H2_) | with_reducible exact H | (rw [hy113]; exact H) | exact H
  have Ny113 := Aside0.mk hy113
  clear hy113
  by_cases c3 : y113.length + l0.length < 4398046511104
  · rw [if_pos c3] at H
    have LMc3 := Aside0.mk c3
    clear c3
    obtain ⟨y116, hy116⟩ : ∃ y_ : List (S25), y_ = (y113 ++ l0) := ⟨_, rfl⟩
    replace H : (impl_Mark.l0 k l1 y116 0) = some r := by first | (rw [hy116]; with_reducible exact H) | (have H2_ := (Option.bind_some _ _).symm.trans H; rw [hy116]; with_reducible exact H2_) | (have H2_ := (Option.bind_some _ _).symm.trans H; with_reducible exact H2_) | with_reducible exact H | (rw [hy116]; exact H) | exact H
    have Ny116 := Aside0.mk hy116
    clear hy116
    have H' := Aside0.mk H
    clear H
    go_enter Try.func14, Try.ntmps14
    go_wp2_with (first | ((with_reducible refine gate_dst (N := 9) rfl ?_); (try (refine gate_guard (by rfl) ?_; dsimp only)); refine Kd.R_lit k25 _ 25 ?hg (N := 9) ?hd (xs := ([] : List (S25))) (inner := []) (ok := fun _ => True) (okp := fun _ => True) ?hr ?hp (fun _ hk => hk) trivial (Below.refl _ _) (Nat.le_refl _) (by simp) ?_; (case hd => rfl); (case hg => rfl); (case hr => first | (go_simp; done) | (go_simp; rfl)); (case hp => exact (Reps.none _ _)); intro v114 w4 ho5 hb hg_ hnew_; clear hg_ hnew_; (first | rw [← Ny113.out] at ho5 | (simp only [Int.reduceToNat] at ho5; rw [← Ny113.out] at ho5)); have n0_ := Aside0.mk (Kd.R_lower ho5 (below_size (by repeat (first | (with_reducible first | exact HB.out | apply below_alloc | apply pw_below_drewN | apply below_drew1) | exact HB.out)))); have n1_ := Aside0.mk (below_step (by repeat (first | (with_reducible first | exact HB.out | apply below_alloc | apply pw_below_drewN | apply below_drew1) | exact HB.out)) hb); clear HB; have HO115 := n0_; have HB := n1_; clear n0_ n1_; clear hb ho5) | ((with_reducible refine gate_builtin (b := .append) (xs := #[.tmp 9, .tmp 10]) rfl ?_); (try (refine gate_guard (by rfl) ?_; dsimp only)); at_builtin; refine Kd.R_append_rows k25 (w0 := w) w.heap.size rfl (.tmp 9) (.tmp 10) 22 25 (.agg #[(.int .i64 0), (.int .i64 0), (.int .i64 0), (.int .i64 0)]) 32 rfl Try.underlying22 info25 rfl (by decide) (by omega) v114 y113 l0 _ _ _ (fun _ => True) (fun _ => False) rfl rfl ?aO ?aR (fun _ _ h => h) (fun _ h => h.elim) ?aF ?aB ?aS ?aL ?_; (case aR => repeat (first | exact (Kd.C_below HR0.out HB.out) | (with_reducible refine Kd.C_alloc ?_ _) | (with_reducible refine Kd.C_drewN ?_ _) | (with_reducible refine Kd.C_drew ?_))); (case aB => exact (by repeat (first | (with_reducible first | exact HB.out | apply below_alloc | apply pw_below_drewN | apply below_drew1) | exact HB.out))); (case aF => exact (fun _ _ => trivial)); (case aO => exact (by (with_reducible repeat (first | apply Kd.R_alloc | apply Kd.R_drewN | apply Kd.R_drew)); exact HO115.out)); (case aS => exact (below_size (by repeat (first | (with_reducible first | exact HB.out | apply below_alloc | apply pw_below_drewN | apply below_drew1) | exact HB.out)))); (case aL => have := LMc3.out; omega); intro v117 w6 ho hb hg hat; rw [← Ny116.out] at ho; have n0_ := Aside0.mk (hb); have n1_ := Aside0.mk (ho); clear HB; clear HO115; have HB := n0_; have HO118 := n1_; clear n0_ n1_; clear ho hb hg hat))
    go_loopg [6] k (fun kq v6 w' => ∃ (x5_1 : List (S25)) (x6_1 : Int), v6 = .int .i64 x6_1 ∧ Aside0 (impl_Mark.l0 kq l1 x5_1 x6_1 = some r) ∧ Aside0 (kq ≤ k) ∧ Aside0 (Kd.R k25 25 w' w.heap.size (fun _ => True) v117 x5_1) ∧ Aside0 (Below w.heap.size w w'))
    case atStart => exact ⟨(y116), (0), (by first | rfl | (simp; done) | (simp [*]; done)), H', ⟨Nat.le_refl _⟩, ⟨by (with_reducible repeat (first | apply Kd.R_alloc | apply Kd.R_drewN | apply Kd.R_drew)); exact HO118.out⟩, ⟨by repeat (first | (with_reducible first | exact HB.out | apply below_alloc | apply pw_below_drewN | apply below_drew1) | exact HB.out)⟩⟩
    case round =>
      clear H'
      try clear c1
      try clear p2
      try clear c3
      obtain ⟨x5_1, x6_1, rfl, HA, HK1, HO_5, HB⟩ := hrel
      cases gk with
      | zero => exact absurd HA.out (by simp [impl_Mark.l0])
      | succ k1 =>
        have H := HA.out
        clear HA
        simp only [impl_Mark.l0] at H
        by_cases c7 : x6_1 < (l1.length : Int)
        · rw [if_pos c7] at H
          have c7b0 : decide (x6_1 < (l1.length : Int)) = true := decide_eq_true c7
          clear c7
          by_cases c8 : (x5_1.length : Int) > 0
          · rw [if_pos c8] at H
            have c8b0 : decide (0 < (x5_1.length : Int)) = true := decide_eq_true c8
            have c8b1 : decide (0 < x5_1.length) = true := decide_eq_true (by omega)
            clear c8
            by_cases c9 : (x5_1.length : Int) = 0
            · rw [if_pos c9] at H
              exact absurd H (by simp)
            · rw [if_neg c9] at H
              have c9b0 : ((x5_1.length : Int) == 0) = false := beq_eq_false_iff_ne.mpr c9
              have c9b1 : ((x5_1.length : Int) != 0) = true := bne_iff_ne.mpr c9
              have c9b2 : ¬ (x5_1 = []) := fun h_ => c9 (by rw [h_]; rfl)
              by_cases c10 : 0 ≤ x6_1
              · rw [if_pos c10] at H
                have c10b0 : decide (0 ≤ x6_1) = true := decide_eq_true c10
                clear c10
                obtain ⟨ji11, hji11⟩ : ∃ j_ : Int, (Int.tmod (wrap64 ((Int.tmod (rd l1 x6_1) (x5_1.length : Int)) + (x5_1.length : Int))) (x5_1.length : Int)) = j_ := ⟨_, rfl⟩
                replace H : (if 0 ≤ (ji11) then (if (ji11) < (x5_1.length : Int) then (if 0 ≤ (Int.tmod x6_1 (x5_1.length : Int)) then (if (Int.tmod x6_1 (x5_1.length : Int)) < (x5_1.length : Int) then (impl_Mark.l0 k1 l1 ((x5_1.set ((Int.tmod x6_1 (x5_1.length : Int)) : Int).toNat (⟨(rd_T25 x5_1 (ji11)).f0, (rd_T25 x5_1 (ji11)).f1, (rd_T25 x5_1 (ji11)).f2, (rd_T25 x5_1 (ji11)).f3⟩ : S25)).set ((ji11) : Int).toNat (⟨(rd_T25 x5_1 (Int.tmod x6_1 (x5_1.length : Int))).f0, (rd_T25 x5_1 (Int.tmod x6_1 (x5_1.length : Int))).f1, (rd_T25 x5_1 (Int.tmod x6_1 (x5_1.length : Int))).f2, (rd_T25 x5_1 (Int.tmod x6_1 (x5_1.length : Int))).f3⟩ : S25)) (wrap64 (x6_1 + 1))) else (none)) else (none)) else (none)) else (none)) = some r := by first | (rw [hji11] at H; exact H) | (simp only [hji11] at H ⊢; exact H)
                by_cases c12 : 0 ≤ (ji11)
                · rw [if_pos c12] at H
                  have c12b0 : decide (0 ≤ (ji11)) = true := decide_eq_true c12
                  clear c12
                  by_cases c13 : (ji11) < (x5_1.length : Int)
                  · rw [if_pos c13] at H
                    have c13b0 : decide ((ji11) < (x5_1.length : Int)) = true := decide_eq_true c13
                    clear c13
                    obtain ⟨ji14, hji14⟩ : ∃ j_ : Int, (Int.tmod x6_1 (x5_1.length : Int)) = j_ := ⟨_, rfl⟩
                    replace H : (if 0 ≤ (ji14) then (if (ji14) < (x5_1.length : Int) then (impl_Mark.l0 k1 l1 ((x5_1.set ((ji14) : Int).toNat (⟨(rd_T25 x5_1 (ji11)).f0, (rd_T25 x5_1 (ji11)).f1, (rd_T25 x5_1 (ji11)).f2, (rd_T25 x5_1 (ji11)).f3⟩ : S25)).set ((ji11) : Int).toNat (⟨(rd_T25 x5_1 (ji14)).f0, (rd_T25 x5_1 (ji14)).f1, (rd_T25 x5_1 (ji14)).f2, (rd_T25 x5_1 (ji14)).f3⟩ : S25)) (wrap64 (x6_1 + 1))) else (none)) else (none)) = some r := by first | (rw [hji14] at H; exact H) | (simp only [hji14] at H ⊢; exact H)
                    by_cases c15 : 0 ≤ (ji14)
                    · rw [if_pos c15] at H
                      have c15b0 : decide (0 ≤ (ji14)) = true := decide_eq_true c15
                      clear c15
                      by_cases c16 : (ji14) < (x5_1.length : Int)
                      · rw [if_pos c16] at H
                        have c16b0 : decide ((ji14) < (x5_1.length : Int)) = true := decide_eq_true c16
                        clear c16
                        obtain ⟨y122, hy122⟩ : ∃ y_ : List (S25), y_ = (x5_1.set ((ji14) : Int).toNat (⟨(rd_T25 x5_1 (ji11)).f0, (rd_T25 x5_1 (ji11)).f1, (rd_T25 x5_1 (ji11)).f2, (rd_T25 x5_1 (ji11)).f3⟩ : S25)) := ⟨_, rfl⟩
                        replace H : (impl_Mark.l0 k1 l1 (y122.set ((ji11) : Int).toNat (⟨(rd_T25 x5_1 (ji14)).f0, (rd_T25 x5_1 (ji14)).f1, (rd_T25 x5_1 (ji14)).f2, (rd_T25 x5_1 (ji14)).f3⟩ : S25)) (wrap64 (x6_1 + 1))) = some r := by first | (rw [hy122]; with_reducible exact H) | (have H2_ := (Option.bind_some _ _).symm.trans H; rw [hy122]; with_reducible exact H2_) | (have H2_ := (Option.bind_some _ _).symm.trans H; with_reducible exact H2_) | with_reducible exact H | (rw [hy122]; exact H) | exact H
                        have Ny122 := Aside0.mk hy122
                        clear hy122
                        obtain ⟨y123, hy123⟩ : ∃ y_ : List (S25), y_ = (y122.set ((ji11) : Int).toNat (⟨(rd_T25 x5_1 (ji14)).f0, (rd_T25 x5_1 (ji14)).f1, (rd_T25 x5_1 (ji14)).f2, (rd_T25 x5_1 (ji14)).f3⟩ : S25)) := ⟨_, rfl⟩
                        replace H : (impl_Mark.l0 k1 l1 y123 (wrap64 (x6_1 + 1))) = some r := by first | (rw [hy123]; with_reducible exact H) | (have H2_ := (Option.bind_some _ _).symm.trans H; rw [hy123]; with_reducible exact H2_) | (have H2_ := (Option.bind_some _ _).symm.trans H; with_reducible exact H2_) | with_reducible exact H | (rw [hy123]; exact H) | exact H
                        have Ny123 := Aside0.mk hy123
                        clear hy123
                        have H' := Aside0.mk H
                        clear H
                        obtain ⟨Ao19, co19, eo19⟩ := Kd.R_slice HO_5.out
                        subst eo19
                        try go_wp2
                        have n0_ := Aside0.mk (Kd.R_drew HO_5.out)
                        have n1_ := Aside0.mk (below_drew1 HB.out)
                        clear HO_5
                        clear HB
                        have HO_5 := n0_
                        have HB := n1_
                        clear n0_ n1_
                        have p119 : 0 ≤ (x6_1 : Int) := of_decide_eq_true (by first | (with_reducible assumption) | assumption)
                        have q119 : x6_1 < (l1.length : Int) := of_decide_eq_true (by first | (with_reducible assumption) | assumption)
                        obtain ⟨ad119, e119, hx119_0⟩ := Kd.at_int HR1.out x6_1 p119 q119
                        have hw119_0 := hx119_0
                        cases e119
                        replace hx119_0 := (HB.out.cell (World.block_lt_of_cell? w _ hx119_0)).trans hx119_0
                        replace p119 := eq_true p119
                        replace q119 := eq_true q119
                        refine start_ (n := 19) (S := fun w' => w'.cell? (ad119.add (x6_1).toNat) = some (.int .i64 (rd l1 x6_1))) (ds := []) #[false, false, false, false, false, false, false, false, false, false, false, false, false, false, false, false, false, false, false] (by kernel_rfl) rfl rfl (((HB.out.cell (World.block_lt_of_cell? w _ hw119_0)).trans hw119_0)) (fun hHeld => ?_); refine with_tabW impl_Mark.tab5 impl_Mark.bits5 (fun HT_ HW_ => ?_)
                        generalize wr.drew = w20 at HO_5 HB hx119_0 hHeld ⊢
                        refine pure_ (i := 0) (N := some 23) (v := ?_) (a' := ?_) #[true, false, false, false, false, false, false, false, false, false, false, false, false, false, false, false, false, false, false] rfl rfl (any_of HT_.out (by kernel_rfl)) (fun _ _ _ h => h) (Or.inl ⟨by rfl, ?_⟩) ?_ ?_
                        rotate_left
                        · intro w'
                          go_simp
                          with_reducible rfl
                        rotate_left
                        · simp only [Act.put, List.setIfInBounds_toArray, List.set_cons_zero, List.set_cons_succ, i64_w, i32_w]
                          rfl
                        refine pure_ (i := 1) (N := some 24) (v := ?_) (a' := ?_) #[true, true, false, false, false, false, false, false, false, false, false, false, false, false, false, false, false, false, false] rfl rfl (any_of HT_.out (by kernel_rfl)) (fun _ _ _ h => h) (Or.inl ⟨by rfl, ?_⟩) ?_ ?_
                        rotate_left
                        · intro w'
                          go_simp
                          with_reducible rfl
                        rotate_left
                        · simp only [Act.put, List.setIfInBounds_toArray, List.set_cons_zero, List.set_cons_succ, i64_w, i32_w]
                          rfl
                        refine pure_ (i := 2) (N := some 25) (v := ?_) (a' := ?_) #[true, true, true, false, false, false, false, false, false, false, false, false, false, false, false, false, false, false, false] rfl rfl (any_of HT_.out (by kernel_rfl)) (fun _ _ _ h => h) (Or.inl ⟨by rfl, ?_⟩) ?_ ?_
                        rotate_left
                        · intro w'
                          go_simp
                          with_reducible rfl
                        rotate_left
                        · simp only [Act.put, List.setIfInBounds_toArray, List.set_cons_zero, List.set_cons_succ, i64_w, i32_w]
                          rfl
                        refine pure_ (i := 3) (N := some 26) (v := ?_) (a' := ?_) #[true, true, true, true, false, false, false, false, false, false, false, false, false, false, false, false, false, false, false] rfl rfl (any_of HT_.out (by kernel_rfl)) (fun _ _ _ h => h) (Or.inl ⟨by rfl, ?_⟩) ?_ ?_
                        rotate_left
                        · intro w'
                          go_simp
                          with_reducible rfl
                        rotate_left
                        · simp only [Act.put, List.setIfInBounds_toArray, List.set_cons_zero, List.set_cons_succ, i64_w, i32_w]
                          rfl
                        refine pure_ (i := 4) (N := some 27) (v := ?_) (a' := ?_) #[true, true, true, true, true, false, false, false, false, false, false, false, false, false, false, false, false, false, false] rfl rfl (any_of HT_.out (by kernel_rfl)) (fun _ _ _ h => h) (Or.inl ⟨by rfl, ?_⟩) ?_ ?_
                        rotate_left
                        · intro w'
                          go_simp
                          with_reducible rfl
                        rotate_left
                        · simp only [Act.put, List.setIfInBounds_toArray, List.set_cons_zero, List.set_cons_succ, i64_w, i32_w]
                          rfl
                        refine pure_ (i := 5) (N := some 28) (v := ?_) (a' := ?_) #[true, true, true, true, true, true, false, false, false, false, false, false, false, false, false, false, false, false, false] rfl rfl (any_of HT_.out (by kernel_rfl)) (fun _ _ _ h => h) (Or.inl ⟨by rfl, ?_⟩) ?_ ?_
                        rotate_left
                        · intro w'
                          go_simp
                          with_reducible rfl
                        rotate_left
                        · simp only [Act.put, List.setIfInBounds_toArray, List.set_cons_zero, List.set_cons_succ, i64_w, i32_w]
                          rfl
                        refine pure_ (i := 6) (N := some 29) (v := ?_) (a' := ?_) #[true, true, true, true, true, true, true, false, false, false, false, false, false, false, false, false, false, false, false] rfl rfl (any_of HT_.out (by kernel_rfl)) (fun _ _ _ h => h) (Or.inl ⟨by rfl, ?_⟩) ?_ ?_
                        rotate_left
                        · intro w'
                          go_simp
                          with_reducible rfl
                        rotate_left
                        · simp only [Act.put, List.setIfInBounds_toArray, List.set_cons_zero, List.set_cons_succ, i64_w, i32_w]
                          rfl
                        refine pure_ (i := 8) (N := some 31) (v := ?_) (a' := ?_) #[true, true, true, true, true, true, true, false, true, false, false, false, false, false, false, false, false, false, false] rfl rfl (any_of HT_.out (by kernel_rfl)) (fun _ _ _ h => h) (Or.inl ⟨by rfl, ?_⟩) ?_ ?_
                        rotate_left
                        · intro w'
                          go_simp
                          with_reducible rfl
                        rotate_left
                        · simp only [Act.put, List.setIfInBounds_toArray, List.set_cons_zero, List.set_cons_succ, i64_w, i32_w]
                          rfl
                        refine pure_ (i := 9) (N := some 32) (v := ?_) (a' := ?_) #[true, true, true, true, true, true, true, false, true, true, false, false, false, false, false, false, false, false, false] rfl rfl (any_of HT_.out (by kernel_rfl)) (fun _ _ _ h => h) (Or.inl ⟨by rfl, ?_⟩) ?_ ?_
                        rotate_left
                        · intro w'
                          go_simp
                          with_reducible rfl
                        rotate_left
                        · simp only [Act.put, List.setIfInBounds_toArray, List.set_cons_zero, List.set_cons_succ, i64_w, i32_w]
                          rfl
                        refine pure_ (i := 11) (N := some 34) (v := ?_) (a' := ?_) #[true, true, true, true, true, true, true, false, true, true, false, true, false, false, false, false, false, false, false] rfl rfl (any_of HT_.out (by kernel_rfl)) (fun _ _ _ h => h) (Or.inl ⟨by rfl, ?_⟩) ?_ ?_
                        rotate_left
                        · intro w'
                          go_simp
                          with_reducible rfl
                        rotate_left
                        · simp only [Act.put, List.setIfInBounds_toArray, List.set_cons_zero, List.set_cons_succ, i64_w, i32_w]
                          rfl
                        refine pure_ (i := 12) (N := some 35) (v := ?_) (a' := ?_) #[true, true, true, true, true, true, true, false, true, true, false, true, true, false, false, false, false, false, false] rfl rfl (any_of HT_.out (by kernel_rfl)) (fun _ _ _ h => h) (Or.inl ⟨by rfl, ?_⟩) ?_ ?_
                        rotate_left
                        · intro w'
                          go_simp
                          with_reducible rfl
                        rotate_left
                        · simp only [Act.put, List.setIfInBounds_toArray, List.set_cons_zero, List.set_cons_succ, i64_w, i32_w]
                          rfl
                        refine pure_ (i := 14) (N := some 37) (v := ?_) (a' := ?_) #[true, true, true, true, true, true, true, false, true, true, false, true, true, false, true, false, false, false, false] rfl rfl (any_of HT_.out (by kernel_rfl)) (fun _ _ _ h => h) (Or.inl ⟨by rfl, ?_⟩) ?_ ?_
                        rotate_left
                        · intro w'
                          go_simp
                          with_reducible rfl
                        rotate_left
                        · simp only [Act.put, List.setIfInBounds_toArray, List.set_cons_zero, List.set_cons_succ, i64_w, i32_w]
                          rfl
                        refine pure_ (i := 15) (N := some 38) (v := ?_) (a' := ?_) #[true, true, true, true, true, true, true, false, true, true, false, true, true, false, true, true, false, false, false] rfl rfl (any_of HT_.out (by kernel_rfl)) (fun _ _ _ h => h) (Or.inl ⟨by rfl, ?_⟩) ?_ ?_
                        rotate_left
                        · intro w'
                          go_simp
                          with_reducible rfl
                        rotate_left
                        · simp only [Act.put, List.setIfInBounds_toArray, List.set_cons_zero, List.set_cons_succ, i64_w, i32_w]
                          rfl
                        refine pure_ (i := 17) (N := some 7) (v := ?_) (a' := ?_) #[true, true, true, true, true, true, true, false, true, true, false, true, true, false, true, true, false, true, false] rfl rfl (any_of HT_.out (by kernel_rfl)) (fun _ _ _ h => h) (Or.inl ⟨by rfl, ?_⟩) ?_ ?_
                        rotate_left
                        · intro w'
                          go_simp
                          with_reducible rfl
                        rotate_left
                        · simp only [Act.put, List.setIfInBounds_toArray, List.set_cons_zero, List.set_cons_succ, i64_w, i32_w]
                          rfl
                        refine take_ (i := 7) (N := some 30) (v := ?_) (a' := ?_) #[true, true, true, true, true, true, true, true, true, true, false, true, true, false, true, true, false, true, false] rfl rfl (take_ofW HT_.out HW_.out (by kernel_rfl)) (fun _ _ _ h => h) (Or.inl ⟨by rfl, ?_⟩) hHeld ?_ ?_
                        rotate_left
                        · intro w' s0
                          go_simp
                          with_reducible rfl
                        rotate_left
                        · simp only [Act.put, List.setIfInBounds_toArray, List.set_cons_zero, List.set_cons_succ, i64_w, i32_w]
                          rfl
                        refine pure_ (i := 10) (N := some 33) (v := ?_) (a' := ?_) #[true, true, true, true, true, true, true, true, true, true, true, true, true, false, true, true, false, true, false] rfl rfl (any_of HT_.out (by kernel_rfl)) (fun _ _ _ h => h) (Or.inl ⟨by rfl, ?_⟩) ?_ ?_
                        rotate_left
                        · intro w'
                          go_simp
                          with_reducible rfl
                        rotate_left
                        · simp only [Act.put, List.setIfInBounds_toArray, List.set_cons_zero, List.set_cons_succ, i64_w, i32_w]
                          rfl
                        refine pure_ (i := 13) (N := some 36) (v := ?_) (a' := ?_) #[true, true, true, true, true, true, true, true, true, true, true, true, true, true, true, true, false, true, false] rfl rfl (any_of HT_.out (by kernel_rfl)) (fun _ _ _ h => h) (Or.inl ⟨by rfl, ?_⟩) ?_ ?_
                        rotate_left
                        · intro w'
                          go_simp
                          with_reducible rfl
                        rotate_left
                        · simp only [Act.put, List.setIfInBounds_toArray, List.set_cons_zero, List.set_cons_succ, i64_w, i32_w]
                          rfl
                        refine pure_ (i := 16) (N := some 39) (v := ?_) (a' := ?_) #[true, true, true, true, true, true, true, true, true, true, true, true, true, true, true, true, true, true, false] rfl rfl (any_of HT_.out (by kernel_rfl)) (fun _ _ _ h => h) (Or.inl ⟨by rfl, ?_⟩) ?_ ?_
                        rotate_left
                        · intro w'
                          go_simp
                          with_reducible rfl
                        rotate_left
                        · simp only [Act.put, List.setIfInBounds_toArray, List.set_cons_zero, List.set_cons_succ, i64_w, i32_w]
                          rfl
                        refine pure_ (i := 18) (N := some 8) (v := ?_) (a' := ?_) #[true, true, true, true, true, true, true, true, true, true, true, true, true, true, true, true, true, true, true] rfl rfl (any_of HT_.out (by kernel_rfl)) (fun _ _ _ h => h) (Or.inl ⟨by rfl, ?_⟩) ?_ ?_
                        rotate_left
                        · intro w'
                          go_simp
                          with_reducible rfl
                        rotate_left
                        · simp only [Act.put, List.setIfInBounds_toArray, List.set_cons_zero, List.set_cons_succ, i64_w, i32_w]
                          rfl
                        refine done_ (done_of HT_.out (by kernel_rfl)) ?_
                        try go_wp2
                        have n0_ := Aside0.mk (Kd.R_drew HO_5.out)
                        have n1_ := Aside0.mk (below_drew1 HB.out)
                        clear HO_5
                        clear HB
                        have HO_5 := n0_
                        have HB := n1_
                        clear n0_ n1_
                        have p120 : 0 ≤ ((ji11) : Int) := of_decide_eq_true (by first | (with_reducible assumption) | assumption)
                        have q120 : (ji11) < (x5_1.length : Int) := of_decide_eq_true (by first | (with_reducible assumption) | assumption)
                        obtain ⟨ad120, e120, hx120_0, hx120_1, hx120_2, hx120_3⟩ := at_T25 (Kd.R_reads' HO_5.out).2.2 (ji11) p120 q120
                        cases e120
                        replace p120 := eq_true p120
                        replace q120 := eq_true q120
                        have p121 : 0 ≤ ((ji14) : Int) := of_decide_eq_true (by first | (with_reducible assumption) | assumption)
                        have q121 : (ji14) < (x5_1.length : Int) := of_decide_eq_true (by first | (with_reducible assumption) | assumption)
                        obtain ⟨ad121, e121, hx121_0, hx121_1, hx121_2, hx121_3⟩ := at_T25 (Kd.R_reads' HO_5.out).2.2 (ji14) p121 q121
                        obtain rfl : ad120 = ad121 := (by injection e121)
                        replace p121 := eq_true p121
                        replace q121 := eq_true q121
                        have p17 : 0 ≤ ((ji14) : Int) := of_decide_eq_true (by first | (with_reducible assumption) | assumption)
                        have q17 : ((ji14) : Int) < ((x5_1.length : Int) : Int) := of_decide_eq_true (by first | (with_reducible assumption) | assumption)
                        obtain ⟨go17, co17, eo17, gb17, gl17, cl17, HG17⟩ := Kd.R_form HO_5.out (by omega)
                        (first | cases eo17 | (injection eo17 with ea_ en_ ec_; (first | subst ea_ | (injection ea_ with ea_; subst ea_)); subst ec_; clear en_))
                        have GB17 := Aside0.mk gb17
                        have GG17 := Aside0.mk HG17
                        clear gb17 gl17 HG17
                        (first | simp only [add_plain] at hx120_0 | skip)
                        (first | simp only [add_plain] at hx120_1 | skip)
                        (first | simp only [add_plain] at hx120_2 | skip)
                        (first | simp only [add_plain] at hx120_3 | skip)
                        (first | simp only [add_plain] at hx121_0 | skip)
                        (first | simp only [add_plain] at hx121_1 | skip)
                        (first | simp only [add_plain] at hx121_2 | skip)
                        (first | simp only [add_plain] at hx121_3 | skip)
                        obtain ⟨ce17, hcl17, hM17, hcc17, hfr17⟩ := Kd.R_elem HO_5.out z25 ((ji14) : Int) p17 q17
                        obtain rfl := k25_openM hM17
                        have hx17_0 : World.cell? _ ⟨go17, ((ji14) : Int).toNat * 4, none⟩ = some (.int .i64 ((rd_T25 x5_1 (ji14)).f0)) := hcc17 0 _ rfl
                        have hx17_1 : World.cell? _ ⟨go17, ((ji14) : Int).toNat * 4 + 1, none⟩ = some (.int .i64 ((rd_T25 x5_1 (ji14)).f1)) := hcc17 1 _ rfl
                        have hx17_2 : World.cell? _ ⟨go17, ((ji14) : Int).toNat * 4 + 2, none⟩ = some (.int .i64 ((rd_T25 x5_1 (ji14)).f2)) := hcc17 2 _ rfl
                        have hx17_3 : World.cell? _ ⟨go17, ((ji14) : Int).toNat * 4 + 3, none⟩ = some (.int .i64 ((rd_T25 x5_1 (ji14)).f3)) := hcc17 3 _ rfl
                        have hf17_0 : World.frozen? _ ⟨go17, ((ji14) : Int).toNat * 4, none⟩ = false := hfr17 0
                        have hf17_1 : World.frozen? _ ⟨go17, ((ji14) : Int).toNat * 4 + 1, none⟩ = false := hfr17 1
                        have hf17_2 : World.frozen? _ ⟨go17, ((ji14) : Int).toNat * 4 + 2, none⟩ = false := hfr17 2
                        have hf17_3 : World.frozen? _ ⟨go17, ((ji14) : Int).toNat * 4 + 3, none⟩ = false := hfr17 3
                        clear hcl17 hcc17 hfr17 hM17
                        replace p17 := eq_true p17
                        replace q17 := eq_true q17
                        obtain ⟨ce22, hcl22, hM22, hcc22, hfr22⟩ := Kd.R_elem HO_5.out z25 ((ji14) : Int) (of_decide_eq_true (by first | (with_reducible assumption) | assumption)) (by have h_ : ((ji14) : Int) < ((x5_1.length : Int) : Int) := of_decide_eq_true (by first | (with_reducible assumption) | assumption); first | exact h_ | (have e_ := (Kd.R_reads' HO_5.out).1; omega) | simpa using h_)
                        obtain rfl := k25_openM hM22
                        have HP22 := (Kd.R_seg HO_5.out ((ji14) : Int) (of_decide_eq_true (by first | (with_reducible assumption) | assumption)) (by have h_ : ((ji14) : Int) < ((x5_1.length : Int) : Int) := of_decide_eq_true (by first | (with_reducible assumption) | assumption); first | exact h_ | (have e_ := (Kd.R_reads' HO_5.out).1; omega) | simpa using h_) (seg := [.int .i64 ((rd_T25 x5_1 (ji11)).f0), .int .i64 ((rd_T25 x5_1 (ji11)).f1), .int .i64 ((rd_T25 x5_1 (ji11)).f2), .int .i64 ((rd_T25 x5_1 (ji11)).f3)]) (j := 0) hcl22 hcc22 (show 4 ≤ 4 from by decide) (x' := (⟨(rd_T25 x5_1 (ji11)).f0, (rd_T25 x5_1 (ji11)).f1, (rd_T25 x5_1 (ji11)).f2, (rd_T25 x5_1 (ji11)).f3⟩ : S25)) (k25_mkM _ _ _ (⟨(rd_T25 x5_1 (ji11)).f0, (rd_T25 x5_1 (ji11)).f1, (rd_T25 x5_1 (ji11)).f2, (rd_T25 x5_1 (ji11)).f3⟩ : S25) ) (fun _ hk => hk)).1
                        rw [← Ny122.out] at HP22
                        have HQ22 := Aside0.mk HP22
                        clear hcl22 hcc22 hfr22 hM22 HP22
                        have p18 : 0 ≤ ((ji11) : Int) := of_decide_eq_true (by first | (with_reducible assumption) | assumption)
                        have q18 : ((ji11) : Int) < ((x5_1.length : Int) : Int) := of_decide_eq_true (by first | (with_reducible assumption) | assumption)
                        obtain ⟨ce18, hcl18, hM18, hcc18, hfr18⟩ := Kd.R_elem HQ22.out z25 ((ji11) : Int) p18 q18
                        obtain rfl := k25_openM hM18
                        have hx18_0 : World.cell? _ ⟨go17, ((ji11) : Int).toNat * 4, none⟩ = some (.int .i64 ((rd_T25 y122 (ji11)).f0)) := hcc18 0 _ rfl
                        have hx18_1 : World.cell? _ ⟨go17, ((ji11) : Int).toNat * 4 + 1, none⟩ = some (.int .i64 ((rd_T25 y122 (ji11)).f1)) := hcc18 1 _ rfl
                        have hx18_2 : World.cell? _ ⟨go17, ((ji11) : Int).toNat * 4 + 2, none⟩ = some (.int .i64 ((rd_T25 y122 (ji11)).f2)) := hcc18 2 _ rfl
                        have hx18_3 : World.cell? _ ⟨go17, ((ji11) : Int).toNat * 4 + 3, none⟩ = some (.int .i64 ((rd_T25 y122 (ji11)).f3)) := hcc18 3 _ rfl
                        have hf18_0 : World.frozen? _ ⟨go17, ((ji11) : Int).toNat * 4, none⟩ = false := hfr18 0
                        have hf18_1 : World.frozen? _ ⟨go17, ((ji11) : Int).toNat * 4 + 1, none⟩ = false := hfr18 1
                        have hf18_2 : World.frozen? _ ⟨go17, ((ji11) : Int).toNat * 4 + 2, none⟩ = false := hfr18 2
                        have hf18_3 : World.frozen? _ ⟨go17, ((ji11) : Int).toNat * 4 + 3, none⟩ = false := hfr18 3
                        clear hcl18 hcc18 hfr18 hM18
                        replace p18 := eq_true p18
                        replace q18 := eq_true q18
                        obtain ⟨ce23, hcl23, hM23, hcc23, hfr23⟩ := Kd.R_elem HQ22.out z25 ((ji11) : Int) (of_decide_eq_true (by first | (with_reducible assumption) | assumption)) (by have h_ : ((ji11) : Int) < ((x5_1.length : Int) : Int) := of_decide_eq_true (by first | (with_reducible assumption) | assumption); first | exact h_ | (have e_ := (Kd.R_reads' HO_5.out).1; omega) | simpa using h_)
                        obtain rfl := k25_openM hM23
                        have HP23 := (Kd.R_seg HQ22.out ((ji11) : Int) (of_decide_eq_true (by first | (with_reducible assumption) | assumption)) (by have h_ : ((ji11) : Int) < ((x5_1.length : Int) : Int) := of_decide_eq_true (by first | (with_reducible assumption) | assumption); first | exact h_ | (have e_ := (Kd.R_reads' HO_5.out).1; omega) | simpa using h_) (seg := [.int .i64 ((rd_T25 x5_1 (ji14)).f0), .int .i64 ((rd_T25 x5_1 (ji14)).f1), .int .i64 ((rd_T25 x5_1 (ji14)).f2), .int .i64 ((rd_T25 x5_1 (ji14)).f3)]) (j := 0) hcl23 hcc23 (show 4 ≤ 4 from by decide) (x' := (⟨(rd_T25 x5_1 (ji14)).f0, (rd_T25 x5_1 (ji14)).f1, (rd_T25 x5_1 (ji14)).f2, (rd_T25 x5_1 (ji14)).f3⟩ : S25)) (k25_mkM _ _ _ (⟨(rd_T25 x5_1 (ji14)).f0, (rd_T25 x5_1 (ji14)).f1, (rd_T25 x5_1 (ji14)).f2, (rd_T25 x5_1 (ji14)).f3⟩ : S25) ) (fun _ hk => hk)).1
                        rw [← Ny123.out] at HP23
                        have HQ23 := Aside0.mk HP23
                        clear hcl23 hcc23 hfr23 hM23 HP23
                        refine start_ (n := 16) (S := fun w' => w'.cell? ⟨go17, ((ji11)).toNat * 4, none⟩ = some (.int .i64 ((rd_T25 x5_1 (ji11)).f0)) ∧ w'.cell? ⟨go17, ((ji11)).toNat * 4 + 1, none⟩ = some (.int .i64 ((rd_T25 x5_1 (ji11)).f1)) ∧ w'.cell? ⟨go17, ((ji11)).toNat * 4 + 2, none⟩ = some (.int .i64 ((rd_T25 x5_1 (ji11)).f2)) ∧ w'.cell? ⟨go17, ((ji11)).toNat * 4 + 3, none⟩ = some (.int .i64 ((rd_T25 x5_1 (ji11)).f3)) ∧ w'.cell? ⟨go17, ((ji14)).toNat * 4, none⟩ = some (.int .i64 ((rd_T25 x5_1 (ji14)).f0)) ∧ w'.cell? ⟨go17, ((ji14)).toNat * 4 + 1, none⟩ = some (.int .i64 ((rd_T25 x5_1 (ji14)).f1)) ∧ w'.cell? ⟨go17, ((ji14)).toNat * 4 + 2, none⟩ = some (.int .i64 ((rd_T25 x5_1 (ji14)).f2)) ∧ w'.cell? ⟨go17, ((ji14)).toNat * 4 + 3, none⟩ = some (.int .i64 ((rd_T25 x5_1 (ji14)).f3))) (ds := [13, 15]) #[false, false, false, false, false, false, false, false, false, false, false, false, false, false, false, false] (by kernel_rfl) rfl rfl ⟨hx120_0, hx120_1, hx120_2, hx120_3, hx121_0, hx121_1, hx121_2, hx121_3⟩ (fun hHeld => ?_); refine with_tabW impl_Mark.tab6 impl_Mark.bits6 (fun HT_ HW_ => ?_)
                        generalize w20.drew = w21 at HO_5 HB GG17 HQ22 HQ23 hf17_0 hf17_1 hf17_2 hf17_3 hf18_0 hf18_1 hf18_2 hf18_3 hx120_0 hx120_1 hx120_2 hx120_3 hx121_0 hx121_1 hx121_2 hx121_3 hx17_0 hx17_1 hx17_2 hx17_3 hx18_0 hx18_1 hx18_2 hx18_3 hHeld ⊢
                        refine pure_ (i := 0) (N := some 40) (v := ?_) (a' := ?_) #[true, false, false, false, false, false, false, false, false, false, false, false, false, false, false, false] rfl rfl (any_of HT_.out (by kernel_rfl)) (fun _ _ _ h => h) (Or.inl ⟨by rfl, ?_⟩) ?_ ?_
                        rotate_left
                        · intro w'
                          go_simp
                          with_reducible rfl
                        rotate_left
                        · simp only [Act.put, List.setIfInBounds_toArray, List.set_cons_zero, List.set_cons_succ, i64_w, i32_w]
                          rfl
                        refine pure_ (i := 1) (N := some 41) (v := ?_) (a' := ?_) #[true, true, false, false, false, false, false, false, false, false, false, false, false, false, false, false] rfl rfl (any_of HT_.out (by kernel_rfl)) (fun _ _ _ h => h) (Or.inl ⟨by rfl, ?_⟩) ?_ ?_
                        rotate_left
                        · intro w'
                          go_simp
                          with_reducible rfl
                        rotate_left
                        · simp only [Act.put, List.setIfInBounds_toArray, List.set_cons_zero, List.set_cons_succ, i64_w, i32_w]
                          rfl
                        refine pure_ (i := 2) (N := some 42) (v := ?_) (a' := ?_) #[true, true, true, false, false, false, false, false, false, false, false, false, false, false, false, false] rfl rfl (any_of HT_.out (by kernel_rfl)) (fun _ _ _ h => h) (Or.inl ⟨by rfl, ?_⟩) ?_ ?_
                        rotate_left
                        · intro w'
                          go_simp
                          with_reducible rfl
                        rotate_left
                        · simp only [Act.put, List.setIfInBounds_toArray, List.set_cons_zero, List.set_cons_succ, i64_w, i32_w]
                          rfl
                        refine pure_ (i := 3) (N := some 43) (v := ?_) (a' := ?_) #[true, true, true, true, false, false, false, false, false, false, false, false, false, false, false, false] rfl rfl (any_of HT_.out (by kernel_rfl)) (fun _ _ _ h => h) (Or.inl ⟨by rfl, ?_⟩) ?_ ?_
                        rotate_left
                        · intro w'
                          go_simp
                          with_reducible rfl
                        rotate_left
                        · simp only [Act.put, List.setIfInBounds_toArray, List.set_cons_zero, List.set_cons_succ, i64_w, i32_w]
                          rfl
                        refine pure_ (i := 4) (N := some 44) (v := ?_) (a' := ?_) #[true, true, true, true, true, false, false, false, false, false, false, false, false, false, false, false] rfl rfl (any_of HT_.out (by kernel_rfl)) (fun _ _ _ h => h) (Or.inl ⟨by rfl, ?_⟩) ?_ ?_
                        rotate_left
                        · intro w'
                          go_simp
                          with_reducible rfl
                        rotate_left
                        · simp only [Act.put, List.setIfInBounds_toArray, List.set_cons_zero, List.set_cons_succ, i64_w, i32_w]
                          rfl
                        refine pure_ (i := 5) (N := some 45) (v := ?_) (a' := ?_) #[true, true, true, true, true, true, false, false, false, false, false, false, false, false, false, false] rfl rfl (any_of HT_.out (by kernel_rfl)) (fun _ _ _ h => h) (Or.inl ⟨by rfl, ?_⟩) ?_ ?_
                        rotate_left
                        · intro w'
                          go_simp
                          with_reducible rfl
                        rotate_left
                        · simp only [Act.put, List.setIfInBounds_toArray, List.set_cons_zero, List.set_cons_succ, i64_w, i32_w]
                          rfl
                        refine pure_ (i := 6) (N := some 46) (v := ?_) (a' := ?_) #[true, true, true, true, true, true, true, false, false, false, false, false, false, false, false, false] rfl rfl (any_of HT_.out (by kernel_rfl)) (fun _ _ _ h => h) (Or.inl ⟨by rfl, ?_⟩) ?_ ?_
                        rotate_left
                        · intro w'
                          go_simp
                          with_reducible rfl
                        rotate_left
                        · simp only [Act.put, List.setIfInBounds_toArray, List.set_cons_zero, List.set_cons_succ, i64_w, i32_w]
                          rfl
                        refine pure_ (i := 8) (N := some 48) (v := ?_) (a' := ?_) #[true, true, true, true, true, true, true, false, true, false, false, false, false, false, false, false] rfl rfl (any_of HT_.out (by kernel_rfl)) (fun _ _ _ h => h) (Or.inl ⟨by rfl, ?_⟩) ?_ ?_
                        rotate_left
                        · intro w'
                          go_simp
                          with_reducible rfl
                        rotate_left
                        · simp only [Act.put, List.setIfInBounds_toArray, List.set_cons_zero, List.set_cons_succ, i64_w, i32_w]
                          rfl
                        refine pure_ (i := 9) (N := some 49) (v := ?_) (a' := ?_) #[true, true, true, true, true, true, true, false, true, true, false, false, false, false, false, false] rfl rfl (any_of HT_.out (by kernel_rfl)) (fun _ _ _ h => h) (Or.inl ⟨by rfl, ?_⟩) ?_ ?_
                        rotate_left
                        · intro w'
                          go_simp
                          with_reducible rfl
                        rotate_left
                        · simp only [Act.put, List.setIfInBounds_toArray, List.set_cons_zero, List.set_cons_succ, i64_w, i32_w]
                          rfl
                        refine pure_ (i := 10) (N := some 50) (v := ?_) (a' := ?_) #[true, true, true, true, true, true, true, false, true, true, true, false, false, false, false, false] rfl rfl (any_of HT_.out (by kernel_rfl)) (fun _ _ _ h => h) (Or.inl ⟨by rfl, ?_⟩) ?_ ?_
                        rotate_left
                        · intro w'
                          go_simp
                          with_reducible rfl
                        rotate_left
                        · simp only [Act.put, List.setIfInBounds_toArray, List.set_cons_zero, List.set_cons_succ, i64_w, i32_w]
                          rfl
                        refine take_ (i := 7) (N := some 47) (v := ?_) (a' := ?_) #[true, true, true, true, true, true, true, true, true, true, true, false, false, false, false, false] rfl rfl (take_ofW HT_.out HW_.out (by kernel_rfl)) (fun _ _ _ h => h) (Or.inl ⟨by rfl, ?_⟩) hHeld ?_ ?_
                        rotate_left
                        · rintro w' ⟨s0, s1, s2, s3, s4, s5, s6, s7⟩
                          go_simp
                          with_reducible rfl
                        rotate_left
                        · simp only [Act.put, List.setIfInBounds_toArray, List.set_cons_zero, List.set_cons_succ, i64_w, i32_w]
                          rfl
                        refine take_ (i := 11) (N := some 51) (v := ?_) (a' := ?_) #[true, true, true, true, true, true, true, true, true, true, true, true, false, false, false, false] rfl rfl (take_ofW HT_.out HW_.out (by kernel_rfl)) (fun _ _ _ h => h) (Or.inl ⟨by rfl, ?_⟩) hHeld ?_ ?_
                        rotate_left
                        · rintro w' ⟨s0, s1, s2, s3, s4, s5, s6, s7⟩
                          go_simp
                          with_reducible rfl
                        rotate_left
                        · simp only [Act.put, List.setIfInBounds_toArray, List.set_cons_zero, List.set_cons_succ, i64_w, i32_w]
                          rfl
                        refine pure_ (i := 12) (N := some 52) (v := ?_) (a' := ?_) #[true, true, true, true, true, true, true, true, true, true, true, true, true, false, false, false] rfl rfl (any_of HT_.out (by kernel_rfl)) (fun _ _ _ h => h) (Or.inl ⟨by rfl, ?_⟩) ?_ ?_
                        rotate_left
                        · intro w'
                          go_simp
                          with_reducible rfl
                        rotate_left
                        · simp only [Act.put, List.setIfInBounds_toArray, List.set_cons_zero, List.set_cons_succ, i64_w, i32_w]
                          rfl
                        refine last_ (i := 13) (N := none) #[true, true, true, true, true, true, true, true, true, true, true, true, true, true, false, false] rfl rfl (one_of HT_.out (by kernel_rfl)) (by decide) (fun K hK => ?_)
                        refine skip_ (w1 := ?_) (by rfl) rfl ?_ ?_
                        rotate_left
                        · go_simp
                          rfl
                        refine hK.out _ _ ?_
                        clear hK K
                        refine pure_ (i := 14) (N := some 53) (v := ?_) (a' := ?_) #[true, true, true, true, true, true, true, true, true, true, true, true, true, true, true, false] rfl rfl (any_of HT_.out (by kernel_rfl)) (fun _ _ _ h => h) (Or.inl ⟨by rfl, ?_⟩) ?_ ?_
                        rotate_left
                        · intro w'
                          go_simp
                          with_reducible rfl
                        rotate_left
                        · simp only [Act.put, List.setIfInBounds_toArray, List.set_cons_zero, List.set_cons_succ, i64_w, i32_w]
                          rfl
                        obtain ⟨_, _, _, _, hfr_⟩ := Kd.R_elem HO_5.out z25 ((ji11) : Int) (of_eq_true p18) (of_eq_true q18)
                        have sf0_ : World.frozen? _ ⟨go17, ((ji11) : Int).toNat * 4, none⟩ = false := hfr_ 0
                        have sf1_ : World.frozen? _ ⟨go17, ((ji11) : Int).toNat * 4 + 1, none⟩ = false := hfr_ 1
                        have sf2_ : World.frozen? _ ⟨go17, ((ji11) : Int).toNat * 4 + 2, none⟩ = false := hfr_ 2
                        have sf3_ : World.frozen? _ ⟨go17, ((ji11) : Int).toNat * 4 + 3, none⟩ = false := hfr_ 3
                        obtain ⟨u0_, su0_⟩ := (some_set (q := ⟨go17, (ji14).toNat * 4, none⟩) (v := (.int .i64 (rd_T25 x5_1 ji11).f0)) hx120_0)
                        obtain ⟨u1_, su1_⟩ := (some_set' (q := ⟨go17, (ji14).toNat * 4 + 1, none⟩) (v := (.int .i64 (rd_T25 x5_1 ji11).f1)) (some_set (q := ⟨go17, (ji14).toNat * 4, none⟩) (v := (.int .i64 (rd_T25 x5_1 ji11).f0)) hx120_1))
                        obtain ⟨u2_, su2_⟩ := (some_set' (q := ⟨go17, (ji14).toNat * 4 + 2, none⟩) (v := (.int .i64 (rd_T25 x5_1 ji11).f2)) (some_set' (q := ⟨go17, (ji14).toNat * 4 + 1, none⟩) (v := (.int .i64 (rd_T25 x5_1 ji11).f1)) (some_set (q := ⟨go17, (ji14).toNat * 4, none⟩) (v := (.int .i64 (rd_T25 x5_1 ji11).f0)) hx120_2)))
                        obtain ⟨u3_, su3_⟩ := (some_set' (q := ⟨go17, (ji14).toNat * 4 + 3, none⟩) (v := (.int .i64 (rd_T25 x5_1 ji11).f3)) (some_set' (q := ⟨go17, (ji14).toNat * 4 + 2, none⟩) (v := (.int .i64 (rd_T25 x5_1 ji11).f2)) (some_set' (q := ⟨go17, (ji14).toNat * 4 + 1, none⟩) (v := (.int .i64 (rd_T25 x5_1 ji11).f1)) (some_set (q := ⟨go17, (ji14).toNat * 4, none⟩) (v := (.int .i64 (rd_T25 x5_1 ji11).f0)) hx120_3))))
                        refine last_ (i := 15) (N := none) #[true, true, true, true, true, true, true, true, true, true, true, true, true, true, true, true] rfl rfl (one_of HT_.out (by kernel_rfl)) (by decide) (fun K hK => ?_)
                        refine skip_ (w1 := ?_) (by rfl) rfl ?_ ?_
                        rotate_left
                        · go_simp
                          rfl
                        refine hK.out _ _ ?_
                        clear hK K
                        refine done_ (done_of HT_.out (by kernel_rfl)) ?_
                        try go_wp2
                        go_roundg k1
                        case measure => have := HK1.out; omega
                        case rel => exact ⟨(y123), (wrap64 (x6_1 + 1)), (by first | rfl | (simp; done) | (simp [*]; done)), H', ⟨by have := HK1.out; omega⟩, ⟨by (with_reducible repeat (first | apply Kd.R_alloc | apply Kd.R_drewN | apply Kd.R_drew)); exact HQ23.out⟩, ⟨by repeat (first | (with_reducible first | exact HB.out | apply below_alloc | apply pw_below_drewN | apply below_drew1 | refine below_set ?_ GB17.out | refine below_set ?_ GB17.out | refine below_set ?_ GB17.out | refine below_set ?_ GB17.out | refine below_set ?_ GB17.out | refine below_set ?_ GB17.out | refine below_set ?_ GB17.out | refine below_set ?_ GB17.out) | exact HB.out)⟩⟩
                      · rw [if_neg c16] at H
                        exact absurd H (by simp)
                    · rw [if_neg c15] at H
                      exact absurd H (by simp)
                  · rw [if_neg c13] at H
                    exact absurd H (by simp)
                · rw [if_neg c12] at H
                  exact absurd H (by simp)
              · rw [if_neg c10] at H
                exact absurd H (by simp)
          · rw [if_neg c8] at H
            have c8b0 : decide (0 < (x5_1.length : Int)) = false := decide_eq_false c8
            have c8b1 : decide (0 < x5_1.length) = false := decide_eq_false (by omega)
            clear c8
            obtain rfl := Option.some.inj H
            obtain ⟨Ao24, co24, eo24⟩ := Kd.R_slice HO_5.out
            subst eo24
            go_wp2
            go_ret
            exact ⟨_, by first | rfl | (simp [errW_none, errW_some] <;> rfl) | (simp [*, errW_none, errW_some] <;> rfl), by (with_reducible repeat (first | apply Kd.R_alloc | apply Kd.R_drewN | apply Kd.R_drew)); exact HO_5.out, by repeat (first | (with_reducible first | exact HB.out | apply below_alloc | apply pw_below_drewN | apply below_drew1) | exact HB.out)⟩
        · rw [if_neg c7] at H
          have c7b0 : decide (x6_1 < (l1.length : Int)) = false := decide_eq_false c7
          clear c7
          obtain rfl := Option.some.inj H
          go_wp2
          go_ret
          exact ⟨_, by first | rfl | (simp [errW_none, errW_some] <;> rfl) | (simp [*, errW_none, errW_some] <;> rfl), by (with_reducible repeat (first | apply Kd.R_alloc | apply Kd.R_drewN | apply Kd.R_drew)); exact HO_5.out, by repeat (first | (with_reducible first | exact HB.out | apply below_alloc | apply pw_below_drewN | apply below_drew1) | exact HB.out)⟩
  · rw [if_neg c3] at H
    exact absurd H (by simp)

-- NOT PRINTED: function 54 (interval_newKV_int_int)

-- NOT PRINTED: function 58 (interval_node_int_int_getHeight)

/-! ### zgeneric_Max_int: function 70 -/
def zgeneric_Max_int.f (a0 : Int) (a1 : Int) : Option (Int) := if a0 > a1 then (some a0) else (some a1)
set_option maxHeartbeats 8000000 in
set_option maxRecDepth 100000 in
theorem zgeneric_Max_int.calls (a0 : Int) (a1 : Int) (r : Int) (w : World) (h : zgeneric_Max_int.f a0 a1 = some r) :
    Calls Try.prog 70 #[.int .i64 a0, .int .i64 a1] w fun e w' => e = .returned (.int .i64 r) ∧ Drawn0 w w' := by
  have H : (if a0 > a1 then (some a0) else (some a1)) = some r := h
  clear h
  by_cases c3 : a0 > a1
  · rw [if_pos c3] at H
    have c3b0 : decide (a1 < a0) = true := decide_eq_true c3
    clear c3
    obtain rfl := Option.some.inj H
    go_enter Try.func70, Try.ntmps70
    go_wp2
    go_ret
    exact ⟨by first | rfl | (simp; done) | (simp [*]; done), by repeat (first | exact Drawn0.refl _ | apply Drawn0.step)⟩
  · rw [if_neg c3] at H
    have c3b0 : decide (a1 < a0) = false := decide_eq_false c3
    clear c3
    obtain rfl := Option.some.inj H
    go_enter Try.func70, Try.ntmps70
    go_wp2
    go_ret
    exact ⟨by first | rfl | (simp; done) | (simp [*]; done), by repeat (first | exact Drawn0.refl _ | apply Drawn0.step)⟩

-- NOT PRINTED: function 65 (interval_node_int_int_recalculateHeight)

-- NOT PRINTED: function 66 (interval_node_int_int_updateMax)

-- NOT PRINTED: function 67 (interval_node_int_int_rotateRight)

-- NOT PRINTED: function 68 (interval_node_int_int_rotateLeft)

-- NOT PRINTED: function 62 (interval_node_int_int_rebalanceTree)

-- NOT PRINTED: function 50 (interval_node_int_int_insert)

-- NOT PRINTED: function 51 (interval_newIntrvl_int)

-- NOT PRINTED: function 34 (interval_Tree_int_int_Put)

-- NOT PRINTED: function 35 (interval_Tree_int_int_Add)

-- NOT PRINTED: function 69 (interval_node_int_int_findSmallest)

-- NOT PRINTED: function 63 (interval_node_int_int_removeThis)

-- NOT PRINTED: function 52 (interval_node_int_int_remove)

-- NOT PRINTED: function 36 (interval_Tree_int_int_Remove)

-- NOT PRINTED: function 53 (interval_node_int_int_search)

-- NOT PRINTED: function 37 (interval_Tree_int_int_Get)

/-! ### interval_overlaps_int: function 64 -/
def interval_overlaps_int.f (a0_0 : Int) (a0_1 : Int) (a1_0 : Int) (a1_1 : Int) : Option (Bool) := if a0_0 < a1_1 then (some (decide (a0_1 > a1_0))) else (some false)
set_option maxHeartbeats 8000000 in
set_option maxRecDepth 100000 in
theorem interval_overlaps_int.calls (a0_0 : Int) (a0_1 : Int) (a1_0 : Int) (a1_1 : Int) (r : Bool) (w : World) (h : interval_overlaps_int.f a0_0 a0_1 a1_0 a1_1 = some r) :
    Calls Try.prog 64 #[.agg #[.int .i64 a0_0, .int .i64 a0_1], .agg #[.int .i64 a1_0, .int .i64 a1_1]] w fun e w' => e = .returned (.bool r) ∧ Below w.heap.size w w' := by
  have hu100 := Try.underlying100
  have HB := Aside0.mk (Below.refl w.heap.size w)
  have H : (if a0_0 < a1_1 then (some (decide (a0_1 > a1_0))) else (some false)) = some r := h
  clear h
  by_cases c3 : a0_0 < a1_1
  · rw [if_pos c3] at H
    have c3b0 : decide (a0_0 < a1_1) = true := decide_eq_true c3
    clear c3
    obtain rfl := Option.some.inj H
    go_enter Try.func64, Try.ntmps64
    go_wp2_with (first | ((with_reducible refine gate_dst (N := 2) rfl ?_); refine box_event ?hg (N := 2) ?hd (cs := #[.int .i64 a0_0, .int .i64 a0_1]) (t := 100) ?hr ?_; (case hd => rfl); (case hg => rfl); (case hr => first | (go_simp; done) | (go_simp; rfl)); intro gb125 hg w4 hbox hb; have n0_ := Aside0.mk (below_step (by repeat (first | (with_reducible first | exact HB.out | apply below_alloc | apply pw_below_drewN | apply below_drew1) | exact HB.out)) hb); have n1_ := Aside0.mk (hbox); have n2_ := Aside0.mk ((by rw [hg]; exact (below_size (by repeat (first | (with_reducible first | exact HB.out | apply below_alloc | apply pw_below_drewN | apply below_drew1) | exact HB.out))) : w.heap.size ≤ gb125)); have n3_ := Aside0.mk ((by rw [hg]; exact (below_size (by repeat (first | (with_reducible first | exact HB.out | apply below_alloc | apply pw_below_drewN | apply below_drew1) | exact HB.out))) : w.heap.size ≤ gb125)); clear HB; have HB := n0_; have BK125 := n1_; have GW125 := n2_; have GE125 := n3_; clear n0_ n1_ n2_ n3_; clear hb hbox hg) | ((with_reducible refine gate_dst (N := 3) rfl ?_); refine box_event ?hg (N := 3) ?hd (cs := #[.int .i64 a1_0, .int .i64 a1_1]) (t := 100) ?hr ?_; (case hd => rfl); (case hg => rfl); (case hr => first | (go_simp; done) | (go_simp; rfl)); intro gb126 hg w5 hbox hb; have n0_ := Aside0.mk (blk_below (g := gb125) (o := .cells #[.int .i64 a0_0, .int .i64 a0_1] 100 (0, 0)) (by (with_reducible repeat (first | refine blk_drewN ?_ _ | refine blk_drew ?_ | refine blk_alloc ?_ _)); exact BK125.out) hb); have n1_ := Aside0.mk (below_step (by repeat (first | (with_reducible first | exact HB.out | apply below_alloc | apply pw_below_drewN | apply below_drew1 | refine below_set ?_ GE125.out) | exact HB.out)) hb); have n2_ := Aside0.mk (hbox); have n3_ := Aside0.mk ((by rw [hg]; exact (below_size (by repeat (first | (with_reducible first | exact HB.out | apply below_alloc | apply pw_below_drewN | apply below_drew1 | refine below_set ?_ GE125.out) | exact HB.out))) : w.heap.size ≤ gb126)); have n4_ := Aside0.mk ((by rw [hg]; exact (below_size (by repeat (first | (with_reducible first | exact HB.out | apply below_alloc | apply pw_below_drewN | apply below_drew1 | refine below_set ?_ GE125.out) | exact HB.out))) : w.heap.size ≤ gb126)); have n5_ := Aside0.mk ((by rw [hg]; exact Nat.ne_of_lt (blk_lt (g := gb125) (o := .cells #[.int .i64 a0_0, .int .i64 a0_1] 100 (0, 0)) (by (with_reducible repeat (first | refine blk_drewN ?_ _ | refine blk_drew ?_ | refine blk_alloc ?_ _)); exact BK125.out)) : gb125 ≠ gb126)); have n6_ := Aside0.mk ((by rw [hg]; exact Nat.ne_of_gt (blk_lt (g := gb125) (o := .cells #[.int .i64 a0_0, .int .i64 a0_1] 100 (0, 0)) (by (with_reducible repeat (first | refine blk_drewN ?_ _ | refine blk_drew ?_ | refine blk_alloc ?_ _)); exact BK125.out)) : gb126 ≠ gb125)); clear BK125; clear HB; have BK125 := n0_; have HB := n1_; have BK126 := n2_; have GW126 := n3_; have GE126 := n4_; have NB125_126 := n5_; have NB126_125 := n6_; clear n0_ n1_ n2_ n3_ n4_ n5_ n6_; clear hb hbox hg; have hnb6 := NB125_126.out; have hnc6 := NB126_125.out; have hcz7_0 : w5.cell? ⟨gb125, 0, none⟩ = some (.int .i64 a0_0) := (blk_cell BK125.out 0).trans rfl; have hcz7_1 : w5.cell? ⟨gb125, 1, none⟩ = some (.int .i64 a0_1) := (blk_cell BK125.out 1).trans rfl; have hfz7_0 := blk_frozen BK125.out 0; have hfz7_1 := blk_frozen BK125.out 1; have hcz8_0 : w5.cell? ⟨gb126, 0, none⟩ = some (.int .i64 a1_0) := (blk_cell BK126.out 0).trans rfl; have hcz8_1 : w5.cell? ⟨gb126, 1, none⟩ = some (.int .i64 a1_1) := (blk_cell BK126.out 1).trans rfl; have hfz8_0 := blk_frozen BK126.out 0; have hfz8_1 := blk_frozen BK126.out 1))
    go_ret
    exact ⟨by first | rfl | (simp [errW_none, errW_some] <;> rfl) | (simp [*, errW_none, errW_some] <;> rfl), by repeat (first | (with_reducible first | exact HB.out | apply below_alloc | apply pw_below_drewN | apply below_drew1 | refine below_set ?_ GE125.out | refine below_set ?_ GE126.out) | exact HB.out)⟩
  · rw [if_neg c3] at H
    have c3b0 : decide (a0_0 < a1_1) = false := decide_eq_false c3
    clear c3
    obtain rfl := Option.some.inj H
    go_enter Try.func64, Try.ntmps64
    go_wp2_with (first | ((with_reducible refine gate_dst (N := 2) rfl ?_); refine box_event ?hg (N := 2) ?hd (cs := #[.int .i64 a0_0, .int .i64 a0_1]) (t := 100) ?hr ?_; (case hd => rfl); (case hg => rfl); (case hr => first | (go_simp; done) | (go_simp; rfl)); intro gb125 hg w9 hbox hb; have n0_ := Aside0.mk (below_step (by repeat (first | (with_reducible first | exact HB.out | apply below_alloc | apply pw_below_drewN | apply below_drew1) | exact HB.out)) hb); have n1_ := Aside0.mk (hbox); have n2_ := Aside0.mk ((by rw [hg]; exact (below_size (by repeat (first | (with_reducible first | exact HB.out | apply below_alloc | apply pw_below_drewN | apply below_drew1) | exact HB.out))) : w.heap.size ≤ gb125)); have n3_ := Aside0.mk ((by rw [hg]; exact (below_size (by repeat (first | (with_reducible first | exact HB.out | apply below_alloc | apply pw_below_drewN | apply below_drew1) | exact HB.out))) : w.heap.size ≤ gb125)); clear HB; have HB := n0_; have BK125 := n1_; have GW125 := n2_; have GE125 := n3_; clear n0_ n1_ n2_ n3_; clear hb hbox hg) | ((with_reducible refine gate_dst (N := 3) rfl ?_); refine box_event ?hg (N := 3) ?hd (cs := #[.int .i64 a1_0, .int .i64 a1_1]) (t := 100) ?hr ?_; (case hd => rfl); (case hg => rfl); (case hr => first | (go_simp; done) | (go_simp; rfl)); intro gb126 hg w10 hbox hb; have n0_ := Aside0.mk (blk_below (g := gb125) (o := .cells #[.int .i64 a0_0, .int .i64 a0_1] 100 (0, 0)) (by (with_reducible repeat (first | refine blk_drewN ?_ _ | refine blk_drew ?_ | refine blk_alloc ?_ _)); exact BK125.out) hb); have n1_ := Aside0.mk (below_step (by repeat (first | (with_reducible first | exact HB.out | apply below_alloc | apply pw_below_drewN | apply below_drew1 | refine below_set ?_ GE125.out) | exact HB.out)) hb); have n2_ := Aside0.mk (hbox); have n3_ := Aside0.mk ((by rw [hg]; exact (below_size (by repeat (first | (with_reducible first | exact HB.out | apply below_alloc | apply pw_below_drewN | apply below_drew1 | refine below_set ?_ GE125.out) | exact HB.out))) : w.heap.size ≤ gb126)); have n4_ := Aside0.mk ((by rw [hg]; exact (below_size (by repeat (first | (with_reducible first | exact HB.out | apply below_alloc | apply pw_below_drewN | apply below_drew1 | refine below_set ?_ GE125.out) | exact HB.out))) : w.heap.size ≤ gb126)); have n5_ := Aside0.mk ((by rw [hg]; exact Nat.ne_of_lt (blk_lt (g := gb125) (o := .cells #[.int .i64 a0_0, .int .i64 a0_1] 100 (0, 0)) (by (with_reducible repeat (first | refine blk_drewN ?_ _ | refine blk_drew ?_ | refine blk_alloc ?_ _)); exact BK125.out)) : gb125 ≠ gb126)); have n6_ := Aside0.mk ((by rw [hg]; exact Nat.ne_of_gt (blk_lt (g := gb125) (o := .cells #[.int .i64 a0_0, .int .i64 a0_1] 100 (0, 0)) (by (with_reducible repeat (first | refine blk_drewN ?_ _ | refine blk_drew ?_ | refine blk_alloc ?_ _)); exact BK125.out)) : gb126 ≠ gb125)); clear BK125; clear HB; have BK125 := n0_; have HB := n1_; have BK126 := n2_; have GW126 := n3_; have GE126 := n4_; have NB125_126 := n5_; have NB126_125 := n6_; clear n0_ n1_ n2_ n3_ n4_ n5_ n6_; clear hb hbox hg; have hnb11 := NB125_126.out; have hnc11 := NB126_125.out; have hcz12_0 : w10.cell? ⟨gb125, 0, none⟩ = some (.int .i64 a0_0) := (blk_cell BK125.out 0).trans rfl; have hcz12_1 : w10.cell? ⟨gb125, 1, none⟩ = some (.int .i64 a0_1) := (blk_cell BK125.out 1).trans rfl; have hfz12_0 := blk_frozen BK125.out 0; have hfz12_1 := blk_frozen BK125.out 1; have hcz13_0 : w10.cell? ⟨gb126, 0, none⟩ = some (.int .i64 a1_0) := (blk_cell BK126.out 0).trans rfl; have hcz13_1 : w10.cell? ⟨gb126, 1, none⟩ = some (.int .i64 a1_1) := (blk_cell BK126.out 1).trans rfl; have hfz13_0 := blk_frozen BK126.out 0; have hfz13_1 := blk_frozen BK126.out 1))
    go_ret
    exact ⟨by first | rfl | (simp [errW_none, errW_some] <;> rfl) | (simp [*, errW_none, errW_some] <;> rfl), by repeat (first | (with_reducible first | exact HB.out | apply below_alloc | apply pw_below_drewN | apply below_drew1 | refine below_set ?_ GE125.out | refine below_set ?_ GE126.out) | exact HB.out)⟩

-- NOT PRINTED: function 55 (interval_node_int_int_overlaps)

-- NOT PRINTED: function 38 (interval_Tree_int_int_Overlaps)

/-! ### impl_span: function 39 -/
def impl_span.f (a0_0 : Int) (a0_1 : Int) (a0_2 : Int) : Option (Int × Int × Int) := some (a0_0, a0_1, a0_2)
set_option maxHeartbeats 8000000 in
set_option maxRecDepth 100000 in
theorem impl_span.calls (a0_0 : Int) (a0_1 : Int) (a0_2 : Int) (r1 : Int) (r2 : Int) (r3 : Int) (w : World) (h : impl_span.f a0_0 a0_1 a0_2 = some (r1, r2, r3)) :
    Calls Try.prog 39 #[.agg #[.int .i64 a0_0, .int .i64 a0_1, .int .i64 a0_2]] w fun e w' => e = .returned (.agg #[.int .i64 r1, .int .i64 r2, .int .i64 r3]) ∧ Below w.heap.size w w' := by
  have hu74 := Try.underlying74
  have hu29 := Try.underlying29
  have HB := Aside0.mk (Below.refl w.heap.size w)
  have H : (some (a0_0, a0_1, a0_2)) = some (r1, r2, r3) := h
  clear h
  simp only [Option.some.injEq, Prod.mk.injEq] at H
  obtain ⟨rfl, rfl, rfl⟩ := H
  go_enter Try.func39, Try.ntmps39
  go_wp2_with (first | ((with_reducible refine gate_dst (N := 1) rfl ?_); refine box_event ?hg (N := 1) ?hd (cs := #[.int .i64 a0_0, .int .i64 a0_1, .int .i64 a0_2]) (t := 74) ?hr ?_; (case hd => rfl); (case hg => rfl); (case hr => first | (go_simp; done) | (go_simp; rfl)); intro gb127 hg w2 hbox hb; have n0_ := Aside0.mk (below_step (by repeat (first | (with_reducible first | exact HB.out | apply below_alloc | apply pw_below_drewN | apply below_drew1) | exact HB.out)) hb); have n1_ := Aside0.mk (hbox); have n2_ := Aside0.mk ((by rw [hg]; exact (below_size (by repeat (first | (with_reducible first | exact HB.out | apply below_alloc | apply pw_below_drewN | apply below_drew1) | exact HB.out))) : w.heap.size ≤ gb127)); have n3_ := Aside0.mk ((by rw [hg]; exact (below_size (by repeat (first | (with_reducible first | exact HB.out | apply below_alloc | apply pw_below_drewN | apply below_drew1) | exact HB.out))) : w.heap.size ≤ gb127)); clear HB; have HB := n0_; have BK127 := n1_; have GW127 := n2_; have GE127 := n3_; clear n0_ n1_ n2_ n3_; clear hb hbox hg) | ((with_reducible refine gate_dst (N := 2) rfl ?_); refine box_event ?hg (N := 2) ?hd (cs := #[.int .i64 0, .int .i64 0, .int .i64 0]) (t := 29) ?hr ?_; (case hd => rfl); (case hg => rfl); (case hr => first | (go_simp; done) | (go_simp; rfl)); intro gb128 hg w3 hbox hb; have n0_ := Aside0.mk (blk_below (g := gb127) (o := .cells #[.int .i64 a0_0, .int .i64 a0_1, .int .i64 a0_2] 74 (0, 0)) (by (with_reducible repeat (first | refine blk_drewN ?_ _ | refine blk_drew ?_ | refine blk_alloc ?_ _)); exact BK127.out) hb); have n1_ := Aside0.mk (below_step (by repeat (first | (with_reducible first | exact HB.out | apply below_alloc | apply pw_below_drewN | apply below_drew1 | refine below_set ?_ GE127.out) | exact HB.out)) hb); have n2_ := Aside0.mk (hbox); have n3_ := Aside0.mk ((by rw [hg]; exact (below_size (by repeat (first | (with_reducible first | exact HB.out | apply below_alloc | apply pw_below_drewN | apply below_drew1 | refine below_set ?_ GE127.out) | exact HB.out))) : w.heap.size ≤ gb128)); have n4_ := Aside0.mk ((by rw [hg]; exact (below_size (by repeat (first | (with_reducible first | exact HB.out | apply below_alloc | apply pw_below_drewN | apply below_drew1 | refine below_set ?_ GE127.out) | exact HB.out))) : w.heap.size ≤ gb128)); have n5_ := Aside0.mk ((by rw [hg]; exact Nat.ne_of_lt (blk_lt (g := gb127) (o := .cells #[.int .i64 a0_0, .int .i64 a0_1, .int .i64 a0_2] 74 (0, 0)) (by (with_reducible repeat (first | refine blk_drewN ?_ _ | refine blk_drew ?_ | refine blk_alloc ?_ _)); exact BK127.out)) : gb127 ≠ gb128)); have n6_ := Aside0.mk ((by rw [hg]; exact Nat.ne_of_gt (blk_lt (g := gb127) (o := .cells #[.int .i64 a0_0, .int .i64 a0_1, .int .i64 a0_2] 74 (0, 0)) (by (with_reducible repeat (first | refine blk_drewN ?_ _ | refine blk_drew ?_ | refine blk_alloc ?_ _)); exact BK127.out)) : gb128 ≠ gb127)); clear BK127; clear HB; have BK127 := n0_; have HB := n1_; have BK128 := n2_; have GW128 := n3_; have GE128 := n4_; have NB127_128 := n5_; have NB128_127 := n6_; clear n0_ n1_ n2_ n3_ n4_ n5_ n6_; clear hb hbox hg; have hnb4 := NB127_128.out; have hnc4 := NB128_127.out; have hcz5_0 : w3.cell? ⟨gb127, 0, none⟩ = some (.int .i64 a0_0) := (blk_cell BK127.out 0).trans rfl; have hcz5_1 : w3.cell? ⟨gb127, 1, none⟩ = some (.int .i64 a0_1) := (blk_cell BK127.out 1).trans rfl; have hcz5_2 : w3.cell? ⟨gb127, 2, none⟩ = some (.int .i64 a0_2) := (blk_cell BK127.out 2).trans rfl; have hfz5_0 := blk_frozen BK127.out 0; have hfz5_1 := blk_frozen BK127.out 1; have hfz5_2 := blk_frozen BK127.out 2; have hcz6_0 : w3.cell? ⟨gb128, 0, none⟩ = some (.int .i64 0) := (blk_cell BK128.out 0).trans rfl; have hcz6_1 : w3.cell? ⟨gb128, 1, none⟩ = some (.int .i64 0) := (blk_cell BK128.out 1).trans rfl; have hcz6_2 : w3.cell? ⟨gb128, 2, none⟩ = some (.int .i64 0) := (blk_cell BK128.out 2).trans rfl; have hfz6_0 := blk_frozen BK128.out 0; have hfz6_1 := blk_frozen BK128.out 1; have hfz6_2 := blk_frozen BK128.out 2))
  refine bodyPost_ret (results_cell_row rfl _ _ gb128 29 #[.int .i64 a0_0, .int .i64 a0_1, .int .i64 a0_2] (0, 0) _ rfl (by (with_reducible repeat (first | refine blk_drewN ?_ _ | refine blk_drew ?_ | refine blk_alloc ?_ _)); refine blk_put (cs := #[.int .i64 a0_0, .int .i64 a0_1, .int .i64 0]) ?_ 2 _ rfl; (with_reducible repeat (first | refine blk_drewN ?_ _ | refine blk_drew ?_ | refine blk_alloc ?_ _)); refine blk_put (cs := #[.int .i64 a0_0, .int .i64 0, .int .i64 0]) ?_ 1 _ rfl; (with_reducible repeat (first | refine blk_drewN ?_ _ | refine blk_drew ?_ | refine blk_alloc ?_ _)); refine blk_put (cs := #[.int .i64 0, .int .i64 0, .int .i64 0]) ?_ 0 _ rfl; (with_reducible repeat (first | refine blk_drewN ?_ _ | refine blk_drew ?_ | refine blk_alloc ?_ _)); exact BK128.out) Try.underlying29 rfl (by kernel_rfl)) rfl ?_
  exact ⟨by first | rfl | (simp [errW_none, errW_some] <;> rfl) | (simp [*, errW_none, errW_some] <;> rfl), by repeat (first | (with_reducible first | exact HB.out | apply below_alloc | apply pw_below_drewN | apply below_drew1 | refine below_set ?_ GE127.out | refine below_set ?_ GE128.out) | exact HB.out)⟩

-- NOT PRINTED: function 56 (interval_node_int_int_each)

-- NOT PRINTED: function 40 (interval_Tree_int_int_Each)

-- NOT PRINTED: function 57 (interval_node_int_int_size)

-- NOT PRINTED: function 42 (interval_Tree_int_int_Size)

-- NOT PRINTED: function 43 (interval_Tree_int_int_Height)

-- NOT PRINTED: function 24 (impl_intervalDo)

-- NOT PRINTED: function 25 (interval_New_int_int)

/-! ### impl_IntervalRun: function 11 -/
section
variable {α β : Type} {d : Kd α} {d' : Kd β} {g : α → β}
theorem R_map (hs : d.sz = d'.sz) (hM : ∀ w base ok x cs, d.M w base ok x cs → d'.M w base ok (g x) cs) {e : Nat} {w : World} {base : Nat} {ok : Nat → Prop} {v : Value} {xs : List α} (h : d.R e w base ok v xs) : d'.R e w base ok v (xs.map g) := by
  obtain ⟨h0, inner, ho, hr⟩ := h
  refine ⟨h0, inner, by rw [List.length_map, ← hs]; exact ho, ?_⟩
  refine ⟨by rw [List.length_map, ← hs]; exact hr.1, fun j p hj => ?_⟩
  rw [List.getElem?_map] at hj
  obtain ⟨q, hq, rfl⟩ := Option.map_eq_some_iff.1 hj
  have := hr.2 j q hq
  rw [← hs]
  exact hM _ _ _ _ _ this
theorem S_map (hs : d.sz = d'.sz) (hM : ∀ w base ok x cs, d.M w base ok x cs → d'.M w base ok (g x) cs) {e : Nat} {w : World} {base : Nat} {ok : Nat → Prop} {v : Value} {xs : List α} (h : Kd.S d e w base ok v xs) : Kd.S d' e w base ok v (xs.map g) := by
  obtain ⟨f, h⟩ := h
  refine ⟨f, ?_⟩
  have e1 : (xs.map g).zipIdx = xs.zipIdx.map (fun p => (g p.1, p.2)) := by
    apply List.ext_getElem?
    intro j
    simp only [List.getElem?_zipIdx, List.getElem?_map]
    cases xs[j]? <;> rfl
  rw [e1]
  exact R_map (d := Kd.tag f d) (d' := Kd.tag f d') (g := fun p => (g p.1, p.2)) hs (fun w base ok x cs hx => hM w base _ x.1 cs hx) h
end
def span_of (p : Int × Int × Int) : S29 := ⟨p.1, p.2.1, p.2.2⟩
def found_of (p : Int.Fd) : S32 := ⟨span_of p.1, p.2.1, p.2.2.1.map span_of, p.2.2.2⟩
def mk_of (x : S25) : Int.Mk := (x.f0, x.f1, x.f2, x.f3)
theorem found_map : ∀ (w : World) (base : Nat) (ok : Nat → Prop) (x : Int.Fd) (cs : List Value), Int.foundK.M w base ok x cs → k32.M w base ok (found_of x) cs := by
  intro w base ok x cs h
  obtain ⟨c1, c2, rfl, h1, c3, c4, rfl, h2, c5, c6, rfl, ⟨v, rfl, h3⟩, h4⟩ := h
  exact ⟨c1, _, rfl, h1, c3, _, rfl, h2, [v], c6, rfl, ⟨v, rfl, R_map (d := Int.spK) (d' := k29) (g := span_of) rfl (fun _ _ _ _ _ q => q) h3⟩, h4⟩
def fitB (l : List Int.Mk) : Bool := l.all fun a => !(a.1 == 0 || a.1 == 1 || a.1 == 4) || decide (a.2.1 ≤ a.2.2.1)
theorem fit_of {l : List Int.Mk} (h : fitB l = true) : Int.Fit l := by
  intro a ha hd
  have := List.all_eq_true.1 h a ha
  simp only [Bool.or_eq_true, Bool.not_eq_true', Bool.or_eq_false_iff, beq_eq_false_iff_ne, decide_eq_true_eq] at this
  rcases this with q | q
  · rcases hd with e | e | e
    · exact absurd e q.1.1
    · exact absurd e q.1.2
    · exact absurd e q.2
  · exact q
def impl_IntervalRun.f (l0 : List (S25)) : Option (List (S32)) :=
  if l0.length ≤ 1099511627776 then (if fitB (l0.map mk_of) = true then some ((Int.toldT .nil (l0.map mk_of)).map found_of) else none) else none
theorem impl_IntervalRun.calls (A0 : Option Addr) (c0 : Nat) (l0 : List (S25)) (r : List (S32)) (w : World) (hr0 : Kd.C k25 w A0 l0.length l0) (hc0 : l0.length ≤ c0) (h : impl_IntervalRun.f l0 = some r) :
    Calls Try.prog 11 #[.slice A0 l0.length c0] w fun e w' => ∃ v0_ : Value, e = .returned (v0_) ∧ Kd.S k32 32 w' w.heap.size (fun _ => True) v0_ r ∧ Below w.heap.size w w' := by
  unfold impl_IntervalRun.f at h
  by_cases q1 : l0.length ≤ 1099511627776
  · rw [if_pos q1] at h
    by_cases q2 : fitB (l0.map mk_of) = true
    · rw [if_pos q2] at h
      obtain rfl := Option.some.inj h
      have hl : (l0.map mk_of).length = l0.length := List.length_map ..
      have hC : Kd.C Int.markK w A0 (l0.map mk_of).length (l0.map mk_of) := by rw [hl]; exact Row.C_iso hr0
      have H := Int.IntervalRun_any A0 c0 (l0.map mk_of) w hC (by rw [hl]; exact q1) (fit_of q2)
      rw [hl] at H
      refine H.mono ?_
      rintro e w' ⟨v, he, hS, hB⟩
      exact ⟨v, he, S_map (d := Int.foundK) (d' := k32) (g := found_of) rfl found_map hS, hB⟩
    · rw [if_neg q2] at h; cases h
  · rw [if_neg q1] at h; cases h

/-! ### laws_spanLast: function 15 -/
def laws_spanLast.f (l0 : List (S25)) (l1 : List (S25)) : Option (Int × Int × Int × Bool × (List (S29)) × Int × Bool) := (some (([] : List (S25)) : List (S25))).bind fun y133 => (if y133.length + l0.length < 4398046511104 then ((some (y133 ++ l0 : List (S25))).bind fun y136 => (if y136.length + l1.length < 4398046511104 then ((some (y136 ++ l1 : List (S25))).bind fun y139 => ((impl_IntervalRun.f y139).bind fun t142 => (if (t142.length : Int) = (y139.length : Int) then (if (t142.length : Int) = 0 then (some (0, 0, 0, false, ([] : List (S29)), 0, false)) else (if 0 ≤ (wrap64 ((t142.length : Int) - 1)) then (if (wrap64 ((t142.length : Int) - 1)) < (t142.length : Int) then (some ((rd_T32 t142 (wrap64 ((t142.length : Int) - 1))).f0.f0, (rd_T32 t142 (wrap64 ((t142.length : Int) - 1))).f0.f1, (rd_T32 t142 (wrap64 ((t142.length : Int) - 1))).f0.f2, (rd_T32 t142 (wrap64 ((t142.length : Int) - 1))).f1, (rd_T32 t142 (wrap64 ((t142.length : Int) - 1))).f2, (rd_T32 t142 (wrap64 ((t142.length : Int) - 1))).f3, true)) else (none)) else (none))) else (some (0, 0, 0, false, ([] : List (S29)), 0, false))))) else (none))) else (none))
set_option maxHeartbeats 8000000 in
set_option maxRecDepth 100000 in
theorem laws_spanLast.calls (A0 : Option Addr) (c0 : Nat) (l0 : List (S25)) (A1 : Option Addr) (c1 : Nat) (l1 : List (S25)) (r1 : Int) (r2 : Int) (r3 : Int) (r4 : Bool) (r5 : List (S29)) (r6 : Int) (r7 : Bool) (w : World) (hr0 : Kd.C k25 w A0 l0.length l0) (hc0 : l0.length ≤ c0) (hr1 : Kd.C k25 w A1 l1.length l1) (hc1 : l1.length ≤ c1) (h : laws_spanLast.f l0 l1 = some (r1, r2, r3, r4, r5, r6, r7)) :
    Calls Try.prog 15 #[.slice A0 l0.length c0, .slice A1 l1.length c1] w fun e w' => ∃ v4_ : Value, e = .returned (.tuple #[.agg #[.int .i64 r1, .int .i64 r2, .int .i64 r3, .bool r4, v4_, .int .i64 r6], .bool r7]) ∧ Kd.R k29 29 w' w.heap.size (fun _ => True) v4_ r5 ∧ Below w.heap.size w w' := by
  have hu32 := Try.underlying32
  have HR0 := Aside0.mk hr0
  have HC0 := Aside0.mk hc0
  clear hr0 hc0
  have HR1 := Aside0.mk hr1
  have HC1 := Aside0.mk hc1
  clear hr1 hc1
  have HB := Aside0.mk (Below.refl w.heap.size w)
  have H : ((some (([] : List (S25)) : List (S25))).bind fun y133 => (if y133.length + l0.length < 4398046511104 then ((some (y133 ++ l0 : List (S25))).bind fun y136 => (if y136.length + l1.length < 4398046511104 then ((some (y136 ++ l1 : List (S25))).bind fun y139 => ((impl_IntervalRun.f y139).bind fun t142 => (if (t142.length : Int) = (y139.length : Int) then (if (t142.length : Int) = 0 then (some (0, 0, 0, false, ([] : List (S29)), 0, false)) else (if 0 ≤ (wrap64 ((t142.length : Int) - 1)) then (if (wrap64 ((t142.length : Int) - 1)) < (t142.length : Int) then (some ((rd_T32 t142 (wrap64 ((t142.length : Int) - 1))).f0.f0, (rd_T32 t142 (wrap64 ((t142.length : Int) - 1))).f0.f1, (rd_T32 t142 (wrap64 ((t142.length : Int) - 1))).f0.f2, (rd_T32 t142 (wrap64 ((t142.length : Int) - 1))).f1, (rd_T32 t142 (wrap64 ((t142.length : Int) - 1))).f2, (rd_T32 t142 (wrap64 ((t142.length : Int) - 1))).f3, true)) else (none)) else (none))) else (some (0, 0, 0, false, ([] : List (S29)), 0, false))))) else (none))) else (none))) = some (r1, r2, r3, r4, r5, r6, r7) := h
  clear h
  obtain ⟨y133, hy133⟩ : ∃ y_ : List (S25), y_ = (([] : List (S25))) := ⟨_, rfl⟩
  replace H : (if y133.length + l0.length < 4398046511104 then ((some (y133 ++ l0 : List (S25))).bind fun y136 => (if y136.length + l1.length < 4398046511104 then ((some (y136 ++ l1 : List (S25))).bind fun y139 => ((impl_IntervalRun.f y139).bind fun t142 => (if (t142.length : Int) = (y139.length : Int) then (if (t142.length : Int) = 0 then (some (0, 0, 0, false, ([] : List (S29)), 0, false)) else (if 0 ≤ (wrap64 ((t142.length : Int) - 1)) then (if (wrap64 ((t142.length : Int) - 1)) < (t142.length : Int) then (some ((rd_T32 t142 (wrap64 ((t142.length : Int) - 1))).f0.f0, (rd_T32 t142 (wrap64 ((t142.length : Int) - 1))).f0.f1, (rd_T32 t142 (wrap64 ((t142.length : Int) - 1))).f0.f2, (rd_T32 t142 (wrap64 ((t142.length : Int) - 1))).f1, (rd_T32 t142 (wrap64 ((t142.length : Int) - 1))).f2, (rd_T32 t142 (wrap64 ((t142.length : Int) - 1))).f3, true)) else (none)) else (none))) else (some (0, 0, 0, false, ([] : List (S29)), 0, false))))) else (none))) else (none)) = some (r1, r2, r3, r4, r5, r6, r7) := by first | (rw [hy133]; with_reducible exact H) | (have H2_ := (Option.bind_some _ _).symm.trans H; rw [hy133]; with_reducible exact H2_) | (have H2_ := (Option.bind_some _ _).symm.trans H; with_reducible exact H2_) | with_reducible exact H | (rw [hy133]; exact H) | exact H
  have Ny133 := Aside0.mk hy133
  clear hy133
  by_cases c3 : y133.length + l0.length < 4398046511104
  · rw [if_pos c3] at H
    have LMc3 := Aside0.mk c3
    clear c3
    obtain ⟨y136, hy136⟩ : ∃ y_ : List (S25), y_ = (y133 ++ l0) := ⟨_, rfl⟩
    replace H : (if y136.length + l1.length < 4398046511104 then ((some (y136 ++ l1 : List (S25))).bind fun y139 => ((impl_IntervalRun.f y139).bind fun t142 => (if (t142.length : Int) = (y139.length : Int) then (if (t142.length : Int) = 0 then (some (0, 0, 0, false, ([] : List (S29)), 0, false)) else (if 0 ≤ (wrap64 ((t142.length : Int) - 1)) then (if (wrap64 ((t142.length : Int) - 1)) < (t142.length : Int) then (some ((rd_T32 t142 (wrap64 ((t142.length : Int) - 1))).f0.f0, (rd_T32 t142 (wrap64 ((t142.length : Int) - 1))).f0.f1, (rd_T32 t142 (wrap64 ((t142.length : Int) - 1))).f0.f2, (rd_T32 t142 (wrap64 ((t142.length : Int) - 1))).f1, (rd_T32 t142 (wrap64 ((t142.length : Int) - 1))).f2, (rd_T32 t142 (wrap64 ((t142.length : Int) - 1))).f3, true)) else (none)) else (none))) else (some (0, 0, 0, false, ([] : List (S29)), 0, false))))) else (none)) = some (r1, r2, r3, r4, r5, r6, r7) := by first | (rw [hy136]; with_reducible exact H) | (have H2_ := (Option.bind_some _ _).symm.trans H; rw [hy136]; with_reducible exact H2_) | (have H2_ := (Option.bind_some _ _).symm.trans H; with_reducible exact H2_) | with_reducible exact H | (rw [hy136]; exact H) | exact H
    have Ny136 := Aside0.mk hy136
    clear hy136
    by_cases c4 : y136.length + l1.length < 4398046511104
    · rw [if_pos c4] at H
      have LMc4 := Aside0.mk c4
      clear c4
      obtain ⟨y139, hy139⟩ : ∃ y_ : List (S25), y_ = (y136 ++ l1) := ⟨_, rfl⟩
      replace H : ((impl_IntervalRun.f y139).bind fun t142 => (if (t142.length : Int) = (y139.length : Int) then (if (t142.length : Int) = 0 then (some (0, 0, 0, false, ([] : List (S29)), 0, false)) else (if 0 ≤ (wrap64 ((t142.length : Int) - 1)) then (if (wrap64 ((t142.length : Int) - 1)) < (t142.length : Int) then (some ((rd_T32 t142 (wrap64 ((t142.length : Int) - 1))).f0.f0, (rd_T32 t142 (wrap64 ((t142.length : Int) - 1))).f0.f1, (rd_T32 t142 (wrap64 ((t142.length : Int) - 1))).f0.f2, (rd_T32 t142 (wrap64 ((t142.length : Int) - 1))).f1, (rd_T32 t142 (wrap64 ((t142.length : Int) - 1))).f2, (rd_T32 t142 (wrap64 ((t142.length : Int) - 1))).f3, true)) else (none)) else (none))) else (some (0, 0, 0, false, ([] : List (S29)), 0, false)))) = some (r1, r2, r3, r4, r5, r6, r7) := by first | (rw [hy139]; with_reducible exact H) | (have H2_ := (Option.bind_some _ _).symm.trans H; rw [hy139]; with_reducible exact H2_) | (have H2_ := (Option.bind_some _ _).symm.trans H; with_reducible exact H2_) | with_reducible exact H | (rw [hy139]; exact H) | exact H
      have Ny139 := Aside0.mk hy139
      clear hy139
      replace H := Option.bind_eq_some_iff.mp H
      obtain ⟨t142, A50, H⟩ := H
      replace H : (if (t142.length : Int) = (y139.length : Int) then (if (t142.length : Int) = 0 then (some (0, 0, 0, false, ([] : List (S29)), 0, false)) else (if 0 ≤ (wrap64 ((t142.length : Int) - 1)) then (if (wrap64 ((t142.length : Int) - 1)) < (t142.length : Int) then (some ((rd_T32 t142 (wrap64 ((t142.length : Int) - 1))).f0.f0, (rd_T32 t142 (wrap64 ((t142.length : Int) - 1))).f0.f1, (rd_T32 t142 (wrap64 ((t142.length : Int) - 1))).f0.f2, (rd_T32 t142 (wrap64 ((t142.length : Int) - 1))).f1, (rd_T32 t142 (wrap64 ((t142.length : Int) - 1))).f2, (rd_T32 t142 (wrap64 ((t142.length : Int) - 1))).f3, true)) else (none)) else (none))) else (some (0, 0, 0, false, ([] : List (S29)), 0, false))) = some (r1, r2, r3, r4, r5, r6, r7) := H
      have A5 := Aside0.mk A50
      clear A50
      by_cases c6 : (t142.length : Int) = (y139.length : Int)
      · rw [if_pos c6] at H
        have c6b0 : ((t142.length : Int) == (y139.length : Int)) = true := beq_iff_eq.mpr c6
        have c6b1 : ((t142.length : Int) != (y139.length : Int)) = false := bne_eq_false_iff_eq.mpr c6
        have c6b2 : (t142.length == y139.length) = true := by first | simpa using c6 | (simp at c6 ⊢; omega)
        clear c6
        by_cases c7 : (t142.length : Int) = 0
        · rw [if_pos c7] at H
          have c7b0 : ((t142.length : Int) == 0) = true := beq_iff_eq.mpr c7
          have c7b1 : ((t142.length : Int) != 0) = false := bne_eq_false_iff_eq.mpr c7
          clear c7
          simp only [Option.some.injEq, Prod.mk.injEq] at H
          obtain ⟨rfl, rfl, rfl, rfl, rfl, rfl, rfl⟩ := H
          go_enter Try.func15, Try.ntmps15
          go_wp2_with (first | ((with_reducible refine gate_dst (N := 4) rfl ?_); (try (refine gate_guard (by rfl) ?_; dsimp only)); refine box_event ?hg (N := 4) ?hd (cs := #[.int .i64 0, .int .i64 0, .int .i64 0, .bool false, .slice none 0 0, .int .i64 0]) (t := 32) ?hr ?_; (case hd => rfl); (case hg => rfl); (case hr => first | (go_simp; done) | (go_simp; rfl)); intro gb132 hg w8 hbox hb; have n0_ := Aside0.mk (below_step (by repeat (first | (with_reducible first | exact HB.out | apply below_alloc | apply pw_below_drewN | apply below_drew1) | exact HB.out)) hb); have n1_ := Aside0.mk (hbox); have n2_ := Aside0.mk ((by rw [hg]; exact (below_size (by repeat (first | (with_reducible first | exact HB.out | apply below_alloc | apply pw_below_drewN | apply below_drew1) | exact HB.out))) : w.heap.size ≤ gb132)); have n3_ := Aside0.mk ((by rw [hg]; exact (below_size (by repeat (first | (with_reducible first | exact HB.out | apply below_alloc | apply pw_below_drewN | apply below_drew1) | exact HB.out))) : w.heap.size ≤ gb132)); clear HB; have HB := n0_; have BK132 := n1_; have GW132 := n2_; have GE132 := n3_; clear n0_ n1_ n2_ n3_; clear hb hbox hg) | ((with_reducible refine gate_dst (N := 8) rfl ?_); (try (refine gate_guard (by rfl) ?_; dsimp only)); refine Kd.R_lit k25 _ 25 ?hg (N := 8) ?hd (xs := ([] : List (S25))) (inner := []) (ok := fun _ => True) (okp := fun _ => True) ?hr ?hp (fun _ hk => hk) trivial (Below.refl _ _) (Nat.le_refl _) (by simp) ?_; (case hd => rfl); (case hg => rfl); (case hr => first | (go_simp; done) | (go_simp; rfl)); (case hp => exact (Reps.none _ _)); intro v134 w9 ho10 hb hg_ hnew_; clear hg_ hnew_; (first | rw [← Ny133.out] at ho10 | (simp only [Int.reduceToNat] at ho10; rw [← Ny133.out] at ho10)); have n0_ := Aside0.mk (Kd.R_lower ho10 (below_size (by repeat (first | (with_reducible first | exact HB.out | apply below_alloc | apply pw_below_drewN | apply below_drew1 | refine below_set ?_ GE132.out) | exact HB.out)))); have n1_ := Aside0.mk (blk_below (g := gb132) (o := .cells #[.int .i64 0, .int .i64 0, .int .i64 0, .bool false, .slice none 0 0, .int .i64 0] 32 (0, 0)) (by (with_reducible repeat (first | refine blk_drewN ?_ _ | refine blk_drew ?_ | refine blk_alloc ?_ _)); exact BK132.out) hb); have n2_ := Aside0.mk (below_step (by repeat (first | (with_reducible first | exact HB.out | apply below_alloc | apply pw_below_drewN | apply below_drew1 | refine below_set ?_ GE132.out) | exact HB.out)) hb); clear BK132; clear HB; have HO135 := n0_; have BK132 := n1_; have HB := n2_; clear n0_ n1_ n2_; clear hb ho10) | ((with_reducible refine gate_builtin (b := .append) (xs := #[.tmp 8, .tmp 9]) rfl ?_); (try (refine gate_guard (by rfl) ?_; dsimp only)); at_builtin; refine Kd.R_append_rows k25 (w0 := w) w.heap.size rfl (.tmp 8) (.tmp 9) 22 25 (.agg #[(.int .i64 0), (.int .i64 0), (.int .i64 0), (.int .i64 0)]) 32 rfl Try.underlying22 info25 rfl (by decide) (by omega) v134 y133 l0 _ _ _ (fun _ => True) (fun _ => False) rfl rfl ?aO ?aR (fun _ _ h => h) (fun _ h => h.elim) ?aF ?aB ?aS ?aL ?_; (case aR => repeat (first | exact (Kd.C_below HR0.out HB.out) | (with_reducible refine Kd.C_alloc ?_ _) | (with_reducible refine Kd.C_drewN ?_ _) | (with_reducible refine Kd.C_drew ?_))); (case aB => exact (by repeat (first | (with_reducible first | exact HB.out | apply below_alloc | apply pw_below_drewN | apply below_drew1 | refine below_set ?_ GE132.out) | exact HB.out))); (case aF => exact (fun _ _ => trivial)); (case aO => exact (by (with_reducible repeat (first | apply Kd.R_alloc | apply Kd.R_drewN | apply Kd.R_drew)); exact HO135.out)); (case aS => exact (below_size (by repeat (first | (with_reducible first | exact HB.out | apply below_alloc | apply pw_below_drewN | apply below_drew1 | refine below_set ?_ GE132.out) | exact HB.out)))); (case aL => have := LMc3.out; omega); intro v137 w11 ho hb hg hat; rw [← Ny136.out] at ho; have n0_ := Aside0.mk (blk_grown (g := gb132) (o := .cells #[.int .i64 0, .int .i64 0, .int .i64 0, .bool false, .slice none 0 0, .int .i64 0] 32 (0, 0)) (by (with_reducible repeat (first | refine blk_drewN ?_ _ | refine blk_drew ?_ | refine blk_alloc ?_ _)); exact BK132.out) hg (Kd.R_ne HO135.out BK132.out (by decide))); have n1_ := Aside0.mk (hb); have n2_ := Aside0.mk (ho); clear BK132; clear HB; clear HO135; have BK132 := n0_; have HB := n1_; have HO138 := n2_; clear n0_ n1_ n2_; clear ho hb hg hat) | ((with_reducible refine gate_builtin (b := .append) (xs := #[.tmp 10, .tmp 11]) rfl ?_); (try (refine gate_guard (by rfl) ?_; dsimp only)); at_builtin; refine Kd.R_append_rows k25 (w0 := w) w.heap.size rfl (.tmp 10) (.tmp 11) 22 25 (.agg #[(.int .i64 0), (.int .i64 0), (.int .i64 0), (.int .i64 0)]) 32 rfl Try.underlying22 info25 rfl (by decide) (by omega) v137 y136 l1 _ _ _ (fun _ => True) (fun _ => False) rfl rfl ?aO ?aR (fun _ _ h => h) (fun _ h => h.elim) ?aF ?aB ?aS ?aL ?_; (case aR => repeat (first | exact (Kd.C_below HR1.out HB.out) | (with_reducible refine Kd.C_alloc ?_ _) | (with_reducible refine Kd.C_drewN ?_ _) | (with_reducible refine Kd.C_drew ?_))); (case aB => exact (by repeat (first | (with_reducible first | exact HB.out | apply below_alloc | apply pw_below_drewN | apply below_drew1 | refine below_set ?_ GE132.out) | exact HB.out))); (case aF => exact (fun _ _ => trivial)); (case aO => exact (by (with_reducible repeat (first | apply Kd.R_alloc | apply Kd.R_drewN | apply Kd.R_drew)); exact HO138.out)); (case aS => exact (below_size (by repeat (first | (with_reducible first | exact HB.out | apply below_alloc | apply pw_below_drewN | apply below_drew1 | refine below_set ?_ GE132.out) | exact HB.out)))); (case aL => have := LMc4.out; omega); intro v140 w12 ho hb hg hat; rw [← Ny139.out] at ho; have n0_ := Aside0.mk (blk_grown (g := gb132) (o := .cells #[.int .i64 0, .int .i64 0, .int .i64 0, .bool false, .slice none 0 0, .int .i64 0] 32 (0, 0)) (by (with_reducible repeat (first | refine blk_drewN ?_ _ | refine blk_drew ?_ | refine blk_alloc ?_ _)); exact BK132.out) hg (Kd.R_ne HO138.out BK132.out (by decide))); have n1_ := Aside0.mk (hb); have n2_ := Aside0.mk (ho); clear BK132; clear HB; clear HO138; have BK132 := n0_; have HB := n1_; have HO141 := n2_; clear n0_ n1_ n2_; clear ho hb hg hat; obtain ⟨Ao13, co13, eo13⟩ := Kd.R_slice HO141.out; subst eo13) | ((with_reducible refine gate_callee (f := 11) rfl ?_); refine goesL_ (some 14) rfl rfl Try.func11 (by kernel_rfl) rfl #[.slice Ao13 y139.length co13] rfl (by (try simp only [List.map_toArray, List.map_cons, List.map_nil]); first | done | rfl | (simp only [List.length_drop, List.length_take]; rfl)) ?_; (with_reducible refine (impl_IntervalRun.calls _ _ y139 t142 _ ?side1 ?side2 A5.out).mono ?_); (case side1 => repeat (first | exact (Kd.R_reads' HO141.out).2.2 | (with_reducible refine Kd.C_alloc ?_ _) | (with_reducible refine Kd.C_drewN ?_ _) | (with_reducible refine Kd.C_drew ?_))); (case side2 => exact (Kd.R_reads' HO141.out).2.1); rintro e w14 ⟨v143, rfl, ho0, hb⟩; refine ⟨_, rfl, ?_⟩; have n0_ := Aside0.mk (Kd.R_below (by (with_reducible repeat (first | apply Kd.R_alloc | apply Kd.R_drewN | apply Kd.R_drew)); exact HO141.out) hb); have n1_ := Aside0.mk (Kd.S_lower (Kd.S_newB ho0 (g := gb132) (o := .cells #[.int .i64 0, .int .i64 0, .int .i64 0, .bool false, .slice none 0 0, .int .i64 0] 32 (0, 0)) (by (with_reducible repeat (first | refine blk_drewN ?_ _ | refine blk_drew ?_ | refine blk_alloc ?_ _)); exact BK132.out)) (below_size (by repeat (first | (with_reducible first | exact HB.out | apply below_alloc | apply pw_below_drewN | apply below_drew1 | refine below_set ?_ GE132.out) | exact HB.out)))); have n2_ := Aside0.mk (blk_below (g := gb132) (o := .cells #[.int .i64 0, .int .i64 0, .int .i64 0, .bool false, .slice none 0 0, .int .i64 0] 32 (0, 0)) (by (with_reducible repeat (first | refine blk_drewN ?_ _ | refine blk_drew ?_ | refine blk_alloc ?_ _)); exact BK132.out) hb); have n3_ := Aside0.mk (below_step (by repeat (first | (with_reducible first | exact HB.out | apply below_alloc | apply pw_below_drewN | apply below_drew1 | refine below_set ?_ GE132.out) | exact HB.out)) hb); clear HO141; clear BK132; clear HB; have HO141 := n0_; have HO144 := n1_; have BK132 := n2_; have HB := n3_; clear n0_ n1_ n2_ n3_; (try clear hb); (try clear hb2); (try clear hk); (try clear hi); (try clear ho0); obtain ⟨Ao15, co15, eo15⟩ := Kd.S_slice HO144.out; subst eo15; have hcz16_0 : w14.cell? ⟨gb132, 0, none⟩ = some (.int .i64 0) := (blk_cell BK132.out 0).trans rfl; have hcz16_1 : w14.cell? ⟨gb132, 1, none⟩ = some (.int .i64 0) := (blk_cell BK132.out 1).trans rfl; have hcz16_2 : w14.cell? ⟨gb132, 2, none⟩ = some (.int .i64 0) := (blk_cell BK132.out 2).trans rfl; have hcz16_3 : w14.cell? ⟨gb132, 3, none⟩ = some (.bool false) := (blk_cell BK132.out 3).trans rfl; have hcz16_4 : w14.cell? ⟨gb132, 4, none⟩ = some (.slice none 0 0) := (blk_cell BK132.out 4).trans rfl; have hcz16_5 : w14.cell? ⟨gb132, 5, none⟩ = some (.int .i64 0) := (blk_cell BK132.out 5).trans rfl; have hfz16_0 := blk_frozen BK132.out 0; have hfz16_1 := blk_frozen BK132.out 1; have hfz16_2 := blk_frozen BK132.out 2; have hfz16_3 := blk_frozen BK132.out 3; have hfz16_4 := blk_frozen BK132.out 4; have hfz16_5 := blk_frozen BK132.out 5))
          refine bodyPost_ret (results_ct rfl _ _ gb132 32 #[.int .i64 0, .int .i64 0, .int .i64 0, .bool false, .slice none 0 0, .int .i64 0] (0, 0) _ rfl (by (with_reducible repeat (first | refine blk_drewN ?_ _ | refine blk_drew ?_ | refine blk_alloc ?_ _)); refine blk_put (cs := #[.int .i64 0, .int .i64 0, .int .i64 0, .bool false, .slice none 0 0, .int .i64 0]) ?_ 5 _ rfl; (with_reducible repeat (first | refine blk_drewN ?_ _ | refine blk_drew ?_ | refine blk_alloc ?_ _)); refine blk_put (cs := #[.int .i64 0, .int .i64 0, .int .i64 0, .bool false, .slice none 0 0, .int .i64 0]) ?_ 4 _ rfl; (with_reducible repeat (first | refine blk_drewN ?_ _ | refine blk_drew ?_ | refine blk_alloc ?_ _)); refine blk_put (cs := #[.int .i64 0, .int .i64 0, .int .i64 0, .bool false, .slice none 0 0, .int .i64 0]) ?_ 3 _ rfl; (with_reducible repeat (first | refine blk_drewN ?_ _ | refine blk_drew ?_ | refine blk_alloc ?_ _)); refine blk_put (cs := #[.int .i64 0, .int .i64 0, .int .i64 0, .bool false, .slice none 0 0, .int .i64 0]) ?_ 2 _ rfl; (with_reducible repeat (first | refine blk_drewN ?_ _ | refine blk_drew ?_ | refine blk_alloc ?_ _)); refine blk_put (cs := #[.int .i64 0, .int .i64 0, .int .i64 0, .bool false, .slice none 0 0, .int .i64 0]) ?_ 1 _ rfl; (with_reducible repeat (first | refine blk_drewN ?_ _ | refine blk_drew ?_ | refine blk_alloc ?_ _)); refine blk_put (cs := #[.int .i64 0, .int .i64 0, .int .i64 0, .bool false, .slice none 0 0, .int .i64 0]) ?_ 0 _ rfl; (with_reducible repeat (first | refine blk_drewN ?_ _ | refine blk_drew ?_ | refine blk_alloc ?_ _)); exact BK132.out) Try.underlying32 rfl (by kernel_rfl)) rfl ?_
          exact ⟨_, by first | rfl | (simp [errW_none, errW_some] <;> rfl) | (simp [*, errW_none, errW_some] <;> rfl), by first | exact Kd.R_nil _ _ _ _ _ | exact Kd.N_nil _ _ _ _ _ | exact Kd.V_nil _ _ _ _ _ | exact Kd.Q_nil _ _ _ _ _ | exact Kd.S_nil _ _ _ _ _, by repeat (first | (with_reducible first | exact HB.out | apply below_alloc | apply pw_below_drewN | apply below_drew1 | refine below_set ?_ GE132.out) | exact HB.out)⟩
        · rw [if_neg c7] at H
          have c7b0 : ((t142.length : Int) == 0) = false := beq_eq_false_iff_ne.mpr c7
          have c7b1 : ((t142.length : Int) != 0) = true := bne_iff_ne.mpr c7
          have c7b2 : ¬ (t142 = []) := fun h_ => c7 (by rw [h_]; rfl)
          obtain ⟨ji17, hji17⟩ : ∃ j_ : Int, (wrap64 ((t142.length : Int) - 1)) = j_ := ⟨_, rfl⟩
          replace H : (if 0 ≤ (ji17) then (if (ji17) < (t142.length : Int) then (some ((rd_T32 t142 (ji17)).f0.f0, (rd_T32 t142 (ji17)).f0.f1, (rd_T32 t142 (ji17)).f0.f2, (rd_T32 t142 (ji17)).f1, (rd_T32 t142 (ji17)).f2, (rd_T32 t142 (ji17)).f3, true)) else (none)) else (none)) = some (r1, r2, r3, r4, r5, r6, r7) := by first | (rw [hji17] at H; exact H) | (simp only [hji17] at H ⊢; exact H)
          (try rw [hji17] at A5)
          have hji17w : (IntKind.i64.wrap ((t142.length : Int) - 1)) = ji17 := (i64_w _).trans hji17
          by_cases c18 : 0 ≤ (ji17)
          · rw [if_pos c18] at H
            have c18b0 : decide (0 ≤ (ji17)) = true := decide_eq_true c18
            clear c18
            by_cases c19 : (ji17) < (t142.length : Int)
            · rw [if_pos c19] at H
              have c19b0 : decide ((ji17) < (t142.length : Int)) = true := decide_eq_true c19
              clear c19
              simp only [Option.some.injEq, Prod.mk.injEq] at H
              obtain ⟨rfl, rfl, rfl, rfl, rfl, rfl, rfl⟩ := H
              go_enter Try.func15, Try.ntmps15
              go_wp2_with (first | ((with_reducible refine gate_dst (N := 4) rfl ?_); (try (refine gate_guard (by rfl) ?_; dsimp only)); refine box_event ?hg (N := 4) ?hd (cs := #[.int .i64 0, .int .i64 0, .int .i64 0, .bool false, .slice none 0 0, .int .i64 0]) (t := 32) ?hr ?_; (case hd => rfl); (case hg => rfl); (case hr => first | (go_simp; done) | (go_simp; rfl)); intro gb132 hg w20 hbox hb; have n0_ := Aside0.mk (below_step (by repeat (first | (with_reducible first | exact HB.out | apply below_alloc | apply pw_below_drewN | apply below_drew1) | exact HB.out)) hb); have n1_ := Aside0.mk (hbox); have n2_ := Aside0.mk ((by rw [hg]; exact (below_size (by repeat (first | (with_reducible first | exact HB.out | apply below_alloc | apply pw_below_drewN | apply below_drew1) | exact HB.out))) : w.heap.size ≤ gb132)); have n3_ := Aside0.mk ((by rw [hg]; exact (below_size (by repeat (first | (with_reducible first | exact HB.out | apply below_alloc | apply pw_below_drewN | apply below_drew1) | exact HB.out))) : w.heap.size ≤ gb132)); clear HB; have HB := n0_; have BK132 := n1_; have GW132 := n2_; have GE132 := n3_; clear n0_ n1_ n2_ n3_; clear hb hbox hg) | ((with_reducible refine gate_dst (N := 8) rfl ?_); (try (refine gate_guard (by rfl) ?_; dsimp only)); refine Kd.R_lit k25 _ 25 ?hg (N := 8) ?hd (xs := ([] : List (S25))) (inner := []) (ok := fun _ => True) (okp := fun _ => True) ?hr ?hp (fun _ hk => hk) trivial (Below.refl _ _) (Nat.le_refl _) (by simp) ?_; (case hd => rfl); (case hg => rfl); (case hr => first | (go_simp; done) | (go_simp; rfl)); (case hp => exact (Reps.none _ _)); intro v134 w21 ho22 hb hg_ hnew_; clear hg_ hnew_; (first | rw [← Ny133.out] at ho22 | (simp only [Int.reduceToNat] at ho22; rw [← Ny133.out] at ho22)); have n0_ := Aside0.mk (Kd.R_lower ho22 (below_size (by repeat (first | (with_reducible first | exact HB.out | apply below_alloc | apply pw_below_drewN | apply below_drew1 | refine below_set ?_ GE132.out) | exact HB.out)))); have n1_ := Aside0.mk (blk_below (g := gb132) (o := .cells #[.int .i64 0, .int .i64 0, .int .i64 0, .bool false, .slice none 0 0, .int .i64 0] 32 (0, 0)) (by (with_reducible repeat (first | refine blk_drewN ?_ _ | refine blk_drew ?_ | refine blk_alloc ?_ _)); exact BK132.out) hb); have n2_ := Aside0.mk (below_step (by repeat (first | (with_reducible first | exact HB.out | apply below_alloc | apply pw_below_drewN | apply below_drew1 | refine below_set ?_ GE132.out) | exact HB.out)) hb); clear BK132; clear HB; have HO135 := n0_; have BK132 := n1_; have HB := n2_; clear n0_ n1_ n2_; clear hb ho22) | ((with_reducible refine gate_builtin (b := .append) (xs := #[.tmp 8, .tmp 9]) rfl ?_); (try (refine gate_guard (by rfl) ?_; dsimp only)); at_builtin; refine Kd.R_append_rows k25 (w0 := w) w.heap.size rfl (.tmp 8) (.tmp 9) 22 25 (.agg #[(.int .i64 0), (.int .i64 0), (.int .i64 0), (.int .i64 0)]) 32 rfl Try.underlying22 info25 rfl (by decide) (by omega) v134 y133 l0 _ _ _ (fun _ => True) (fun _ => False) rfl rfl ?aO ?aR (fun _ _ h => h) (fun _ h => h.elim) ?aF ?aB ?aS ?aL ?_; (case aR => repeat (first | exact (Kd.C_below HR0.out HB.out) | (with_reducible refine Kd.C_alloc ?_ _) | (with_reducible refine Kd.C_drewN ?_ _) | (with_reducible refine Kd.C_drew ?_))); (case aB => exact (by repeat (first | (with_reducible first | exact HB.out | apply below_alloc | apply pw_below_drewN | apply below_drew1 | refine below_set ?_ GE132.out) | exact HB.out))); (case aF => exact (fun _ _ => trivial)); (case aO => exact (by (with_reducible repeat (first | apply Kd.R_alloc | apply Kd.R_drewN | apply Kd.R_drew)); exact HO135.out)); (case aS => exact (below_size (by repeat (first | (with_reducible first | exact HB.out | apply below_alloc | apply pw_below_drewN | apply below_drew1 | refine below_set ?_ GE132.out) | exact HB.out)))); (case aL => have := LMc3.out; omega); intro v137 w23 ho hb hg hat; rw [← Ny136.out] at ho; have n0_ := Aside0.mk (blk_grown (g := gb132) (o := .cells #[.int .i64 0, .int .i64 0, .int .i64 0, .bool false, .slice none 0 0, .int .i64 0] 32 (0, 0)) (by (with_reducible repeat (first | refine blk_drewN ?_ _ | refine blk_drew ?_ | refine blk_alloc ?_ _)); exact BK132.out) hg (Kd.R_ne HO135.out BK132.out (by decide))); have n1_ := Aside0.mk (hb); have n2_ := Aside0.mk (ho); clear BK132; clear HB; clear HO135; have BK132 := n0_; have HB := n1_; have HO138 := n2_; clear n0_ n1_ n2_; clear ho hb hg hat) | ((with_reducible refine gate_builtin (b := .append) (xs := #[.tmp 10, .tmp 11]) rfl ?_); (try (refine gate_guard (by rfl) ?_; dsimp only)); at_builtin; refine Kd.R_append_rows k25 (w0 := w) w.heap.size rfl (.tmp 10) (.tmp 11) 22 25 (.agg #[(.int .i64 0), (.int .i64 0), (.int .i64 0), (.int .i64 0)]) 32 rfl Try.underlying22 info25 rfl (by decide) (by omega) v137 y136 l1 _ _ _ (fun _ => True) (fun _ => False) rfl rfl ?aO ?aR (fun _ _ h => h) (fun _ h => h.elim) ?aF ?aB ?aS ?aL ?_; (case aR => repeat (first | exact (Kd.C_below HR1.out HB.out) | (with_reducible refine Kd.C_alloc ?_ _) | (with_reducible refine Kd.C_drewN ?_ _) | (with_reducible refine Kd.C_drew ?_))); (case aB => exact (by repeat (first | (with_reducible first | exact HB.out | apply below_alloc | apply pw_below_drewN | apply below_drew1 | refine below_set ?_ GE132.out) | exact HB.out))); (case aF => exact (fun _ _ => trivial)); (case aO => exact (by (with_reducible repeat (first | apply Kd.R_alloc | apply Kd.R_drewN | apply Kd.R_drew)); exact HO138.out)); (case aS => exact (below_size (by repeat (first | (with_reducible first | exact HB.out | apply below_alloc | apply pw_below_drewN | apply below_drew1 | refine below_set ?_ GE132.out) | exact HB.out)))); (case aL => have := LMc4.out; omega); intro v140 w24 ho hb hg hat; rw [← Ny139.out] at ho; have n0_ := Aside0.mk (blk_grown (g := gb132) (o := .cells #[.int .i64 0, .int .i64 0, .int .i64 0, .bool false, .slice none 0 0, .int .i64 0] 32 (0, 0)) (by (with_reducible repeat (first | refine blk_drewN ?_ _ | refine blk_drew ?_ | refine blk_alloc ?_ _)); exact BK132.out) hg (Kd.R_ne HO138.out BK132.out (by decide))); have n1_ := Aside0.mk (hb); have n2_ := Aside0.mk (ho); clear BK132; clear HB; clear HO138; have BK132 := n0_; have HB := n1_; have HO141 := n2_; clear n0_ n1_ n2_; clear ho hb hg hat; obtain ⟨Ao25, co25, eo25⟩ := Kd.R_slice HO141.out; subst eo25) | ((with_reducible refine gate_callee (f := 11) rfl ?_); refine goesL_ (some 14) rfl rfl Try.func11 (by kernel_rfl) rfl #[.slice Ao25 y139.length co25] rfl (by (try simp only [List.map_toArray, List.map_cons, List.map_nil]); first | done | rfl | (simp only [List.length_drop, List.length_take]; rfl)) ?_; (with_reducible refine (impl_IntervalRun.calls _ _ y139 t142 _ ?side1 ?side2 A5.out).mono ?_); (case side1 => repeat (first | exact (Kd.R_reads' HO141.out).2.2 | (with_reducible refine Kd.C_alloc ?_ _) | (with_reducible refine Kd.C_drewN ?_ _) | (with_reducible refine Kd.C_drew ?_))); (case side2 => exact (Kd.R_reads' HO141.out).2.1); rintro e w26 ⟨v143, rfl, ho0, hb⟩; refine ⟨_, rfl, ?_⟩; have n0_ := Aside0.mk (Kd.R_below (by (with_reducible repeat (first | apply Kd.R_alloc | apply Kd.R_drewN | apply Kd.R_drew)); exact HO141.out) hb); have n1_ := Aside0.mk (Kd.S_lower (Kd.S_newB ho0 (g := gb132) (o := .cells #[.int .i64 0, .int .i64 0, .int .i64 0, .bool false, .slice none 0 0, .int .i64 0] 32 (0, 0)) (by (with_reducible repeat (first | refine blk_drewN ?_ _ | refine blk_drew ?_ | refine blk_alloc ?_ _)); exact BK132.out)) (below_size (by repeat (first | (with_reducible first | exact HB.out | apply below_alloc | apply pw_below_drewN | apply below_drew1 | refine below_set ?_ GE132.out) | exact HB.out)))); have n2_ := Aside0.mk (blk_below (g := gb132) (o := .cells #[.int .i64 0, .int .i64 0, .int .i64 0, .bool false, .slice none 0 0, .int .i64 0] 32 (0, 0)) (by (with_reducible repeat (first | refine blk_drewN ?_ _ | refine blk_drew ?_ | refine blk_alloc ?_ _)); exact BK132.out) hb); have n3_ := Aside0.mk (below_step (by repeat (first | (with_reducible first | exact HB.out | apply below_alloc | apply pw_below_drewN | apply below_drew1 | refine below_set ?_ GE132.out) | exact HB.out)) hb); clear HO141; clear BK132; clear HB; have HO141 := n0_; have HO144 := n1_; have BK132 := n2_; have HB := n3_; clear n0_ n1_ n2_ n3_; (try clear hb); (try clear hb2); (try clear hk); (try clear hi); (try clear ho0); obtain ⟨Ao27, co27, eo27⟩ := Kd.S_slice HO144.out; subst eo27; have p145 : 0 ≤ ((ji17) : Int) := of_decide_eq_true (by first | (with_reducible assumption) | assumption); have q145 : (ji17) < (t142.length : Int) := of_decide_eq_true (by first | (with_reducible assumption) | assumption); obtain ⟨ad145, A145_4, c145_4, e145, hx145_0, hx145_1, hx145_2, hx145_3, hx145_4, hx145_5, hl145_4, hi145_4⟩ := at_T32 (Kd.S_reads' HO144.out).2.2 (ji17) p145 q145; cases e145; obtain ⟨ce145, hce145, hMe145, hcc145⟩ := Kd.S_get HO144.out z32 (ji17) p145 (by first | exact q145 | exact of_decide_eq_true (by first | (with_reducible assumption) | assumption) | (have e_ := (Kd.S_reads' HO144.out).1; omega)); obtain ⟨ve145_4, rfl, ge145_4⟩ := k32_openM hMe145; have hv145_4 := hcc145 4 _ rfl; rw [add_field _ _ 4 (by omega)] at hv145_4; replace hv145_4 := Option.some.inj (hv145_4.symm.trans hx145_4); rw [hv145_4] at ge145_4; have HL145_4 := Aside0.mk (show Kd.R k29 29 _ _ _ _ ((rd_T32 t142 (ji17)).f2) from ge145_4); clear hv145_4 ge145_4; clear hcc145 hce145; have HR145_4 := Aside0.mk hi145_4; have HC145_4 := Aside0.mk hl145_4; clear hi145_4 hl145_4; replace p145 := eq_true p145; replace q145 := eq_true q145; have hcz28_0 : w26.cell? ⟨gb132, 0, none⟩ = some (.int .i64 0) := (blk_cell BK132.out 0).trans rfl; have hcz28_1 : w26.cell? ⟨gb132, 1, none⟩ = some (.int .i64 0) := (blk_cell BK132.out 1).trans rfl; have hcz28_2 : w26.cell? ⟨gb132, 2, none⟩ = some (.int .i64 0) := (blk_cell BK132.out 2).trans rfl; have hcz28_3 : w26.cell? ⟨gb132, 3, none⟩ = some (.bool false) := (blk_cell BK132.out 3).trans rfl; have hcz28_4 : w26.cell? ⟨gb132, 4, none⟩ = some (.slice none 0 0) := (blk_cell BK132.out 4).trans rfl; have hcz28_5 : w26.cell? ⟨gb132, 5, none⟩ = some (.int .i64 0) := (blk_cell BK132.out 5).trans rfl; have hfz28_0 := blk_frozen BK132.out 0; have hfz28_1 := blk_frozen BK132.out 1; have hfz28_2 := blk_frozen BK132.out 2; have hfz28_3 := blk_frozen BK132.out 3; have hfz28_4 := blk_frozen BK132.out 4; have hfz28_5 := blk_frozen BK132.out 5))
              refine bodyPost_ret (results_ct rfl _ _ gb132 32 #[.int .i64 ((rd_T32 t142 (ji17)).f0.f0), .int .i64 ((rd_T32 t142 (ji17)).f0.f1), .int .i64 ((rd_T32 t142 (ji17)).f0.f2), .bool ((rd_T32 t142 (ji17)).f1), .slice A145_4 ((rd_T32 t142 (ji17)).f2).length c145_4, .int .i64 ((rd_T32 t142 (ji17)).f3)] (0, 0) _ rfl (by (with_reducible repeat (first | refine blk_drewN ?_ _ | refine blk_drew ?_ | refine blk_alloc ?_ _)); refine blk_put (cs := #[.int .i64 ((rd_T32 t142 (ji17)).f0.f0), .int .i64 ((rd_T32 t142 (ji17)).f0.f1), .int .i64 ((rd_T32 t142 (ji17)).f0.f2), .bool ((rd_T32 t142 (ji17)).f1), .slice A145_4 ((rd_T32 t142 (ji17)).f2).length c145_4, .int .i64 0]) ?_ 5 _ rfl; (with_reducible repeat (first | refine blk_drewN ?_ _ | refine blk_drew ?_ | refine blk_alloc ?_ _)); refine blk_put (cs := #[.int .i64 ((rd_T32 t142 (ji17)).f0.f0), .int .i64 ((rd_T32 t142 (ji17)).f0.f1), .int .i64 ((rd_T32 t142 (ji17)).f0.f2), .bool ((rd_T32 t142 (ji17)).f1), .slice none 0 0, .int .i64 0]) ?_ 4 _ rfl; (with_reducible repeat (first | refine blk_drewN ?_ _ | refine blk_drew ?_ | refine blk_alloc ?_ _)); refine blk_put (cs := #[.int .i64 ((rd_T32 t142 (ji17)).f0.f0), .int .i64 ((rd_T32 t142 (ji17)).f0.f1), .int .i64 ((rd_T32 t142 (ji17)).f0.f2), .bool false, .slice none 0 0, .int .i64 0]) ?_ 3 _ rfl; (with_reducible repeat (first | refine blk_drewN ?_ _ | refine blk_drew ?_ | refine blk_alloc ?_ _)); refine blk_put (cs := #[.int .i64 ((rd_T32 t142 (ji17)).f0.f0), .int .i64 ((rd_T32 t142 (ji17)).f0.f1), .int .i64 0, .bool false, .slice none 0 0, .int .i64 0]) ?_ 2 _ rfl; (with_reducible repeat (first | refine blk_drewN ?_ _ | refine blk_drew ?_ | refine blk_alloc ?_ _)); refine blk_put (cs := #[.int .i64 ((rd_T32 t142 (ji17)).f0.f0), .int .i64 0, .int .i64 0, .bool false, .slice none 0 0, .int .i64 0]) ?_ 1 _ rfl; (with_reducible repeat (first | refine blk_drewN ?_ _ | refine blk_drew ?_ | refine blk_alloc ?_ _)); refine blk_put (cs := #[.int .i64 0, .int .i64 0, .int .i64 0, .bool false, .slice none 0 0, .int .i64 0]) ?_ 0 _ rfl; (with_reducible repeat (first | refine blk_drewN ?_ _ | refine blk_drew ?_ | refine blk_alloc ?_ _)); exact BK132.out) Try.underlying32 rfl (by kernel_rfl)) rfl ?_
              exact ⟨_, by first | rfl | (simp [errW_none, errW_some] <;> rfl) | (simp only [← hji17]; first | rfl | (simp [errW_none, errW_some] <;> rfl)) | (simp [*, errW_none, errW_some] <;> rfl), by (with_reducible repeat (first | apply Kd.R_alloc | apply Kd.R_drewN | apply Kd.R_drew)); exact Kd.R_mono (Kd.R_far (p := ⟨gb132, 5, none⟩) (Kd.R_far (p := ⟨gb132, 4, none⟩) (Kd.R_far (p := ⟨gb132, 3, none⟩) (Kd.R_far (p := ⟨gb132, 2, none⟩) (Kd.R_far (p := ⟨gb132, 1, none⟩) (Kd.R_far (p := ⟨gb132, 0, none⟩) (Kd.R_types HL145_4.out BK132.out (by decide)) (fun _ hk => hk.2) (.int .i64 ((rd_T32 t142 (ji17)).f0.f0))) (fun _ hk => hk.2) (.int .i64 ((rd_T32 t142 (ji17)).f0.f1))) (fun _ hk => hk.2) (.int .i64 ((rd_T32 t142 (ji17)).f0.f2))) (fun _ hk => hk.2) (.bool ((rd_T32 t142 (ji17)).f1))) (fun _ hk => hk.2) (.slice A145_4 ((rd_T32 t142 (ji17)).f2).length c145_4)) (fun _ hk => hk.2) (.int .i64 ((rd_T32 t142 (ji17)).f3))) (fun _ hk => trivial), by repeat (first | (with_reducible first | exact HB.out | apply below_alloc | apply pw_below_drewN | apply below_drew1 | refine below_set ?_ GE132.out) | exact HB.out)⟩
            · rw [if_neg c19] at H
              exact absurd H (by simp)
          · rw [if_neg c18] at H
            exact absurd H (by simp)
      · rw [if_neg c6] at H
        have c6b0 : ((t142.length : Int) == (y139.length : Int)) = false := beq_eq_false_iff_ne.mpr c6
        have c6b1 : ((t142.length : Int) != (y139.length : Int)) = true := bne_iff_ne.mpr c6
        have c6b2 : (t142.length == y139.length) = false := by first | simpa using c6 | (simp at c6 ⊢; omega)
        simp only [Option.some.injEq, Prod.mk.injEq] at H
        obtain ⟨rfl, rfl, rfl, rfl, rfl, rfl, rfl⟩ := H
        go_enter Try.func15, Try.ntmps15
        go_wp2_with (first | ((with_reducible refine gate_dst (N := 4) rfl ?_); (try (refine gate_guard (by rfl) ?_; dsimp only)); refine box_event ?hg (N := 4) ?hd (cs := #[.int .i64 0, .int .i64 0, .int .i64 0, .bool false, .slice none 0 0, .int .i64 0]) (t := 32) ?hr ?_; (case hd => rfl); (case hg => rfl); (case hr => first | (go_simp; done) | (go_simp; rfl)); intro gb132 hg w29 hbox hb; have n0_ := Aside0.mk (below_step (by repeat (first | (with_reducible first | exact HB.out | apply below_alloc | apply pw_below_drewN | apply below_drew1) | exact HB.out)) hb); have n1_ := Aside0.mk (hbox); have n2_ := Aside0.mk ((by rw [hg]; exact (below_size (by repeat (first | (with_reducible first | exact HB.out | apply below_alloc | apply pw_below_drewN | apply below_drew1) | exact HB.out))) : w.heap.size ≤ gb132)); have n3_ := Aside0.mk ((by rw [hg]; exact (below_size (by repeat (first | (with_reducible first | exact HB.out | apply below_alloc | apply pw_below_drewN | apply below_drew1) | exact HB.out))) : w.heap.size ≤ gb132)); clear HB; have HB := n0_; have BK132 := n1_; have GW132 := n2_; have GE132 := n3_; clear n0_ n1_ n2_ n3_; clear hb hbox hg) | ((with_reducible refine gate_dst (N := 8) rfl ?_); (try (refine gate_guard (by rfl) ?_; dsimp only)); refine Kd.R_lit k25 _ 25 ?hg (N := 8) ?hd (xs := ([] : List (S25))) (inner := []) (ok := fun _ => True) (okp := fun _ => True) ?hr ?hp (fun _ hk => hk) trivial (Below.refl _ _) (Nat.le_refl _) (by simp) ?_; (case hd => rfl); (case hg => rfl); (case hr => first | (go_simp; done) | (go_simp; rfl)); (case hp => exact (Reps.none _ _)); intro v134 w30 ho31 hb hg_ hnew_; clear hg_ hnew_; (first | rw [← Ny133.out] at ho31 | (simp only [Int.reduceToNat] at ho31; rw [← Ny133.out] at ho31)); have n0_ := Aside0.mk (Kd.R_lower ho31 (below_size (by repeat (first | (with_reducible first | exact HB.out | apply below_alloc | apply pw_below_drewN | apply below_drew1 | refine below_set ?_ GE132.out) | exact HB.out)))); have n1_ := Aside0.mk (blk_below (g := gb132) (o := .cells #[.int .i64 0, .int .i64 0, .int .i64 0, .bool false, .slice none 0 0, .int .i64 0] 32 (0, 0)) (by (with_reducible repeat (first | refine blk_drewN ?_ _ | refine blk_drew ?_ | refine blk_alloc ?_ _)); exact BK132.out) hb); have n2_ := Aside0.mk (below_step (by repeat (first | (with_reducible first | exact HB.out | apply below_alloc | apply pw_below_drewN | apply below_drew1 | refine below_set ?_ GE132.out) | exact HB.out)) hb); clear BK132; clear HB; have HO135 := n0_; have BK132 := n1_; have HB := n2_; clear n0_ n1_ n2_; clear hb ho31) | ((with_reducible refine gate_builtin (b := .append) (xs := #[.tmp 8, .tmp 9]) rfl ?_); (try (refine gate_guard (by rfl) ?_; dsimp only)); at_builtin; refine Kd.R_append_rows k25 (w0 := w) w.heap.size rfl (.tmp 8) (.tmp 9) 22 25 (.agg #[(.int .i64 0), (.int .i64 0), (.int .i64 0), (.int .i64 0)]) 32 rfl Try.underlying22 info25 rfl (by decide) (by omega) v134 y133 l0 _ _ _ (fun _ => True) (fun _ => False) rfl rfl ?aO ?aR (fun _ _ h => h) (fun _ h => h.elim) ?aF ?aB ?aS ?aL ?_; (case aR => repeat (first | exact (Kd.C_below HR0.out HB.out) | (with_reducible refine Kd.C_alloc ?_ _) | (with_reducible refine Kd.C_drewN ?_ _) | (with_reducible refine Kd.C_drew ?_))); (case aB => exact (by repeat (first | (with_reducible first | exact HB.out | apply below_alloc | apply pw_below_drewN | apply below_drew1 | refine below_set ?_ GE132.out) | exact HB.out))); (case aF => exact (fun _ _ => trivial)); (case aO => exact (by (with_reducible repeat (first | apply Kd.R_alloc | apply Kd.R_drewN | apply Kd.R_drew)); exact HO135.out)); (case aS => exact (below_size (by repeat (first | (with_reducible first | exact HB.out | apply below_alloc | apply pw_below_drewN | apply below_drew1 | refine below_set ?_ GE132.out) | exact HB.out)))); (case aL => have := LMc3.out; omega); intro v137 w32 ho hb hg hat; rw [← Ny136.out] at ho; have n0_ := Aside0.mk (blk_grown (g := gb132) (o := .cells #[.int .i64 0, .int .i64 0, .int .i64 0, .bool false, .slice none 0 0, .int .i64 0] 32 (0, 0)) (by (with_reducible repeat (first | refine blk_drewN ?_ _ | refine blk_drew ?_ | refine blk_alloc ?_ _)); exact BK132.out) hg (Kd.R_ne HO135.out BK132.out (by decide))); have n1_ := Aside0.mk (hb); have n2_ := Aside0.mk (ho); clear BK132; clear HB; clear HO135; have BK132 := n0_; have HB := n1_; have HO138 := n2_; clear n0_ n1_ n2_; clear ho hb hg hat) | ((with_reducible refine gate_builtin (b := .append) (xs := #[.tmp 10, .tmp 11]) rfl ?_); (try (refine gate_guard (by rfl) ?_; dsimp only)); at_builtin; refine Kd.R_append_rows k25 (w0 := w) w.heap.size rfl (.tmp 10) (.tmp 11) 22 25 (.agg #[(.int .i64 0), (.int .i64 0), (.int .i64 0), (.int .i64 0)]) 32 rfl Try.underlying22 info25 rfl (by decide) (by omega) v137 y136 l1 _ _ _ (fun _ => True) (fun _ => False) rfl rfl ?aO ?aR (fun _ _ h => h) (fun _ h => h.elim) ?aF ?aB ?aS ?aL ?_; (case aR => repeat (first | exact (Kd.C_below HR1.out HB.out) | (with_reducible refine Kd.C_alloc ?_ _) | (with_reducible refine Kd.C_drewN ?_ _) | (with_reducible refine Kd.C_drew ?_))); (case aB => exact (by repeat (first | (with_reducible first | exact HB.out | apply below_alloc | apply pw_below_drewN | apply below_drew1 | refine below_set ?_ GE132.out) | exact HB.out))); (case aF => exact (fun _ _ => trivial)); (case aO => exact (by (with_reducible repeat (first | apply Kd.R_alloc | apply Kd.R_drewN | apply Kd.R_drew)); exact HO138.out)); (case aS => exact (below_size (by repeat (first | (with_reducible first | exact HB.out | apply below_alloc | apply pw_below_drewN | apply below_drew1 | refine below_set ?_ GE132.out) | exact HB.out)))); (case aL => have := LMc4.out; omega); intro v140 w33 ho hb hg hat; rw [← Ny139.out] at ho; have n0_ := Aside0.mk (blk_grown (g := gb132) (o := .cells #[.int .i64 0, .int .i64 0, .int .i64 0, .bool false, .slice none 0 0, .int .i64 0] 32 (0, 0)) (by (with_reducible repeat (first | refine blk_drewN ?_ _ | refine blk_drew ?_ | refine blk_alloc ?_ _)); exact BK132.out) hg (Kd.R_ne HO138.out BK132.out (by decide))); have n1_ := Aside0.mk (hb); have n2_ := Aside0.mk (ho); clear BK132; clear HB; clear HO138; have BK132 := n0_; have HB := n1_; have HO141 := n2_; clear n0_ n1_ n2_; clear ho hb hg hat; obtain ⟨Ao34, co34, eo34⟩ := Kd.R_slice HO141.out; subst eo34) | ((with_reducible refine gate_callee (f := 11) rfl ?_); refine goesL_ (some 14) rfl rfl Try.func11 (by kernel_rfl) rfl #[.slice Ao34 y139.length co34] rfl (by (try simp only [List.map_toArray, List.map_cons, List.map_nil]); first | done | rfl | (simp only [List.length_drop, List.length_take]; rfl)) ?_; (with_reducible refine (impl_IntervalRun.calls _ _ y139 t142 _ ?side1 ?side2 A5.out).mono ?_); (case side1 => repeat (first | exact (Kd.R_reads' HO141.out).2.2 | (with_reducible refine Kd.C_alloc ?_ _) | (with_reducible refine Kd.C_drewN ?_ _) | (with_reducible refine Kd.C_drew ?_))); (case side2 => exact (Kd.R_reads' HO141.out).2.1); rintro e w35 ⟨v143, rfl, ho0, hb⟩; refine ⟨_, rfl, ?_⟩; have n0_ := Aside0.mk (Kd.R_below (by (with_reducible repeat (first | apply Kd.R_alloc | apply Kd.R_drewN | apply Kd.R_drew)); exact HO141.out) hb); have n1_ := Aside0.mk (Kd.S_lower (Kd.S_newB ho0 (g := gb132) (o := .cells #[.int .i64 0, .int .i64 0, .int .i64 0, .bool false, .slice none 0 0, .int .i64 0] 32 (0, 0)) (by (with_reducible repeat (first | refine blk_drewN ?_ _ | refine blk_drew ?_ | refine blk_alloc ?_ _)); exact BK132.out)) (below_size (by repeat (first | (with_reducible first | exact HB.out | apply below_alloc | apply pw_below_drewN | apply below_drew1 | refine below_set ?_ GE132.out) | exact HB.out)))); have n2_ := Aside0.mk (blk_below (g := gb132) (o := .cells #[.int .i64 0, .int .i64 0, .int .i64 0, .bool false, .slice none 0 0, .int .i64 0] 32 (0, 0)) (by (with_reducible repeat (first | refine blk_drewN ?_ _ | refine blk_drew ?_ | refine blk_alloc ?_ _)); exact BK132.out) hb); have n3_ := Aside0.mk (below_step (by repeat (first | (with_reducible first | exact HB.out | apply below_alloc | apply pw_below_drewN | apply below_drew1 | refine below_set ?_ GE132.out) | exact HB.out)) hb); clear HO141; clear BK132; clear HB; have HO141 := n0_; have HO144 := n1_; have BK132 := n2_; have HB := n3_; clear n0_ n1_ n2_ n3_; (try clear hb); (try clear hb2); (try clear hk); (try clear hi); (try clear ho0); obtain ⟨Ao36, co36, eo36⟩ := Kd.S_slice HO144.out; subst eo36; have hcz37_0 : w35.cell? ⟨gb132, 0, none⟩ = some (.int .i64 0) := (blk_cell BK132.out 0).trans rfl; have hcz37_1 : w35.cell? ⟨gb132, 1, none⟩ = some (.int .i64 0) := (blk_cell BK132.out 1).trans rfl; have hcz37_2 : w35.cell? ⟨gb132, 2, none⟩ = some (.int .i64 0) := (blk_cell BK132.out 2).trans rfl; have hcz37_3 : w35.cell? ⟨gb132, 3, none⟩ = some (.bool false) := (blk_cell BK132.out 3).trans rfl; have hcz37_4 : w35.cell? ⟨gb132, 4, none⟩ = some (.slice none 0 0) := (blk_cell BK132.out 4).trans rfl; have hcz37_5 : w35.cell? ⟨gb132, 5, none⟩ = some (.int .i64 0) := (blk_cell BK132.out 5).trans rfl; have hfz37_0 := blk_frozen BK132.out 0; have hfz37_1 := blk_frozen BK132.out 1; have hfz37_2 := blk_frozen BK132.out 2; have hfz37_3 := blk_frozen BK132.out 3; have hfz37_4 := blk_frozen BK132.out 4; have hfz37_5 := blk_frozen BK132.out 5))
        refine bodyPost_ret (results_ct rfl _ _ gb132 32 #[.int .i64 0, .int .i64 0, .int .i64 0, .bool false, .slice none 0 0, .int .i64 0] (0, 0) _ rfl (by (with_reducible repeat (first | refine blk_drewN ?_ _ | refine blk_drew ?_ | refine blk_alloc ?_ _)); refine blk_put (cs := #[.int .i64 0, .int .i64 0, .int .i64 0, .bool false, .slice none 0 0, .int .i64 0]) ?_ 5 _ rfl; (with_reducible repeat (first | refine blk_drewN ?_ _ | refine blk_drew ?_ | refine blk_alloc ?_ _)); refine blk_put (cs := #[.int .i64 0, .int .i64 0, .int .i64 0, .bool false, .slice none 0 0, .int .i64 0]) ?_ 4 _ rfl; (with_reducible repeat (first | refine blk_drewN ?_ _ | refine blk_drew ?_ | refine blk_alloc ?_ _)); refine blk_put (cs := #[.int .i64 0, .int .i64 0, .int .i64 0, .bool false, .slice none 0 0, .int .i64 0]) ?_ 3 _ rfl; (with_reducible repeat (first | refine blk_drewN ?_ _ | refine blk_drew ?_ | refine blk_alloc ?_ _)); refine blk_put (cs := #[.int .i64 0, .int .i64 0, .int .i64 0, .bool false, .slice none 0 0, .int .i64 0]) ?_ 2 _ rfl; (with_reducible repeat (first | refine blk_drewN ?_ _ | refine blk_drew ?_ | refine blk_alloc ?_ _)); refine blk_put (cs := #[.int .i64 0, .int .i64 0, .int .i64 0, .bool false, .slice none 0 0, .int .i64 0]) ?_ 1 _ rfl; (with_reducible repeat (first | refine blk_drewN ?_ _ | refine blk_drew ?_ | refine blk_alloc ?_ _)); refine blk_put (cs := #[.int .i64 0, .int .i64 0, .int .i64 0, .bool false, .slice none 0 0, .int .i64 0]) ?_ 0 _ rfl; (with_reducible repeat (first | refine blk_drewN ?_ _ | refine blk_drew ?_ | refine blk_alloc ?_ _)); exact BK132.out) Try.underlying32 rfl (by kernel_rfl)) rfl ?_
        exact ⟨_, by first | rfl | (simp [errW_none, errW_some] <;> rfl) | (simp [*, errW_none, errW_some] <;> rfl), by first | exact Kd.R_nil _ _ _ _ _ | exact Kd.N_nil _ _ _ _ _ | exact Kd.V_nil _ _ _ _ _ | exact Kd.Q_nil _ _ _ _ _ | exact Kd.S_nil _ _ _ _ _, by repeat (first | (with_reducible first | exact HB.out | apply below_alloc | apply pw_below_drewN | apply below_drew1 | refine below_set ?_ GE132.out) | exact HB.out)⟩
    · rw [if_neg c4] at H
      exact absurd H (by simp)
  · rw [if_neg c3] at H
    exact absurd H (by simp)

end Go.Proofs.Ytmnjkdbopafkfaa.QFnIntervalOrder
