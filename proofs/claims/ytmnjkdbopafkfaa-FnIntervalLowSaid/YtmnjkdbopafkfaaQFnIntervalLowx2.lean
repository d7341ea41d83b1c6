/- The machine's side of a law, as the kit's print writes it; of the functions that the print doesn't cover this session's own contracts stand in it: no condition. -/
import Derived.Test.YtmnjkdbopafkfaaQFnIntervalLowx0
import Derived.Test.YtmnjkdbopafkfaaQFnIntervalLowx1
namespace Go.Proofs.Ytmnjkdbopafkfaa.QFnIntervalLow
open Go.RowKit Go.Proofs.YtmnjkdbopafkfaaW.PrintWords Go.Proofs.YtmnjkdbopafkfaaW.PrintLast Go.Proofs.YtmnjkdbopafkfaaW.PrintMore
attribute [local go_sem] max2_int min2_int max_two min_two max_three min_three max_four min_four   -- for this text's walks alone
set_option linter.unusedVariables false
set_option linter.unusedSimpArgs false

/-! ### laws_FnIntervalLow: function 3 -/
mutual
def laws_FnIntervalLow.l0 : Nat → List (S25) → List (S25) → Int → Option (Bool)
  | 0, _, _, _ => none
  | k + 1, x0, x3, x4 => if x4 < (x0.length : Int) then (if 0 ≤ x4 then ((some (([(⟨(rd_T25 x0 x4).f0, (rd_T25 x0 x4).f1, (rd_T25 x0 x4).f2, (rd_T25 x0 x4).f3⟩ : S25), (⟨6, 0, 0, 0⟩ : S25), (⟨7, 0, 0, 0⟩ : S25)] : List (S25)) : List (S25))).bind fun y120 => (if x3.length + y120.length < 4398046511104 then (laws_FnIntervalLow.l0 k x0 (x3 ++ y120) (wrap64 (x4 + 1))) else (none))) else (none)) else ((impl_IntervalRun.f x3).bind fun t126 => (if (t126.length : Int) = (x3.length : Int) then (laws_FnIntervalLow.l1 k x0 t126 0) else (some false)))
def laws_FnIntervalLow.l1 : Nat → List (S25) → List (S32) → Int → Option (Bool)
  | 0, _, _, _ => none
  | k + 1, x0, x5, x6 => if x6 < (x0.length : Int) then (if 0 ≤ (wrap64 ((wrap64 (3 * x6)) + 1)) then (if (wrap64 ((wrap64 (3 * x6)) + 1)) < (x5.length : Int) then (if 0 ≤ (wrap64 ((wrap64 (3 * x6)) + 2)) then (if (wrap64 ((wrap64 (3 * x6)) + 2)) < (x5.length : Int) then (if ((rd_T32 x5 (wrap64 ((wrap64 (3 * x6)) + 2))).f3) < 0 then (some false) else ((spec_Least.f k ((rd_T32 x5 (wrap64 ((wrap64 (3 * x6)) + 2))).f3)).bind fun t131 => (if ((rd_T32 x5 (wrap64 ((wrap64 (3 * x6)) + 1))).f3) < t131 then (some false) else (if ((rd_T32 x5 (wrap64 ((wrap64 (3 * x6)) + 2))).f3) < 62 then (if 0 ≤ (IntKind.u64.wrap ((rd_T32 x5 (wrap64 ((wrap64 (3 * x6)) + 2))).f3)) then (if ((rd_T32 x5 (wrap64 ((wrap64 (3 * x6)) + 1))).f3) ≥ (shl .i64 1 (IntKind.u64.wrap ((rd_T32 x5 (wrap64 ((wrap64 (3 * x6)) + 2))).f3))) then (some false) else (laws_FnIntervalLow.l1 k x0 x5 (wrap64 (x6 + 1)))) else (none)) else (laws_FnIntervalLow.l1 k x0 x5 (wrap64 (x6 + 1))))))) else (none)) else (none)) else (none)) else (none)) else (some true)
end
def laws_FnIntervalLow.f (k : Nat) (l0 : List (S25)) : Option (Bool) := if (l0.length : Int) > 2147483647 then (some true) else ((spec_Proper.f k l0).bind fun t118 => (if t118 = true then (laws_FnIntervalLow.l0 k l0 ([] : List (S25)) 0) else (some true)))
theorem laws_FnIntervalLow.mono_l : ∀ k, (∀ y0 y1 y2, LeO (laws_FnIntervalLow.l0 k y0 y1 y2) (laws_FnIntervalLow.l0 (k + 1) y0 y1 y2)) ∧ (∀ y0 y1 y2, LeO (laws_FnIntervalLow.l1 k y0 y1 y2) (laws_FnIntervalLow.l1 (k + 1) y0 y1 y2))
  | 0 => ⟨fun _ _ _ r h => by simp [laws_FnIntervalLow.l0] at h, fun _ _ _ r h => by simp [laws_FnIntervalLow.l1] at h⟩
  | k + 1 => by
    obtain ⟨ih0, ih1⟩ := laws_FnIntervalLow.mono_l k
    refine ⟨?_, ?_⟩
    · intro y0 y1 y2
      unfold laws_FnIntervalLow.l0
      repeat' first
      | (with_reducible exact ih0 _ _ _)
      | (with_reducible exact ih1 _ _ _)
      | (with_reducible exact spec_Least.mono _ _)
      | (with_reducible exact spec_Proper.mono _ _)
      | (with_reducible exact LeO.refl _)
      | (with_reducible exact LeO.none _)
      | (with_reducible refine LeO.ite ?_ ?_)
      | (with_reducible refine LeO.bind ?_ (fun _ => ?_))
      | exact ih0 _ _ _
      | exact ih1 _ _ _
      | exact spec_Least.mono _ _
      | exact spec_Proper.mono _ _
      | exact LeO.none _
      | refine LeO.ite ?_ ?_
      | refine LeO.bind ?_ (fun _ => ?_)
    · intro y0 y1 y2
      unfold laws_FnIntervalLow.l1
      repeat' first
      | (with_reducible exact ih0 _ _ _)
      | (with_reducible exact ih1 _ _ _)
      | (with_reducible exact spec_Least.mono _ _)
      | (with_reducible exact spec_Proper.mono _ _)
      | (with_reducible exact LeO.refl _)
      | (with_reducible exact LeO.none _)
      | (with_reducible refine LeO.ite ?_ ?_)
      | (with_reducible refine LeO.bind ?_ (fun _ => ?_))
      | exact ih0 _ _ _
      | exact ih1 _ _ _
      | exact spec_Least.mono _ _
      | exact spec_Proper.mono _ _
      | exact LeO.none _
      | refine LeO.ite ?_ ?_
      | refine LeO.bind ?_ (fun _ => ?_)
theorem laws_FnIntervalLow.mono : ∀ a0 k, LeO (laws_FnIntervalLow.f k a0) (laws_FnIntervalLow.f (k + 1) a0) := by
  intro a0 k
  obtain ⟨ih0, ih1⟩ := laws_FnIntervalLow.mono_l k
  unfold laws_FnIntervalLow.f
  repeat' first
      | (with_reducible exact ih0 _ _ _)
      | (with_reducible exact ih1 _ _ _)
      | (with_reducible exact spec_Least.mono _ _)
      | (with_reducible exact spec_Proper.mono _ _)
      | (with_reducible exact LeO.refl _)
      | (with_reducible exact LeO.none _)
      | (with_reducible refine LeO.ite ?_ ?_)
      | (with_reducible refine LeO.bind ?_ (fun _ => ?_))
      | exact ih0 _ _ _
      | exact ih1 _ _ _
      | exact spec_Least.mono _ _
      | exact spec_Proper.mono _ _
      | exact LeO.none _
      | refine LeO.ite ?_ ?_
      | refine LeO.bind ?_ (fun _ => ?_)
set_option maxHeartbeats 8000000 in
set_option maxRecDepth 100000 in
theorem laws_FnIntervalLow.calls (k : Nat) (A0 : Option Addr) (c0 : Nat) (l0 : List (S25)) (r : Bool) (w : World) (hr0 : Kd.C k25 w A0 l0.length l0) (hc0 : l0.length ≤ c0) (h : laws_FnIntervalLow.f k l0 = some r) :
    Calls Try.prog 3 #[.slice A0 l0.length c0] w fun e w' => e = .returned (.bool r) ∧ Below w.heap.size w w' := by
  have hu25 := Try.underlying25
  have HR0 := Aside0.mk hr0
  have HC0 := Aside0.mk hc0
  clear hr0 hc0
  have HB := Aside0.mk (Below.refl w.heap.size w)
  have H : (if (l0.length : Int) > 2147483647 then (some true) else ((spec_Proper.f k l0).bind fun t118 => (if t118 = true then (laws_FnIntervalLow.l0 k l0 ([] : List (S25)) 0) else (some true)))) = some r := h
  clear h
  by_cases c2 : (l0.length : Int) > 2147483647
  · rw [if_pos c2] at H
    have c2b0 : decide (2147483647 < (l0.length : Int)) = true := decide_eq_true c2
    have c2b1 : decide (2147483647 < l0.length) = true := decide_eq_true (by omega)
    clear c2
    obtain rfl := Option.some.inj H
    go_enter Try.func3, Try.ntmps3
    go_wp2
    repeat (go_quiet (fail); try go_wp2)
    go_ret
    exact ⟨by first | rfl | (simp [errW_none, errW_some] <;> rfl) | (simp [*, errW_none, errW_some] <;> rfl), by repeat (first | (with_reducible first | exact HB.out | apply below_alloc | apply pw_below_drewN | apply below_drew1) | exact HB.out)⟩
  · rw [if_neg c2] at H
    have c2b0 : decide (2147483647 < (l0.length : Int)) = false := decide_eq_false c2
    have c2b1 : decide (2147483647 < l0.length) = false := decide_eq_false (by omega)
    clear c2
    replace H := Option.bind_eq_some_iff.mp H
    obtain ⟨t118, A30, H⟩ := H
    replace H : (if t118 = true then (laws_FnIntervalLow.l0 k l0 ([] : List (S25)) 0) else (some true)) = some r := H
    have A3 := Aside0.mk A30
    clear A30
    by_cases c4 : t118 = true
    · subst c4
      have H1 : (laws_FnIntervalLow.l0 k l0 ([] : List (S25)) 0) = some r := by rw [if_pos rfl] at H; exact H
      clear H
      have H := H1
      clear H1
      have H' := Aside0.mk H
      clear H
      go_enter Try.func3, Try.ntmps3
      go_wp2_with (first | (go_at_call 10; (with_reducible refine (spec_Proper.calls k _ _ l0 true _ ?side1 ?side2 A3.out).mono ?_); (case side1 => repeat (first | exact HR0.out | (with_reducible refine Kd.C_alloc ?_ _) | (with_reducible refine Kd.C_drewN ?_ _) | (with_reducible refine Kd.C_drew ?_))); (case side2 => exact HC0.out); rintro e w' ⟨rfl, ⟨nd, rfl⟩⟩; (try first | exact ⟨rfl, _, World.drewN_drewN _ _ _⟩ | exact ⟨rfl, _, Eq.trans (World.drewN_drewN _ _ _) (congrArg (World.drewN _) (Nat.add_assoc _ _ _))⟩)))
      repeat (go_quiet (first | (go_at_call 10; (with_reducible refine (spec_Proper.calls k _ _ l0 true _ ?side1 ?side2 A3.out).mono ?_); (case side1 => repeat (first | exact HR0.out | (with_reducible refine Kd.C_alloc ?_ _) | (with_reducible refine Kd.C_drewN ?_ _) | (with_reducible refine Kd.C_drew ?_))); (case side2 => exact HC0.out); rintro e w' ⟨rfl, ⟨nd, rfl⟩⟩; (try first | exact ⟨rfl, _, World.drewN_drewN _ _ _⟩ | exact ⟨rfl, _, Eq.trans (World.drewN_drewN _ _ _) (congrArg (World.drewN _) (Nat.add_assoc _ _ _))⟩))); try go_wp2_with (first | (go_at_call 10; (with_reducible refine (spec_Proper.calls k _ _ l0 true _ ?side1 ?side2 A3.out).mono ?_); (case side1 => repeat (first | exact HR0.out | (with_reducible refine Kd.C_alloc ?_ _) | (with_reducible refine Kd.C_drewN ?_ _) | (with_reducible refine Kd.C_drew ?_))); (case side2 => exact HC0.out); rintro e w' ⟨rfl, ⟨nd, rfl⟩⟩; (try first | exact ⟨rfl, _, World.drewN_drewN _ _ _⟩ | exact ⟨rfl, _, Eq.trans (World.drewN_drewN _ _ _) (congrArg (World.drewN _) (Nat.add_assoc _ _ _))⟩))))
      go_loopg [3, 4] k (fun kq v3 v4 w' => ∃ (x3_1 : List (S25)) (x4_1 : Int), v4 = .int .i64 x4_1 ∧ Aside0 (laws_FnIntervalLow.l0 kq l0 x3_1 x4_1 = some r) ∧ Aside0 (kq ≤ k) ∧ Aside0 (Kd.R k25 25 w' w.heap.size (fun _ => True) v3 x3_1) ∧ Aside0 (Below w.heap.size w w'))
      case atStart => exact ⟨(([] : List (S25))), (0), (by first | rfl | (simp; done) | (simp [*]; done)), H', ⟨Nat.le_refl _⟩, ⟨by first | exact Kd.R_nil _ _ _ _ _ | exact Kd.N_nil _ _ _ _ _ | exact Kd.V_nil _ _ _ _ _ | exact Kd.Q_nil _ _ _ _ _ | exact Kd.S_nil _ _ _ _ _⟩, ⟨by repeat (first | (with_reducible first | exact HB.out | apply below_alloc | apply pw_below_drewN | apply below_drew1) | exact HB.out)⟩⟩
      case round =>
        clear H'
        try clear c2
        try clear c2b0
        try clear c2b1
        try clear p2
        try clear c3
        try clear c4
        obtain ⟨x3_1, x4_1, rfl, HA, HK1, HO_3, HB⟩ := hrel
        cases gk with
        | zero => exact absurd HA.out (by simp [laws_FnIntervalLow.l0])
        | succ k1 =>
          have H := HA.out
          clear HA
          simp only [laws_FnIntervalLow.l0] at H
          by_cases c5 : x4_1 < (l0.length : Int)
          · rw [if_pos c5] at H
            have c5b0 : decide (x4_1 < (l0.length : Int)) = true := decide_eq_true c5
            clear c5
            by_cases c6 : 0 ≤ x4_1
            · rw [if_pos c6] at H
              have c6b0 : decide (0 ≤ x4_1) = true := decide_eq_true c6
              clear c6
              obtain ⟨y120, hy120⟩ : ∃ y_ : List (S25), y_ = (([(⟨(rd_T25 l0 x4_1).f0, (rd_T25 l0 x4_1).f1, (rd_T25 l0 x4_1).f2, (rd_T25 l0 x4_1).f3⟩ : S25), (⟨6, 0, 0, 0⟩ : S25), (⟨7, 0, 0, 0⟩ : S25)] : List (S25))) := ⟨_, rfl⟩
              replace H : (if x3_1.length + y120.length < 4398046511104 then (laws_FnIntervalLow.l0 k1 l0 (x3_1 ++ y120) (wrap64 (x4_1 + 1))) else (none)) = some r := by first | (rw [hy120]; with_reducible exact H) | (have H2_ := (Option.bind_some _ _).symm.trans H; rw [hy120]; with_reducible exact H2_) | (have H2_ := (Option.bind_some _ _).symm.trans H; with_reducible exact H2_) | with_reducible exact H | (rw [hy120]; exact H) | exact H
              have Ny120 := Aside0.mk hy120
              clear hy120
              by_cases c7 : x3_1.length + y120.length < 4398046511104
              · rw [if_pos c7] at H
                have LMc7 := Aside0.mk c7
                clear c7
                obtain ⟨y123, hy123⟩ : ∃ y_ : List (S25), y_ = (x3_1 ++ y120) := ⟨_, rfl⟩
                replace H : (laws_FnIntervalLow.l0 k1 l0 y123 (wrap64 (x4_1 + 1))) = some r := by first | (rw [hy123]; with_reducible exact H) | (have H2_ := (Option.bind_some _ _).symm.trans H; rw [hy123]; with_reducible exact H2_) | (have H2_ := (Option.bind_some _ _).symm.trans H; with_reducible exact H2_) | with_reducible exact H | (rw [hy123]; exact H) | exact H
                have Ny123 := Aside0.mk hy123
                clear hy123
                have H' := Aside0.mk H
                clear H
                have p119 : 0 ≤ (x4_1 : Int) := of_decide_eq_true (by first | (with_reducible assumption) | assumption)
                have q119 : x4_1 < (l0.length : Int) := of_decide_eq_true (by first | (with_reducible assumption) | assumption)
                obtain ⟨ad119, e119, hx119_0, hx119_1, hx119_2, hx119_3⟩ := at_T25 HR0.out x4_1 p119 q119
                cases e119
                replace hx119_0 := (HB.out.cell (World.block_lt_of_cell? w _ hx119_0)).trans hx119_0
                replace hx119_1 := (HB.out.cell (World.block_lt_of_cell? w _ hx119_1)).trans hx119_1
                replace hx119_2 := (HB.out.cell (World.block_lt_of_cell? w _ hx119_2)).trans hx119_2
                replace hx119_3 := (HB.out.cell (World.block_lt_of_cell? w _ hx119_3)).trans hx119_3
                replace p119 := eq_true p119
                replace q119 := eq_true q119
                go_wp2_with (first | ((with_reducible refine gate_dst (N := 28) rfl ?_); refine Kd.R_lit k25 _ 25 ?hg (N := 28) ?hd (xs := ([(⟨(rd_T25 l0 x4_1).f0, (rd_T25 l0 x4_1).f1, (rd_T25 l0 x4_1).f2, (rd_T25 l0 x4_1).f3⟩ : S25), (⟨6, 0, 0, 0⟩ : S25), (⟨7, 0, 0, 0⟩ : S25)] : List (S25))) (inner := [.int .i64 ((rd_T25 l0 x4_1).f0), .int .i64 ((rd_T25 l0 x4_1).f1), .int .i64 ((rd_T25 l0 x4_1).f2), .int .i64 ((rd_T25 l0 x4_1).f3), .int .i64 6, .int .i64 0, .int .i64 0, .int .i64 0, .int .i64 7, .int .i64 0, .int .i64 0, .int .i64 0]) (ok := fun _ => True) (okp := fun _ => True) ?hr ?hp (fun _ hk => hk) trivial (Below.refl _ _) (Nat.le_refl _) (by simp) ?_; (case hd => rfl); (case hg => rfl); (case hr => first | (go_simp; done) | (go_simp; rfl)); (case hp => exact (Reps.c4 (show Kd.M k25 _ _ _ (⟨(rd_T25 l0 x4_1).f0, (rd_T25 l0 x4_1).f1, (rd_T25 l0 x4_1).f2, (rd_T25 l0 x4_1).f3⟩ : S25) [.int .i64 ((rd_T25 l0 x4_1).f0), .int .i64 ((rd_T25 l0 x4_1).f1), .int .i64 ((rd_T25 l0 x4_1).f2), .int .i64 ((rd_T25 l0 x4_1).f3)] from (k25_mkM _ _ _ (⟨(rd_T25 l0 x4_1).f0, (rd_T25 l0 x4_1).f1, (rd_T25 l0 x4_1).f2, (rd_T25 l0 x4_1).f3⟩ : S25) )) (Reps.c4 (show Kd.M k25 _ _ _ (⟨6, 0, 0, 0⟩ : S25) [.int .i64 6, .int .i64 0, .int .i64 0, .int .i64 0] from (k25_mkM _ _ _ (⟨6, 0, 0, 0⟩ : S25) )) (Reps.c4 (show Kd.M k25 _ _ _ (⟨7, 0, 0, 0⟩ : S25) [.int .i64 7, .int .i64 0, .int .i64 0, .int .i64 0] from (k25_mkM _ _ _ (⟨7, 0, 0, 0⟩ : S25) )) (Reps.none _ _))))); intro v121 w8 ho9 hb hg_ hnew_; clear hg_ hnew_; (first | rw [← Ny120.out] at ho9 | (simp only [Int.reduceToNat] at ho9; rw [← Ny120.out] at ho9)); have n0_ := Aside0.mk (Kd.R_elder' (by (with_reducible repeat (first | apply Kd.R_alloc | apply Kd.R_drewN | apply Kd.R_drew)); exact HO_3.out) (Kd.R_base ho9) hb); have n1_ := Aside0.mk (Kd.R_lower (Kd.R_new' ho9 (Kd.R_lt (by (with_reducible repeat (first | apply Kd.R_alloc | apply Kd.R_drewN | apply Kd.R_drew)); exact HO_3.out))) (below_size (by repeat (first | (with_reducible first | exact HB.out | apply below_alloc | apply pw_below_drewN | apply below_drew1) | exact HB.out)))); have n2_ := Aside0.mk (below_step (by repeat (first | (with_reducible first | exact HB.out | apply below_alloc | apply pw_below_drewN | apply below_drew1) | exact HB.out)) hb); clear HO_3; clear HB; have HO_3 := n0_; have HO122 := n1_; have HB := n2_; clear n0_ n1_ n2_; clear hb ho9; obtain ⟨Ao11, co11, eo11⟩ := Kd.R_slice HO122.out; subst eo11) | ((with_reducible refine gate_builtin (b := .append) (xs := #[.tmp 21, .tmp 28]) rfl ?_); at_builtin; refine Kd.R_append_rows k25 (w0 := w) w.heap.size rfl (.tmp 21) (.tmp 28) 22 25 (.agg #[(.int .i64 0), (.int .i64 0), (.int .i64 0), (.int .i64 0)]) 32 rfl Try.underlying22 info25 rfl (by decide) (by omega) u3 x3_1 y120 _ _ _ (fun k_ => some k_ ≠ (.slice Ao11 y120.length co11 : Value).ownBlock) (fun _ => False) rfl rfl ?aO ?aR (fun _ _ h => h) (fun _ h => h.elim) ?aF ?aB ?aS ?aL ?_; (case aR => repeat (first | exact (Kd.R_reads' HO122.out).2.2 | (with_reducible refine Kd.C_alloc ?_ _) | (with_reducible refine Kd.C_drewN ?_ _) | (with_reducible refine Kd.C_drew ?_))); (case aB => exact (by repeat (first | (with_reducible first | exact HB.out | apply below_alloc | apply pw_below_drewN | apply below_drew1) | exact HB.out))); (case aF => exact (fun k_ hk => Kd.fresh' (Kd.R_lt (by (with_reducible repeat (first | apply Kd.R_alloc | apply Kd.R_drewN | apply Kd.R_drew)); exact HO122.out)) k_ hk)); (case aO => exact (by (with_reducible repeat (first | apply Kd.R_alloc | apply Kd.R_drewN | apply Kd.R_drew)); exact Kd.R_mono HO_3.out (fun _ hk => hk.2))); (case aS => exact (below_size (by repeat (first | (with_reducible first | exact HB.out | apply below_alloc | apply pw_below_drewN | apply below_drew1) | exact HB.out)))); (case aL => have := LMc7.out; omega); intro v124 w10 ho hb hg hat; rw [← Ny123.out] at ho; have n0_ := Aside0.mk (Kd.R_after (ok := (fun _ => True)) (by (with_reducible repeat (first | apply Kd.R_alloc | apply Kd.R_drewN | apply Kd.R_drew)); exact HO122.out) hg hat); have n1_ := Aside0.mk (hb); have n2_ := Aside0.mk (ho); clear HO122; clear HB; clear HO_3; have HO122 := n0_; have HB := n1_; have HO125 := n2_; clear n0_ n1_ n2_; clear ho hb hg hat))
                repeat (go_quiet (first | ((with_reducible refine gate_dst (N := 28) rfl ?_); refine Kd.R_lit k25 _ 25 ?hg (N := 28) ?hd (xs := ([(⟨(rd_T25 l0 x4_1).f0, (rd_T25 l0 x4_1).f1, (rd_T25 l0 x4_1).f2, (rd_T25 l0 x4_1).f3⟩ : S25), (⟨6, 0, 0, 0⟩ : S25), (⟨7, 0, 0, 0⟩ : S25)] : List (S25))) (inner := [.int .i64 ((rd_T25 l0 x4_1).f0), .int .i64 ((rd_T25 l0 x4_1).f1), .int .i64 ((rd_T25 l0 x4_1).f2), .int .i64 ((rd_T25 l0 x4_1).f3), .int .i64 6, .int .i64 0, .int .i64 0, .int .i64 0, .int .i64 7, .int .i64 0, .int .i64 0, .int .i64 0]) (ok := fun _ => True) (okp := fun _ => True) ?hr ?hp (fun _ hk => hk) trivial (Below.refl _ _) (Nat.le_refl _) (by simp) ?_; (case hd => rfl); (case hg => rfl); (case hr => first | (go_simp; done) | (go_simp; rfl)); (case hp => exact (Reps.c4 (show Kd.M k25 _ _ _ (⟨(rd_T25 l0 x4_1).f0, (rd_T25 l0 x4_1).f1, (rd_T25 l0 x4_1).f2, (rd_T25 l0 x4_1).f3⟩ : S25) [.int .i64 ((rd_T25 l0 x4_1).f0), .int .i64 ((rd_T25 l0 x4_1).f1), .int .i64 ((rd_T25 l0 x4_1).f2), .int .i64 ((rd_T25 l0 x4_1).f3)] from (k25_mkM _ _ _ (⟨(rd_T25 l0 x4_1).f0, (rd_T25 l0 x4_1).f1, (rd_T25 l0 x4_1).f2, (rd_T25 l0 x4_1).f3⟩ : S25) )) (Reps.c4 (show Kd.M k25 _ _ _ (⟨6, 0, 0, 0⟩ : S25) [.int .i64 6, .int .i64 0, .int .i64 0, .int .i64 0] from (k25_mkM _ _ _ (⟨6, 0, 0, 0⟩ : S25) )) (Reps.c4 (show Kd.M k25 _ _ _ (⟨7, 0, 0, 0⟩ : S25) [.int .i64 7, .int .i64 0, .int .i64 0, .int .i64 0] from (k25_mkM _ _ _ (⟨7, 0, 0, 0⟩ : S25) )) (Reps.none _ _))))); intro v121 w8 ho9 hb hg_ hnew_; clear hg_ hnew_; (first | rw [← Ny120.out] at ho9 | (simp only [Int.reduceToNat] at ho9; rw [← Ny120.out] at ho9)); have n0_ := Aside0.mk (Kd.R_elder' (by (with_reducible repeat (first | apply Kd.R_alloc | apply Kd.R_drewN | apply Kd.R_drew)); exact HO_3.out) (Kd.R_base ho9) hb); have n1_ := Aside0.mk (Kd.R_lower (Kd.R_new' ho9 (Kd.R_lt (by (with_reducible repeat (first | apply Kd.R_alloc | apply Kd.R_drewN | apply Kd.R_drew)); exact HO_3.out))) (below_size (by repeat (first | (with_reducible first | exact HB.out | apply below_alloc | apply pw_below_drewN | apply below_drew1) | exact HB.out)))); have n2_ := Aside0.mk (below_step (by repeat (first | (with_reducible first | exact HB.out | apply below_alloc | apply pw_below_drewN | apply below_drew1) | exact HB.out)) hb); clear HO_3; clear HB; have HO_3 := n0_; have HO122 := n1_; have HB := n2_; clear n0_ n1_ n2_; clear hb ho9; obtain ⟨Ao11, co11, eo11⟩ := Kd.R_slice HO122.out; subst eo11) | ((with_reducible refine gate_builtin (b := .append) (xs := #[.tmp 21, .tmp 28]) rfl ?_); at_builtin; refine Kd.R_append_rows k25 (w0 := w) w.heap.size rfl (.tmp 21) (.tmp 28) 22 25 (.agg #[(.int .i64 0), (.int .i64 0), (.int .i64 0), (.int .i64 0)]) 32 rfl Try.underlying22 info25 rfl (by decide) (by omega) u3 x3_1 y120 _ _ _ (fun k_ => some k_ ≠ (.slice Ao11 y120.length co11 : Value).ownBlock) (fun _ => False) rfl rfl ?aO ?aR (fun _ _ h => h) (fun _ h => h.elim) ?aF ?aB ?aS ?aL ?_; (case aR => repeat (first | exact (Kd.R_reads' HO122.out).2.2 | (with_reducible refine Kd.C_alloc ?_ _) | (with_reducible refine Kd.C_drewN ?_ _) | (with_reducible refine Kd.C_drew ?_))); (case aB => exact (by repeat (first | (with_reducible first | exact HB.out | apply below_alloc | apply pw_below_drewN | apply below_drew1) | exact HB.out))); (case aF => exact (fun k_ hk => Kd.fresh' (Kd.R_lt (by (with_reducible repeat (first | apply Kd.R_alloc | apply Kd.R_drewN | apply Kd.R_drew)); exact HO122.out)) k_ hk)); (case aO => exact (by (with_reducible repeat (first | apply Kd.R_alloc | apply Kd.R_drewN | apply Kd.R_drew)); exact Kd.R_mono HO_3.out (fun _ hk => hk.2))); (case aS => exact (below_size (by repeat (first | (with_reducible first | exact HB.out | apply below_alloc | apply pw_below_drewN | apply below_drew1) | exact HB.out)))); (case aL => have := LMc7.out; omega); intro v124 w10 ho hb hg hat; rw [← Ny123.out] at ho; have n0_ := Aside0.mk (Kd.R_after (ok := (fun _ => True)) (by (with_reducible repeat (first | apply Kd.R_alloc | apply Kd.R_drewN | apply Kd.R_drew)); exact HO122.out) hg hat); have n1_ := Aside0.mk (hb); have n2_ := Aside0.mk (ho); clear HO122; clear HB; clear HO_3; have HO122 := n0_; have HB := n1_; have HO125 := n2_; clear n0_ n1_ n2_; clear ho hb hg hat)); try go_wp2_with (first | ((with_reducible refine gate_dst (N := 28) rfl ?_); refine Kd.R_lit k25 _ 25 ?hg (N := 28) ?hd (xs := ([(⟨(rd_T25 l0 x4_1).f0, (rd_T25 l0 x4_1).f1, (rd_T25 l0 x4_1).f2, (rd_T25 l0 x4_1).f3⟩ : S25), (⟨6, 0, 0, 0⟩ : S25), (⟨7, 0, 0, 0⟩ : S25)] : List (S25))) (inner := [.int .i64 ((rd_T25 l0 x4_1).f0), .int .i64 ((rd_T25 l0 x4_1).f1), .int .i64 ((rd_T25 l0 x4_1).f2), .int .i64 ((rd_T25 l0 x4_1).f3), .int .i64 6, .int .i64 0, .int .i64 0, .int .i64 0, .int .i64 7, .int .i64 0, .int .i64 0, .int .i64 0]) (ok := fun _ => True) (okp := fun _ => True) ?hr ?hp (fun _ hk => hk) trivial (Below.refl _ _) (Nat.le_refl _) (by simp) ?_; (case hd => rfl); (case hg => rfl); (case hr => first | (go_simp; done) | (go_simp; rfl)); (case hp => exact (Reps.c4 (show Kd.M k25 _ _ _ (⟨(rd_T25 l0 x4_1).f0, (rd_T25 l0 x4_1).f1, (rd_T25 l0 x4_1).f2, (rd_T25 l0 x4_1).f3⟩ : S25) [.int .i64 ((rd_T25 l0 x4_1).f0), .int .i64 ((rd_T25 l0 x4_1).f1), .int .i64 ((rd_T25 l0 x4_1).f2), .int .i64 ((rd_T25 l0 x4_1).f3)] from (k25_mkM _ _ _ (⟨(rd_T25 l0 x4_1).f0, (rd_T25 l0 x4_1).f1, (rd_T25 l0 x4_1).f2, (rd_T25 l0 x4_1).f3⟩ : S25) )) (Reps.c4 (show Kd.M k25 _ _ _ (⟨6, 0, 0, 0⟩ : S25) [.int .i64 6, .int .i64 0, .int .i64 0, .int .i64 0] from (k25_mkM _ _ _ (⟨6, 0, 0, 0⟩ : S25) )) (Reps.c4 (show Kd.M k25 _ _ _ (⟨7, 0, 0, 0⟩ : S25) [.int .i64 7, .int .i64 0, .int .i64 0, .int .i64 0] from (k25_mkM _ _ _ (⟨7, 0, 0, 0⟩ : S25) )) (Reps.none _ _))))); intro v121 w8 ho9 hb hg_ hnew_; clear hg_ hnew_; (first | rw [← Ny120.out] at ho9 | (simp only [Int.reduceToNat] at ho9; rw [← Ny120.out] at ho9)); have n0_ := Aside0.mk (Kd.R_elder' (by (with_reducible repeat (first | apply Kd.R_alloc | apply Kd.R_drewN | apply Kd.R_drew)); exact HO_3.out) (Kd.R_base ho9) hb); have n1_ := Aside0.mk (Kd.R_lower (Kd.R_new' ho9 (Kd.R_lt (by (with_reducible repeat (first | apply Kd.R_alloc | apply Kd.R_drewN | apply Kd.R_drew)); exact HO_3.out))) (below_size (by repeat (first | (with_reducible first | exact HB.out | apply below_alloc | apply pw_below_drewN | apply below_drew1) | exact HB.out)))); have n2_ := Aside0.mk (below_step (by repeat (first | (with_reducible first | exact HB.out | apply below_alloc | apply pw_below_drewN | apply below_drew1) | exact HB.out)) hb); clear HO_3; clear HB; have HO_3 := n0_; have HO122 := n1_; have HB := n2_; clear n0_ n1_ n2_; clear hb ho9; obtain ⟨Ao11, co11, eo11⟩ := Kd.R_slice HO122.out; subst eo11) | ((with_reducible refine gate_builtin (b := .append) (xs := #[.tmp 21, .tmp 28]) rfl ?_); at_builtin; refine Kd.R_append_rows k25 (w0 := w) w.heap.size rfl (.tmp 21) (.tmp 28) 22 25 (.agg #[(.int .i64 0), (.int .i64 0), (.int .i64 0), (.int .i64 0)]) 32 rfl Try.underlying22 info25 rfl (by decide) (by omega) u3 x3_1 y120 _ _ _ (fun k_ => some k_ ≠ (.slice Ao11 y120.length co11 : Value).ownBlock) (fun _ => False) rfl rfl ?aO ?aR (fun _ _ h => h) (fun _ h => h.elim) ?aF ?aB ?aS ?aL ?_; (case aR => repeat (first | exact (Kd.R_reads' HO122.out).2.2 | (with_reducible refine Kd.C_alloc ?_ _) | (with_reducible refine Kd.C_drewN ?_ _) | (with_reducible refine Kd.C_drew ?_))); (case aB => exact (by repeat (first | (with_reducible first | exact HB.out | apply below_alloc | apply pw_below_drewN | apply below_drew1) | exact HB.out))); (case aF => exact (fun k_ hk => Kd.fresh' (Kd.R_lt (by (with_reducible repeat (first | apply Kd.R_alloc | apply Kd.R_drewN | apply Kd.R_drew)); exact HO122.out)) k_ hk)); (case aO => exact (by (with_reducible repeat (first | apply Kd.R_alloc | apply Kd.R_drewN | apply Kd.R_drew)); exact Kd.R_mono HO_3.out (fun _ hk => hk.2))); (case aS => exact (below_size (by repeat (first | (with_reducible first | exact HB.out | apply below_alloc | apply pw_below_drewN | apply below_drew1) | exact HB.out)))); (case aL => have := LMc7.out; omega); intro v124 w10 ho hb hg hat; rw [← Ny123.out] at ho; have n0_ := Aside0.mk (Kd.R_after (ok := (fun _ => True)) (by (with_reducible repeat (first | apply Kd.R_alloc | apply Kd.R_drewN | apply Kd.R_drew)); exact HO122.out) hg hat); have n1_ := Aside0.mk (hb); have n2_ := Aside0.mk (ho); clear HO122; clear HB; clear HO_3; have HO122 := n0_; have HB := n1_; have HO125 := n2_; clear n0_ n1_ n2_; clear ho hb hg hat)))
                go_roundg k1
                case measure => have := HK1.out; omega
                case rel => exact ⟨(y123), (wrap64 (x4_1 + 1)), (by first | rfl | (simp; done) | (simp [*]; done)), H', ⟨by have := HK1.out; omega⟩, ⟨by (with_reducible repeat (first | apply Kd.R_alloc | apply Kd.R_drewN | apply Kd.R_drew)); exact Kd.R_mono HO125.out (fun _ hk => trivial)⟩, ⟨by repeat (first | (with_reducible first | exact HB.out | apply below_alloc | apply pw_below_drewN | apply below_drew1) | exact HB.out)⟩⟩
              · rw [if_neg c7] at H
                exact absurd H (by simp)
            · rw [if_neg c6] at H
              exact absurd H (by simp)
          · rw [if_neg c5] at H
            have c5b0 : decide (x4_1 < (l0.length : Int)) = false := decide_eq_false c5
            clear c5
            replace H := Option.bind_eq_some_iff.mp H
            obtain ⟨t126, A120, H⟩ := H
            replace H : (if (t126.length : Int) = (x3_1.length : Int) then (laws_FnIntervalLow.l1 k1 l0 t126 0) else (some false)) = some r := H
            have A12 := Aside0.mk A120
            clear A120
            by_cases c13 : (t126.length : Int) = (x3_1.length : Int)
            · rw [if_pos c13] at H
              have c13b0 : ((t126.length : Int) == (x3_1.length : Int)) = true := beq_iff_eq.mpr c13
              have c13b1 : ((t126.length : Int) != (x3_1.length : Int)) = false := bne_eq_false_iff_eq.mpr c13
              have c13b2 : (t126.length == x3_1.length) = true := by first | simpa using c13 | (simp at c13 ⊢; omega)
              clear c13
              have H' := Aside0.mk H
              clear H
              obtain ⟨Ao14, co14, eo14⟩ := Kd.R_slice HO_3.out
              subst eo14
              go_wp2_with (first | (go_at_call 11; (with_reducible refine (impl_IntervalRun.calls _ _ x3_1 t126 _ ?side1 ?side2 A12.out).mono ?_); (case side1 => repeat (first | exact (Kd.R_reads' HO_3.out).2.2 | (with_reducible refine Kd.C_alloc ?_ _) | (with_reducible refine Kd.C_drewN ?_ _) | (with_reducible refine Kd.C_drew ?_))); (case side2 => exact (Kd.R_reads' HO_3.out).2.1); rintro e w15 ⟨v127, rfl, ho0, hb⟩; have n0_ := Aside0.mk (Kd.R_below (by (with_reducible repeat (first | apply Kd.R_alloc | apply Kd.R_drewN | apply Kd.R_drew)); exact HO_3.out) hb); have n1_ := Aside0.mk (Kd.S_lower ho0 (below_size (by repeat (first | (with_reducible first | exact HB.out | apply below_alloc | apply pw_below_drewN | apply below_drew1) | exact HB.out)))); have n2_ := Aside0.mk (below_step (by repeat (first | (with_reducible first | exact HB.out | apply below_alloc | apply pw_below_drewN | apply below_drew1) | exact HB.out)) hb); clear HO_3; clear HB; have HO_3 := n0_; have HO128 := n1_; have HB := n2_; clear n0_ n1_ n2_; (try clear hb); (try clear hb2); (try clear hk); (try clear hi); (try clear ho0); obtain ⟨Ao16, co16, eo16⟩ := Kd.S_slice HO128.out; subst eo16))
              repeat (go_quiet (first | (go_at_call 11; (with_reducible refine (impl_IntervalRun.calls _ _ x3_1 t126 _ ?side1 ?side2 A12.out).mono ?_); (case side1 => repeat (first | exact (Kd.R_reads' HO_3.out).2.2 | (with_reducible refine Kd.C_alloc ?_ _) | (with_reducible refine Kd.C_drewN ?_ _) | (with_reducible refine Kd.C_drew ?_))); (case side2 => exact (Kd.R_reads' HO_3.out).2.1); rintro e w15 ⟨v127, rfl, ho0, hb⟩; have n0_ := Aside0.mk (Kd.R_below (by (with_reducible repeat (first | apply Kd.R_alloc | apply Kd.R_drewN | apply Kd.R_drew)); exact HO_3.out) hb); have n1_ := Aside0.mk (Kd.S_lower ho0 (below_size (by repeat (first | (with_reducible first | exact HB.out | apply below_alloc | apply pw_below_drewN | apply below_drew1) | exact HB.out)))); have n2_ := Aside0.mk (below_step (by repeat (first | (with_reducible first | exact HB.out | apply below_alloc | apply pw_below_drewN | apply below_drew1) | exact HB.out)) hb); clear HO_3; clear HB; have HO_3 := n0_; have HO128 := n1_; have HB := n2_; clear n0_ n1_ n2_; (try clear hb); (try clear hb2); (try clear hk); (try clear hi); (try clear ho0); obtain ⟨Ao16, co16, eo16⟩ := Kd.S_slice HO128.out; subst eo16)); try go_wp2_with (first | (go_at_call 11; (with_reducible refine (impl_IntervalRun.calls _ _ x3_1 t126 _ ?side1 ?side2 A12.out).mono ?_); (case side1 => repeat (first | exact (Kd.R_reads' HO_3.out).2.2 | (with_reducible refine Kd.C_alloc ?_ _) | (with_reducible refine Kd.C_drewN ?_ _) | (with_reducible refine Kd.C_drew ?_))); (case side2 => exact (Kd.R_reads' HO_3.out).2.1); rintro e w15 ⟨v127, rfl, ho0, hb⟩; have n0_ := Aside0.mk (Kd.R_below (by (with_reducible repeat (first | apply Kd.R_alloc | apply Kd.R_drewN | apply Kd.R_drew)); exact HO_3.out) hb); have n1_ := Aside0.mk (Kd.S_lower ho0 (below_size (by repeat (first | (with_reducible first | exact HB.out | apply below_alloc | apply pw_below_drewN | apply below_drew1) | exact HB.out)))); have n2_ := Aside0.mk (below_step (by repeat (first | (with_reducible first | exact HB.out | apply below_alloc | apply pw_below_drewN | apply below_drew1) | exact HB.out)) hb); clear HO_3; clear HB; have HO_3 := n0_; have HO128 := n1_; have HB := n2_; clear n0_ n1_ n2_; (try clear hb); (try clear hb2); (try clear hk); (try clear hi); (try clear ho0); obtain ⟨Ao16, co16, eo16⟩ := Kd.S_slice HO128.out; subst eo16)))
              go_loopg [6] k1 (fun kq v6 w' => ∃ (x6_2 : Int), v6 = .int .i64 x6_2 ∧ Aside0 (laws_FnIntervalLow.l1 kq l0 t126 x6_2 = some r) ∧ Aside0 (kq ≤ k1) ∧ Aside0 (Kd.S k32 32 w' w.heap.size (fun _ => True) (.slice Ao16 t126.length co16) t126) ∧ Aside0 (Below w.heap.size w w'))
              case atStart => exact ⟨(0), (by first | rfl | (simp; done) | (simp [*]; done)), H', ⟨Nat.le_refl _⟩, ⟨by (with_reducible repeat (first | apply Kd.S_alloc | apply Kd.S_drewN | apply Kd.S_drew)); exact HO128.out⟩, ⟨by repeat (first | (with_reducible first | exact HB.out | apply below_alloc | apply pw_below_drewN | apply below_drew1) | exact HB.out)⟩⟩
              case round =>
                clear H'
                try clear c1
                try clear p1
                try clear q1
                try clear hx1
                try clear c2
                try clear c2b0
                try clear c2b1
                try clear p2
                try clear c3
                try clear c4
                try clear c5
                try clear c5b0
                try clear c6
                try clear c6b0
                try clear p6
                try clear c7
                try clear p11
                try clear q11
                try clear hx11
                try clear c13
                try clear c13b0
                try clear c13b1
                try clear c13b2
                try clear hx119_0
                try clear hx119_1
                try clear hx119_2
                try clear hx119_3
                try clear p119
                try clear p2
                try clear q119
                obtain ⟨x6_2, rfl, HA, HK2, HO_5, HB⟩ := hrel
                cases gk with
                | zero => exact absurd HA.out (by simp [laws_FnIntervalLow.l1])
                | succ k2 =>
                  have H := HA.out
                  clear HA
                  simp only [laws_FnIntervalLow.l1] at H
                  by_cases c17 : x6_2 < (l0.length : Int)
                  · rw [if_pos c17] at H
                    have c17b0 : decide (x6_2 < (l0.length : Int)) = true := decide_eq_true c17
                    clear c17
                    obtain ⟨ji18, hji18⟩ : ∃ j_ : Int, (wrap64 ((wrap64 (3 * x6_2)) + 1)) = j_ := ⟨_, rfl⟩
                    replace H : (if 0 ≤ (ji18) then (if (ji18) < (t126.length : Int) then (if 0 ≤ (wrap64 ((wrap64 (3 * x6_2)) + 2)) then (if (wrap64 ((wrap64 (3 * x6_2)) + 2)) < (t126.length : Int) then (if ((rd_T32 t126 (wrap64 ((wrap64 (3 * x6_2)) + 2))).f3) < 0 then (some false) else ((spec_Least.f k2 ((rd_T32 t126 (wrap64 ((wrap64 (3 * x6_2)) + 2))).f3)).bind fun t131 => (if ((rd_T32 t126 (ji18)).f3) < t131 then (some false) else (if ((rd_T32 t126 (wrap64 ((wrap64 (3 * x6_2)) + 2))).f3) < 62 then (if 0 ≤ (IntKind.u64.wrap ((rd_T32 t126 (wrap64 ((wrap64 (3 * x6_2)) + 2))).f3)) then (if ((rd_T32 t126 (ji18)).f3) ≥ (shl .i64 1 (IntKind.u64.wrap ((rd_T32 t126 (wrap64 ((wrap64 (3 * x6_2)) + 2))).f3))) then (some false) else (laws_FnIntervalLow.l1 k2 l0 t126 (wrap64 (x6_2 + 1)))) else (none)) else (laws_FnIntervalLow.l1 k2 l0 t126 (wrap64 (x6_2 + 1))))))) else (none)) else (none)) else (none)) else (none)) = some r := by first | (rw [hji18] at H; exact H) | (simp only [hji18] at H ⊢; exact H)
                    have hji18w : (IntKind.i64.wrap ((wrap64 (3 * x6_2)) + 1)) = ji18 := (i64_w _).trans hji18
                    by_cases c19 : 0 ≤ (ji18)
                    · rw [if_pos c19] at H
                      have c19b0 : decide (0 ≤ (ji18)) = true := decide_eq_true c19
                      clear c19
                      by_cases c20 : (ji18) < (t126.length : Int)
                      · rw [if_pos c20] at H
                        have c20b0 : decide ((ji18) < (t126.length : Int)) = true := decide_eq_true c20
                        clear c20
                        obtain ⟨ji21, hji21⟩ : ∃ j_ : Int, (wrap64 ((wrap64 (3 * x6_2)) + 2)) = j_ := ⟨_, rfl⟩
                        replace H : (if 0 ≤ (ji21) then (if (ji21) < (t126.length : Int) then (if ((rd_T32 t126 (ji21)).f3) < 0 then (some false) else ((spec_Least.f k2 ((rd_T32 t126 (ji21)).f3)).bind fun t131 => (if ((rd_T32 t126 (ji18)).f3) < t131 then (some false) else (if ((rd_T32 t126 (ji21)).f3) < 62 then (if 0 ≤ (IntKind.u64.wrap ((rd_T32 t126 (ji21)).f3)) then (if ((rd_T32 t126 (ji18)).f3) ≥ (shl .i64 1 (IntKind.u64.wrap ((rd_T32 t126 (ji21)).f3))) then (some false) else (laws_FnIntervalLow.l1 k2 l0 t126 (wrap64 (x6_2 + 1)))) else (none)) else (laws_FnIntervalLow.l1 k2 l0 t126 (wrap64 (x6_2 + 1))))))) else (none)) else (none)) = some r := by first | (rw [hji21] at H; exact H) | (simp only [hji21] at H ⊢; exact H)
                        have hji21w : (IntKind.i64.wrap ((wrap64 (3 * x6_2)) + 2)) = ji21 := (i64_w _).trans hji21
                        by_cases c22 : 0 ≤ (ji21)
                        · rw [if_pos c22] at H
                          have c22b0 : decide (0 ≤ (ji21)) = true := decide_eq_true c22
                          clear c22
                          by_cases c23 : (ji21) < (t126.length : Int)
                          · rw [if_pos c23] at H
                            have c23b0 : decide ((ji21) < (t126.length : Int)) = true := decide_eq_true c23
                            clear c23
                            by_cases c24 : ((rd_T32 t126 (ji21)).f3) < 0
                            · rw [if_pos c24] at H
                              have c24b0 : decide (((rd_T32 t126 (ji21)).f3) < 0) = true := decide_eq_true c24
                              clear c24
                              obtain rfl := Option.some.inj H
                              have p129 : 0 ≤ ((ji18) : Int) := of_decide_eq_true (by first | (with_reducible assumption) | assumption)
                              have q129 : (ji18) < (t126.length : Int) := of_decide_eq_true (by first | (with_reducible assumption) | assumption)
                              obtain ⟨ad129, A129_4, c129_4, e129, hx129_0, hx129_1, hx129_2, hx129_3, hx129_4, hx129_5, hl129_4, hi129_4⟩ := at_T32 (Kd.S_reads' HO_5.out).2.2 (ji18) p129 q129
                              cases e129
                              obtain ⟨ce129, hce129, hMe129, hcc129⟩ := Kd.S_get HO_5.out z32 (ji18) p129 (by first | exact q129 | exact of_decide_eq_true (by first | (with_reducible assumption) | assumption) | (have e_ := (Kd.S_reads' HO_5.out).1; omega))
                              obtain ⟨ve129_4, rfl, ge129_4⟩ := k32_openM hMe129
                              have hv129_4 := hcc129 4 _ rfl
                              rw [add_field _ _ 4 (by omega)] at hv129_4
                              replace hv129_4 := Option.some.inj (hv129_4.symm.trans hx129_4)
                              rw [hv129_4] at ge129_4
                              have HL129_4 := Aside0.mk (show Kd.R k29 29 _ _ _ _ ((rd_T32 t126 (ji18)).f2) from ge129_4)
                              clear hv129_4 ge129_4
                              clear hcc129 hce129
                              have HR129_4 := Aside0.mk hi129_4
                              have HC129_4 := Aside0.mk hl129_4
                              clear hi129_4 hl129_4
                              replace p129 := eq_true p129
                              replace q129 := eq_true q129
                              have p130 : 0 ≤ ((ji21) : Int) := of_decide_eq_true (by first | (with_reducible assumption) | assumption)
                              have q130 : (ji21) < (t126.length : Int) := of_decide_eq_true (by first | (with_reducible assumption) | assumption)
                              obtain ⟨ad130, A130_4, c130_4, e130, hx130_0, hx130_1, hx130_2, hx130_3, hx130_4, hx130_5, hl130_4, hi130_4⟩ := at_T32 (Kd.S_reads' HO_5.out).2.2 (ji21) p130 q130
                              obtain rfl : ad129 = ad130 := (by injection e130)
                              obtain ⟨ce130, hce130, hMe130, hcc130⟩ := Kd.S_get HO_5.out z32 (ji21) p130 (by first | exact q130 | exact of_decide_eq_true (by first | (with_reducible assumption) | assumption) | (have e_ := (Kd.S_reads' HO_5.out).1; omega))
                              obtain ⟨ve130_4, rfl, ge130_4⟩ := k32_openM hMe130
                              have hv130_4 := hcc130 4 _ rfl
                              rw [add_field _ _ 4 (by omega)] at hv130_4
                              replace hv130_4 := Option.some.inj (hv130_4.symm.trans hx130_4)
                              rw [hv130_4] at ge130_4
                              have HL130_4 := Aside0.mk (show Kd.R k29 29 _ _ _ _ ((rd_T32 t126 (ji21)).f2) from ge130_4)
                              clear hv130_4 ge130_4
                              clear hcc130 hce130
                              have HR130_4 := Aside0.mk hi130_4
                              have HC130_4 := Aside0.mk hl130_4
                              clear hi130_4 hl130_4
                              replace p130 := eq_true p130
                              replace q130 := eq_true q130
                              go_wp2
                              repeat (go_quiet (fail); try go_wp2)
                              go_ret
                              exact ⟨by first | rfl | (simp [errW_none, errW_some] <;> rfl) | (simp only [← hji18, ← hji21]; first | rfl | (simp [errW_none, errW_some] <;> rfl)) | (simp [*, errW_none, errW_some] <;> rfl), by repeat (first | (with_reducible first | exact HB.out | apply below_alloc | apply pw_below_drewN | apply below_drew1) | exact HB.out)⟩
                            · rw [if_neg c24] at H
                              have c24b0 : decide (((rd_T32 t126 (ji21)).f3) < 0) = false := decide_eq_false c24
                              clear c24
                              replace H := Option.bind_eq_some_iff.mp H
                              obtain ⟨t131, A250, H⟩ := H
                              replace H : (if ((rd_T32 t126 (ji18)).f3) < t131 then (some false) else (if ((rd_T32 t126 (ji21)).f3) < 62 then (if 0 ≤ (IntKind.u64.wrap ((rd_T32 t126 (ji21)).f3)) then (if ((rd_T32 t126 (ji18)).f3) ≥ (shl .i64 1 (IntKind.u64.wrap ((rd_T32 t126 (ji21)).f3))) then (some false) else (laws_FnIntervalLow.l1 k2 l0 t126 (wrap64 (x6_2 + 1)))) else (none)) else (laws_FnIntervalLow.l1 k2 l0 t126 (wrap64 (x6_2 + 1))))) = some r := H
                              have A25 := Aside0.mk A250
                              clear A250
                              by_cases c26 : ((rd_T32 t126 (ji18)).f3) < t131
                              · rw [if_pos c26] at H
                                have c26b0 : decide (((rd_T32 t126 (ji18)).f3) < t131) = true := decide_eq_true c26
                                clear c26
                                obtain rfl := Option.some.inj H
                                have p129 : 0 ≤ ((ji18) : Int) := of_decide_eq_true (by first | (with_reducible assumption) | assumption)
                                have q129 : (ji18) < (t126.length : Int) := of_decide_eq_true (by first | (with_reducible assumption) | assumption)
                                obtain ⟨ad129, A129_4, c129_4, e129, hx129_0, hx129_1, hx129_2, hx129_3, hx129_4, hx129_5, hl129_4, hi129_4⟩ := at_T32 (Kd.S_reads' HO_5.out).2.2 (ji18) p129 q129
                                cases e129
                                obtain ⟨ce129, hce129, hMe129, hcc129⟩ := Kd.S_get HO_5.out z32 (ji18) p129 (by first | exact q129 | exact of_decide_eq_true (by first | (with_reducible assumption) | assumption) | (have e_ := (Kd.S_reads' HO_5.out).1; omega))
                                obtain ⟨ve129_4, rfl, ge129_4⟩ := k32_openM hMe129
                                have hv129_4 := hcc129 4 _ rfl
                                rw [add_field _ _ 4 (by omega)] at hv129_4
                                replace hv129_4 := Option.some.inj (hv129_4.symm.trans hx129_4)
                                rw [hv129_4] at ge129_4
                                have HL129_4 := Aside0.mk (show Kd.R k29 29 _ _ _ _ ((rd_T32 t126 (ji18)).f2) from ge129_4)
                                clear hv129_4 ge129_4
                                clear hcc129 hce129
                                have HR129_4 := Aside0.mk hi129_4
                                have HC129_4 := Aside0.mk hl129_4
                                clear hi129_4 hl129_4
                                replace p129 := eq_true p129
                                replace q129 := eq_true q129
                                have p130 : 0 ≤ ((ji21) : Int) := of_decide_eq_true (by first | (with_reducible assumption) | assumption)
                                have q130 : (ji21) < (t126.length : Int) := of_decide_eq_true (by first | (with_reducible assumption) | assumption)
                                obtain ⟨ad130, A130_4, c130_4, e130, hx130_0, hx130_1, hx130_2, hx130_3, hx130_4, hx130_5, hl130_4, hi130_4⟩ := at_T32 (Kd.S_reads' HO_5.out).2.2 (ji21) p130 q130
                                obtain rfl : ad129 = ad130 := (by injection e130)
                                obtain ⟨ce130, hce130, hMe130, hcc130⟩ := Kd.S_get HO_5.out z32 (ji21) p130 (by first | exact q130 | exact of_decide_eq_true (by first | (with_reducible assumption) | assumption) | (have e_ := (Kd.S_reads' HO_5.out).1; omega))
                                obtain ⟨ve130_4, rfl, ge130_4⟩ := k32_openM hMe130
                                have hv130_4 := hcc130 4 _ rfl
                                rw [add_field _ _ 4 (by omega)] at hv130_4
                                replace hv130_4 := Option.some.inj (hv130_4.symm.trans hx130_4)
                                rw [hv130_4] at ge130_4
                                have HL130_4 := Aside0.mk (show Kd.R k29 29 _ _ _ _ ((rd_T32 t126 (ji21)).f2) from ge130_4)
                                clear hv130_4 ge130_4
                                clear hcc130 hce130
                                have HR130_4 := Aside0.mk hi130_4
                                have HC130_4 := Aside0.mk hl130_4
                                clear hi130_4 hl130_4
                                replace p130 := eq_true p130
                                replace q130 := eq_true q130
                                go_wp2_with (first | (go_at_call 12; (with_reducible refine (spec_Least.calls k2 ((rd_T32 t126 (ji21)).f3) t131 _ A25.out).mono ?_); rintro e w' ⟨rfl, ⟨nd, rfl⟩⟩; (try first | exact ⟨rfl, _, World.drewN_drewN _ _ _⟩ | exact ⟨rfl, _, Eq.trans (World.drewN_drewN _ _ _) (congrArg (World.drewN _) (Nat.add_assoc _ _ _))⟩)))
                                repeat (go_quiet (first | (go_at_call 12; (with_reducible refine (spec_Least.calls k2 ((rd_T32 t126 (ji21)).f3) t131 _ A25.out).mono ?_); rintro e w' ⟨rfl, ⟨nd, rfl⟩⟩; (try first | exact ⟨rfl, _, World.drewN_drewN _ _ _⟩ | exact ⟨rfl, _, Eq.trans (World.drewN_drewN _ _ _) (congrArg (World.drewN _) (Nat.add_assoc _ _ _))⟩))); try go_wp2_with (first | (go_at_call 12; (with_reducible refine (spec_Least.calls k2 ((rd_T32 t126 (ji21)).f3) t131 _ A25.out).mono ?_); rintro e w' ⟨rfl, ⟨nd, rfl⟩⟩; (try first | exact ⟨rfl, _, World.drewN_drewN _ _ _⟩ | exact ⟨rfl, _, Eq.trans (World.drewN_drewN _ _ _) (congrArg (World.drewN _) (Nat.add_assoc _ _ _))⟩))))
                                go_ret
                                exact ⟨by first | rfl | (simp [errW_none, errW_some] <;> rfl) | (simp only [← hji18, ← hji21]; first | rfl | (simp [errW_none, errW_some] <;> rfl)) | (simp [*, errW_none, errW_some] <;> rfl), by repeat (first | (with_reducible first | exact HB.out | apply below_alloc | apply pw_below_drewN | apply below_drew1) | exact HB.out)⟩
                              · rw [if_neg c26] at H
                                have c26b0 : decide (((rd_T32 t126 (ji18)).f3) < t131) = false := decide_eq_false c26
                                clear c26
                                by_cases c27 : ((rd_T32 t126 (ji21)).f3) < 62
                                · rw [if_pos c27] at H
                                  have c27b0 : decide (((rd_T32 t126 (ji21)).f3) < 62) = true := decide_eq_true c27
                                  clear c27
                                  obtain ⟨ji28, hji28⟩ : ∃ j_ : Int, (IntKind.u64.wrap ((rd_T32 t126 (ji21)).f3)) = j_ := ⟨_, rfl⟩
                                  replace H : (if 0 ≤ (ji28) then (if ((rd_T32 t126 (ji18)).f3) ≥ (shl .i64 1 (ji28)) then (some false) else (laws_FnIntervalLow.l1 k2 l0 t126 (wrap64 (x6_2 + 1)))) else (none)) = some r := by first | (rw [hji28] at H; exact H) | (simp only [hji28] at H ⊢; exact H)
                                  (try rw [hji28] at A25)
                                  by_cases c29 : 0 ≤ (ji28)
                                  · rw [if_pos c29] at H
                                    have c29b0 := eq_true c29
                                    have c29b1 : decide (0 ≤ (ji28)) = true := decide_eq_true c29
                                    clear c29
                                    obtain ⟨ji30, hji30⟩ : ∃ j_ : Int, (shl .i64 1 (ji28)) = j_ := ⟨_, rfl⟩
                                    replace H : (if ((rd_T32 t126 (ji18)).f3) ≥ (ji30) then (some false) else (laws_FnIntervalLow.l1 k2 l0 t126 (wrap64 (x6_2 + 1)))) = some r := by first | (rw [hji30] at H; exact H) | (simp only [hji30] at H ⊢; exact H)
                                    (try rw [hji30] at A25)
                                    have hji30_ : (IntKind.i64.wrap (1 * 2 ^ min (ji28).toNat 64)) = ji30 := hji30
                                    have hji30z : (ji28) ≤ 64 → (IntKind.i64.wrap (1 * 2 ^ (ji28).toNat)) = ji30 := shl_small hji30
                                    have hji30u : (IntKind.i64.wrap (2 ^ min (ji28).toNat 64)) = ji30 := by have h_ := hji30_; rw [Int.one_mul] at h_; exact h_
                                    have hji30v : (ji28) ≤ 64 → (IntKind.i64.wrap (2 ^ (ji28).toNat)) = ji30 := fun hle_ => by have h_ := hji30z hle_; rw [Int.one_mul] at h_; exact h_
                                    have hji30y : (wrap64 (1 * 2 ^ min (ji28).toNat 64)) = ji30 := (i64_w _).symm.trans hji30_
                                    have hji30x : (ji28) ≤ 64 → (wrap64 (1 * 2 ^ (ji28).toNat)) = ji30 := fun h_ => (i64_w _).symm.trans (hji30z h_)
                                    by_cases c31 : ((rd_T32 t126 (ji18)).f3) ≥ (ji30)
                                    · rw [if_pos c31] at H
                                      have c31b0 : decide ((ji30) ≤ ((rd_T32 t126 (ji18)).f3)) = true := decide_eq_true c31
                                      clear c31
                                      obtain rfl := Option.some.inj H
                                      have p129 : 0 ≤ ((ji18) : Int) := of_decide_eq_true (by first | (with_reducible assumption) | assumption)
                                      have q129 : (ji18) < (t126.length : Int) := of_decide_eq_true (by first | (with_reducible assumption) | assumption)
                                      obtain ⟨ad129, A129_4, c129_4, e129, hx129_0, hx129_1, hx129_2, hx129_3, hx129_4, hx129_5, hl129_4, hi129_4⟩ := at_T32 (Kd.S_reads' HO_5.out).2.2 (ji18) p129 q129
                                      cases e129
                                      obtain ⟨ce129, hce129, hMe129, hcc129⟩ := Kd.S_get HO_5.out z32 (ji18) p129 (by first | exact q129 | exact of_decide_eq_true (by first | (with_reducible assumption) | assumption) | (have e_ := (Kd.S_reads' HO_5.out).1; omega))
                                      obtain ⟨ve129_4, rfl, ge129_4⟩ := k32_openM hMe129
                                      have hv129_4 := hcc129 4 _ rfl
                                      rw [add_field _ _ 4 (by omega)] at hv129_4
                                      replace hv129_4 := Option.some.inj (hv129_4.symm.trans hx129_4)
                                      rw [hv129_4] at ge129_4
                                      have HL129_4 := Aside0.mk (show Kd.R k29 29 _ _ _ _ ((rd_T32 t126 (ji18)).f2) from ge129_4)
                                      clear hv129_4 ge129_4
                                      clear hcc129 hce129
                                      have HR129_4 := Aside0.mk hi129_4
                                      have HC129_4 := Aside0.mk hl129_4
                                      clear hi129_4 hl129_4
                                      replace p129 := eq_true p129
                                      replace q129 := eq_true q129
                                      have p130 : 0 ≤ ((ji21) : Int) := of_decide_eq_true (by first | (with_reducible assumption) | assumption)
                                      have q130 : (ji21) < (t126.length : Int) := of_decide_eq_true (by first | (with_reducible assumption) | assumption)
                                      obtain ⟨ad130, A130_4, c130_4, e130, hx130_0, hx130_1, hx130_2, hx130_3, hx130_4, hx130_5, hl130_4, hi130_4⟩ := at_T32 (Kd.S_reads' HO_5.out).2.2 (ji21) p130 q130
                                      obtain rfl : ad129 = ad130 := (by injection e130)
                                      obtain ⟨ce130, hce130, hMe130, hcc130⟩ := Kd.S_get HO_5.out z32 (ji21) p130 (by first | exact q130 | exact of_decide_eq_true (by first | (with_reducible assumption) | assumption) | (have e_ := (Kd.S_reads' HO_5.out).1; omega))
                                      obtain ⟨ve130_4, rfl, ge130_4⟩ := k32_openM hMe130
                                      have hv130_4 := hcc130 4 _ rfl
                                      rw [add_field _ _ 4 (by omega)] at hv130_4
                                      replace hv130_4 := Option.some.inj (hv130_4.symm.trans hx130_4)
                                      rw [hv130_4] at ge130_4
                                      have HL130_4 := Aside0.mk (show Kd.R k29 29 _ _ _ _ ((rd_T32 t126 (ji21)).f2) from ge130_4)
                                      clear hv130_4 ge130_4
                                      clear hcc130 hce130
                                      have HR130_4 := Aside0.mk hi130_4
                                      have HC130_4 := Aside0.mk hl130_4
                                      clear hi130_4 hl130_4
                                      replace p130 := eq_true p130
                                      replace q130 := eq_true q130
                                      go_wp2_with (first | (go_at_call 12; (with_reducible refine (spec_Least.calls k2 ((rd_T32 t126 (ji21)).f3) t131 _ A25.out).mono ?_); rintro e w' ⟨rfl, ⟨nd, rfl⟩⟩; (try first | exact ⟨rfl, _, World.drewN_drewN _ _ _⟩ | exact ⟨rfl, _, Eq.trans (World.drewN_drewN _ _ _) (congrArg (World.drewN _) (Nat.add_assoc _ _ _))⟩)))
                                      repeat (go_quiet (first | (go_at_call 12; (with_reducible refine (spec_Least.calls k2 ((rd_T32 t126 (ji21)).f3) t131 _ A25.out).mono ?_); rintro e w' ⟨rfl, ⟨nd, rfl⟩⟩; (try first | exact ⟨rfl, _, World.drewN_drewN _ _ _⟩ | exact ⟨rfl, _, Eq.trans (World.drewN_drewN _ _ _) (congrArg (World.drewN _) (Nat.add_assoc _ _ _))⟩))); try go_wp2_with (first | (go_at_call 12; (with_reducible refine (spec_Least.calls k2 ((rd_T32 t126 (ji21)).f3) t131 _ A25.out).mono ?_); rintro e w' ⟨rfl, ⟨nd, rfl⟩⟩; (try first | exact ⟨rfl, _, World.drewN_drewN _ _ _⟩ | exact ⟨rfl, _, Eq.trans (World.drewN_drewN _ _ _) (congrArg (World.drewN _) (Nat.add_assoc _ _ _))⟩))))
                                      go_ret
                                      exact ⟨by first | rfl | (simp [errW_none, errW_some] <;> rfl) | (simp only [← hji18, ← hji21, ← hji28, ← hji30]; first | rfl | (simp [errW_none, errW_some] <;> rfl)) | (simp [*, errW_none, errW_some] <;> rfl), by repeat (first | (with_reducible first | exact HB.out | apply below_alloc | apply pw_below_drewN | apply below_drew1) | exact HB.out)⟩
                                    · rw [if_neg c31] at H
                                      have c31b0 : decide ((ji30) ≤ ((rd_T32 t126 (ji18)).f3)) = false := decide_eq_false c31
                                      clear c31
                                      have H' := Aside0.mk H
                                      clear H
                                      have p129 : 0 ≤ ((ji18) : Int) := of_decide_eq_true (by first | (with_reducible assumption) | assumption)
                                      have q129 : (ji18) < (t126.length : Int) := of_decide_eq_true (by first | (with_reducible assumption) | assumption)
                                      obtain ⟨ad129, A129_4, c129_4, e129, hx129_0, hx129_1, hx129_2, hx129_3, hx129_4, hx129_5, hl129_4, hi129_4⟩ := at_T32 (Kd.S_reads' HO_5.out).2.2 (ji18) p129 q129
                                      cases e129
                                      obtain ⟨ce129, hce129, hMe129, hcc129⟩ := Kd.S_get HO_5.out z32 (ji18) p129 (by first | exact q129 | exact of_decide_eq_true (by first | (with_reducible assumption) | assumption) | (have e_ := (Kd.S_reads' HO_5.out).1; omega))
                                      obtain ⟨ve129_4, rfl, ge129_4⟩ := k32_openM hMe129
                                      have hv129_4 := hcc129 4 _ rfl
                                      rw [add_field _ _ 4 (by omega)] at hv129_4
                                      replace hv129_4 := Option.some.inj (hv129_4.symm.trans hx129_4)
                                      rw [hv129_4] at ge129_4
                                      have HL129_4 := Aside0.mk (show Kd.R k29 29 _ _ _ _ ((rd_T32 t126 (ji18)).f2) from ge129_4)
                                      clear hv129_4 ge129_4
                                      clear hcc129 hce129
                                      have HR129_4 := Aside0.mk hi129_4
                                      have HC129_4 := Aside0.mk hl129_4
                                      clear hi129_4 hl129_4
                                      replace p129 := eq_true p129
                                      replace q129 := eq_true q129
                                      have p130 : 0 ≤ ((ji21) : Int) := of_decide_eq_true (by first | (with_reducible assumption) | assumption)
                                      have q130 : (ji21) < (t126.length : Int) := of_decide_eq_true (by first | (with_reducible assumption) | assumption)
                                      obtain ⟨ad130, A130_4, c130_4, e130, hx130_0, hx130_1, hx130_2, hx130_3, hx130_4, hx130_5, hl130_4, hi130_4⟩ := at_T32 (Kd.S_reads' HO_5.out).2.2 (ji21) p130 q130
                                      obtain rfl : ad129 = ad130 := (by injection e130)
                                      obtain ⟨ce130, hce130, hMe130, hcc130⟩ := Kd.S_get HO_5.out z32 (ji21) p130 (by first | exact q130 | exact of_decide_eq_true (by first | (with_reducible assumption) | assumption) | (have e_ := (Kd.S_reads' HO_5.out).1; omega))
                                      obtain ⟨ve130_4, rfl, ge130_4⟩ := k32_openM hMe130
                                      have hv130_4 := hcc130 4 _ rfl
                                      rw [add_field _ _ 4 (by omega)] at hv130_4
                                      replace hv130_4 := Option.some.inj (hv130_4.symm.trans hx130_4)
                                      rw [hv130_4] at ge130_4
                                      have HL130_4 := Aside0.mk (show Kd.R k29 29 _ _ _ _ ((rd_T32 t126 (ji21)).f2) from ge130_4)
                                      clear hv130_4 ge130_4
                                      clear hcc130 hce130
                                      have HR130_4 := Aside0.mk hi130_4
                                      have HC130_4 := Aside0.mk hl130_4
                                      clear hi130_4 hl130_4
                                      replace p130 := eq_true p130
                                      replace q130 := eq_true q130
                                      go_wp2_with (first | (go_at_call 12; (with_reducible refine (spec_Least.calls k2 ((rd_T32 t126 (ji21)).f3) t131 _ A25.out).mono ?_); rintro e w' ⟨rfl, ⟨nd, rfl⟩⟩; (try first | exact ⟨rfl, _, World.drewN_drewN _ _ _⟩ | exact ⟨rfl, _, Eq.trans (World.drewN_drewN _ _ _) (congrArg (World.drewN _) (Nat.add_assoc _ _ _))⟩)))
                                      repeat (go_quiet (first | (go_at_call 12; (with_reducible refine (spec_Least.calls k2 ((rd_T32 t126 (ji21)).f3) t131 _ A25.out).mono ?_); rintro e w' ⟨rfl, ⟨nd, rfl⟩⟩; (try first | exact ⟨rfl, _, World.drewN_drewN _ _ _⟩ | exact ⟨rfl, _, Eq.trans (World.drewN_drewN _ _ _) (congrArg (World.drewN _) (Nat.add_assoc _ _ _))⟩))); try go_wp2_with (first | (go_at_call 12; (with_reducible refine (spec_Least.calls k2 ((rd_T32 t126 (ji21)).f3) t131 _ A25.out).mono ?_); rintro e w' ⟨rfl, ⟨nd, rfl⟩⟩; (try first | exact ⟨rfl, _, World.drewN_drewN _ _ _⟩ | exact ⟨rfl, _, Eq.trans (World.drewN_drewN _ _ _) (congrArg (World.drewN _) (Nat.add_assoc _ _ _))⟩))))
                                      go_roundg k2
                                      case measure => have := HK1.out; have := HK2.out; omega
                                      case rel => exact ⟨(wrap64 (x6_2 + 1)), (by first | rfl | (simp; done) | (simp [*]; done)), H', ⟨by have := HK1.out; have := HK2.out; omega⟩, ⟨by (with_reducible repeat (first | apply Kd.S_alloc | apply Kd.S_drewN | apply Kd.S_drew)); exact HO_5.out⟩, ⟨by repeat (first | (with_reducible first | exact HB.out | apply below_alloc | apply pw_below_drewN | apply below_drew1) | exact HB.out)⟩⟩
                                  · rw [if_neg c29] at H
                                    exact absurd H (by simp)
                                · rw [if_neg c27] at H
                                  have c27b0 : decide (((rd_T32 t126 (ji21)).f3) < 62) = false := decide_eq_false c27
                                  clear c27
                                  have H' := Aside0.mk H
                                  clear H
                                  have p129 : 0 ≤ ((ji18) : Int) := of_decide_eq_true (by first | (with_reducible assumption) | assumption)
                                  have q129 : (ji18) < (t126.length : Int) := of_decide_eq_true (by first | (with_reducible assumption) | assumption)
                                  obtain ⟨ad129, A129_4, c129_4, e129, hx129_0, hx129_1, hx129_2, hx129_3, hx129_4, hx129_5, hl129_4, hi129_4⟩ := at_T32 (Kd.S_reads' HO_5.out).2.2 (ji18) p129 q129
                                  cases e129
                                  obtain ⟨ce129, hce129, hMe129, hcc129⟩ := Kd.S_get HO_5.out z32 (ji18) p129 (by first | exact q129 | exact of_decide_eq_true (by first | (with_reducible assumption) | assumption) | (have e_ := (Kd.S_reads' HO_5.out).1; omega))
                                  obtain ⟨ve129_4, rfl, ge129_4⟩ := k32_openM hMe129
                                  have hv129_4 := hcc129 4 _ rfl
                                  rw [add_field _ _ 4 (by omega)] at hv129_4
                                  replace hv129_4 := Option.some.inj (hv129_4.symm.trans hx129_4)
                                  rw [hv129_4] at ge129_4
                                  have HL129_4 := Aside0.mk (show Kd.R k29 29 _ _ _ _ ((rd_T32 t126 (ji18)).f2) from ge129_4)
                                  clear hv129_4 ge129_4
                                  clear hcc129 hce129
                                  have HR129_4 := Aside0.mk hi129_4
                                  have HC129_4 := Aside0.mk hl129_4
                                  clear hi129_4 hl129_4
                                  replace p129 := eq_true p129
                                  replace q129 := eq_true q129
                                  have p130 : 0 ≤ ((ji21) : Int) := of_decide_eq_true (by first | (with_reducible assumption) | assumption)
                                  have q130 : (ji21) < (t126.length : Int) := of_decide_eq_true (by first | (with_reducible assumption) | assumption)
                                  obtain ⟨ad130, A130_4, c130_4, e130, hx130_0, hx130_1, hx130_2, hx130_3, hx130_4, hx130_5, hl130_4, hi130_4⟩ := at_T32 (Kd.S_reads' HO_5.out).2.2 (ji21) p130 q130
                                  obtain rfl : ad129 = ad130 := (by injection e130)
                                  obtain ⟨ce130, hce130, hMe130, hcc130⟩ := Kd.S_get HO_5.out z32 (ji21) p130 (by first | exact q130 | exact of_decide_eq_true (by first | (with_reducible assumption) | assumption) | (have e_ := (Kd.S_reads' HO_5.out).1; omega))
                                  obtain ⟨ve130_4, rfl, ge130_4⟩ := k32_openM hMe130
                                  have hv130_4 := hcc130 4 _ rfl
                                  rw [add_field _ _ 4 (by omega)] at hv130_4
                                  replace hv130_4 := Option.some.inj (hv130_4.symm.trans hx130_4)
                                  rw [hv130_4] at ge130_4
                                  have HL130_4 := Aside0.mk (show Kd.R k29 29 _ _ _ _ ((rd_T32 t126 (ji21)).f2) from ge130_4)
                                  clear hv130_4 ge130_4
                                  clear hcc130 hce130
                                  have HR130_4 := Aside0.mk hi130_4
                                  have HC130_4 := Aside0.mk hl130_4
                                  clear hi130_4 hl130_4
                                  replace p130 := eq_true p130
                                  replace q130 := eq_true q130
                                  go_wp2_with (first | (go_at_call 12; (with_reducible refine (spec_Least.calls k2 ((rd_T32 t126 (ji21)).f3) t131 _ A25.out).mono ?_); rintro e w' ⟨rfl, ⟨nd, rfl⟩⟩; (try first | exact ⟨rfl, _, World.drewN_drewN _ _ _⟩ | exact ⟨rfl, _, Eq.trans (World.drewN_drewN _ _ _) (congrArg (World.drewN _) (Nat.add_assoc _ _ _))⟩)))
                                  repeat (go_quiet (first | (go_at_call 12; (with_reducible refine (spec_Least.calls k2 ((rd_T32 t126 (ji21)).f3) t131 _ A25.out).mono ?_); rintro e w' ⟨rfl, ⟨nd, rfl⟩⟩; (try first | exact ⟨rfl, _, World.drewN_drewN _ _ _⟩ | exact ⟨rfl, _, Eq.trans (World.drewN_drewN _ _ _) (congrArg (World.drewN _) (Nat.add_assoc _ _ _))⟩))); try go_wp2_with (first | (go_at_call 12; (with_reducible refine (spec_Least.calls k2 ((rd_T32 t126 (ji21)).f3) t131 _ A25.out).mono ?_); rintro e w' ⟨rfl, ⟨nd, rfl⟩⟩; (try first | exact ⟨rfl, _, World.drewN_drewN _ _ _⟩ | exact ⟨rfl, _, Eq.trans (World.drewN_drewN _ _ _) (congrArg (World.drewN _) (Nat.add_assoc _ _ _))⟩))))
                                  go_roundg k2
                                  case measure => have := HK1.out; have := HK2.out; omega
                                  case rel => exact ⟨(wrap64 (x6_2 + 1)), (by first | rfl | (simp; done) | (simp [*]; done)), H', ⟨by have := HK1.out; have := HK2.out; omega⟩, ⟨by (with_reducible repeat (first | apply Kd.S_alloc | apply Kd.S_drewN | apply Kd.S_drew)); exact HO_5.out⟩, ⟨by repeat (first | (with_reducible first | exact HB.out | apply below_alloc | apply pw_below_drewN | apply below_drew1) | exact HB.out)⟩⟩
                          · rw [if_neg c23] at H
                            exact absurd H (by simp)
                        · rw [if_neg c22] at H
                          exact absurd H (by simp)
                      · rw [if_neg c20] at H
                        exact absurd H (by simp)
                    · rw [if_neg c19] at H
                      exact absurd H (by simp)
                  · rw [if_neg c17] at H
                    have c17b0 : decide (x6_2 < (l0.length : Int)) = false := decide_eq_false c17
                    clear c17
                    obtain rfl := Option.some.inj H
                    go_wp2
                    repeat (go_quiet (fail); try go_wp2)
                    go_ret
                    exact ⟨by first | rfl | (simp [errW_none, errW_some] <;> rfl) | (simp [*, errW_none, errW_some] <;> rfl), by repeat (first | (with_reducible first | exact HB.out | apply below_alloc | apply pw_below_drewN | apply below_drew1) | exact HB.out)⟩
            · rw [if_neg c13] at H
              have c13b0 : ((t126.length : Int) == (x3_1.length : Int)) = false := beq_eq_false_iff_ne.mpr c13
              have c13b1 : ((t126.length : Int) != (x3_1.length : Int)) = true := bne_iff_ne.mpr c13
              have c13b2 : (t126.length == x3_1.length) = false := by first | simpa using c13 | (simp at c13 ⊢; omega)
              obtain rfl := Option.some.inj H
              obtain ⟨Ao32, co32, eo32⟩ := Kd.R_slice HO_3.out
              subst eo32
              go_wp2_with (first | (go_at_call 11; (with_reducible refine (impl_IntervalRun.calls _ _ x3_1 t126 _ ?side1 ?side2 A12.out).mono ?_); (case side1 => repeat (first | exact (Kd.R_reads' HO_3.out).2.2 | (with_reducible refine Kd.C_alloc ?_ _) | (with_reducible refine Kd.C_drewN ?_ _) | (with_reducible refine Kd.C_drew ?_))); (case side2 => exact (Kd.R_reads' HO_3.out).2.1); rintro e w33 ⟨v127, rfl, ho0, hb⟩; have n0_ := Aside0.mk (Kd.R_below (by (with_reducible repeat (first | apply Kd.R_alloc | apply Kd.R_drewN | apply Kd.R_drew)); exact HO_3.out) hb); have n1_ := Aside0.mk (Kd.S_lower ho0 (below_size (by repeat (first | (with_reducible first | exact HB.out | apply below_alloc | apply pw_below_drewN | apply below_drew1) | exact HB.out)))); have n2_ := Aside0.mk (below_step (by repeat (first | (with_reducible first | exact HB.out | apply below_alloc | apply pw_below_drewN | apply below_drew1) | exact HB.out)) hb); clear HO_3; clear HB; have HO_3 := n0_; have HO128 := n1_; have HB := n2_; clear n0_ n1_ n2_; (try clear hb); (try clear hb2); (try clear hk); (try clear hi); (try clear ho0); obtain ⟨Ao34, co34, eo34⟩ := Kd.S_slice HO128.out; subst eo34))
              repeat (go_quiet (first | (go_at_call 11; (with_reducible refine (impl_IntervalRun.calls _ _ x3_1 t126 _ ?side1 ?side2 A12.out).mono ?_); (case side1 => repeat (first | exact (Kd.R_reads' HO_3.out).2.2 | (with_reducible refine Kd.C_alloc ?_ _) | (with_reducible refine Kd.C_drewN ?_ _) | (with_reducible refine Kd.C_drew ?_))); (case side2 => exact (Kd.R_reads' HO_3.out).2.1); rintro e w33 ⟨v127, rfl, ho0, hb⟩; have n0_ := Aside0.mk (Kd.R_below (by (with_reducible repeat (first | apply Kd.R_alloc | apply Kd.R_drewN | apply Kd.R_drew)); exact HO_3.out) hb); have n1_ := Aside0.mk (Kd.S_lower ho0 (below_size (by repeat (first | (with_reducible first | exact HB.out | apply below_alloc | apply pw_below_drewN | apply below_drew1) | exact HB.out)))); have n2_ := Aside0.mk (below_step (by repeat (first | (with_reducible first | exact HB.out | apply below_alloc | apply pw_below_drewN | apply below_drew1) | exact HB.out)) hb); clear HO_3; clear HB; have HO_3 := n0_; have HO128 := n1_; have HB := n2_; clear n0_ n1_ n2_; (try clear hb); (try clear hb2); (try clear hk); (try clear hi); (try clear ho0); obtain ⟨Ao34, co34, eo34⟩ := Kd.S_slice HO128.out; subst eo34)); try go_wp2_with (first | (go_at_call 11; (with_reducible refine (impl_IntervalRun.calls _ _ x3_1 t126 _ ?side1 ?side2 A12.out).mono ?_); (case side1 => repeat (first | exact (Kd.R_reads' HO_3.out).2.2 | (with_reducible refine Kd.C_alloc ?_ _) | (with_reducible refine Kd.C_drewN ?_ _) | (with_reducible refine Kd.C_drew ?_))); (case side2 => exact (Kd.R_reads' HO_3.out).2.1); rintro e w33 ⟨v127, rfl, ho0, hb⟩; have n0_ := Aside0.mk (Kd.R_below (by (with_reducible repeat (first | apply Kd.R_alloc | apply Kd.R_drewN | apply Kd.R_drew)); exact HO_3.out) hb); have n1_ := Aside0.mk (Kd.S_lower ho0 (below_size (by repeat (first | (with_reducible first | exact HB.out | apply below_alloc | apply pw_below_drewN | apply below_drew1) | exact HB.out)))); have n2_ := Aside0.mk (below_step (by repeat (first | (with_reducible first | exact HB.out | apply below_alloc | apply pw_below_drewN | apply below_drew1) | exact HB.out)) hb); clear HO_3; clear HB; have HO_3 := n0_; have HO128 := n1_; have HB := n2_; clear n0_ n1_ n2_; (try clear hb); (try clear hb2); (try clear hk); (try clear hi); (try clear ho0); obtain ⟨Ao34, co34, eo34⟩ := Kd.S_slice HO128.out; subst eo34)))
              go_ret
              exact ⟨by first | rfl | (simp [errW_none, errW_some] <;> rfl) | (simp [*, errW_none, errW_some] <;> rfl), by repeat (first | (with_reducible first | exact HB.out | apply below_alloc | apply pw_below_drewN | apply below_drew1) | exact HB.out)⟩
    · replace c4 := Bool.eq_false_iff.mpr c4
      subst c4
      have H1 : (some true) = some r := by rw [if_neg (show ¬ (false = true) by decide)] at H; exact H
      clear H
      have H := H1
      clear H1
      obtain rfl := Option.some.inj H
      go_enter Try.func3, Try.ntmps3
      go_wp2_with (first | (go_at_call 10; (with_reducible refine (spec_Proper.calls k _ _ l0 false _ ?side1 ?side2 A3.out).mono ?_); (case side1 => repeat (first | exact HR0.out | (with_reducible refine Kd.C_alloc ?_ _) | (with_reducible refine Kd.C_drewN ?_ _) | (with_reducible refine Kd.C_drew ?_))); (case side2 => exact HC0.out); rintro e w' ⟨rfl, ⟨nd, rfl⟩⟩; (try first | exact ⟨rfl, _, World.drewN_drewN _ _ _⟩ | exact ⟨rfl, _, Eq.trans (World.drewN_drewN _ _ _) (congrArg (World.drewN _) (Nat.add_assoc _ _ _))⟩)))
      repeat (go_quiet (first | (go_at_call 10; (with_reducible refine (spec_Proper.calls k _ _ l0 false _ ?side1 ?side2 A3.out).mono ?_); (case side1 => repeat (first | exact HR0.out | (with_reducible refine Kd.C_alloc ?_ _) | (with_reducible refine Kd.C_drewN ?_ _) | (with_reducible refine Kd.C_drew ?_))); (case side2 => exact HC0.out); rintro e w' ⟨rfl, ⟨nd, rfl⟩⟩; (try first | exact ⟨rfl, _, World.drewN_drewN _ _ _⟩ | exact ⟨rfl, _, Eq.trans (World.drewN_drewN _ _ _) (congrArg (World.drewN _) (Nat.add_assoc _ _ _))⟩))); try go_wp2_with (first | (go_at_call 10; (with_reducible refine (spec_Proper.calls k _ _ l0 false _ ?side1 ?side2 A3.out).mono ?_); (case side1 => repeat (first | exact HR0.out | (with_reducible refine Kd.C_alloc ?_ _) | (with_reducible refine Kd.C_drewN ?_ _) | (with_reducible refine Kd.C_drew ?_))); (case side2 => exact HC0.out); rintro e w' ⟨rfl, ⟨nd, rfl⟩⟩; (try first | exact ⟨rfl, _, World.drewN_drewN _ _ _⟩ | exact ⟨rfl, _, Eq.trans (World.drewN_drewN _ _ _) (congrArg (World.drewN _) (Nat.add_assoc _ _ _))⟩))))
      go_ret
      exact ⟨by first | rfl | (simp [errW_none, errW_some] <;> rfl) | (simp [*, errW_none, errW_some] <;> rfl), by repeat (first | (with_reducible first | exact HB.out | apply below_alloc | apply pw_below_drewN | apply below_drew1) | exact HB.out)⟩

end Go.Proofs.Ytmnjkdbopafkfaa.QFnIntervalLow
