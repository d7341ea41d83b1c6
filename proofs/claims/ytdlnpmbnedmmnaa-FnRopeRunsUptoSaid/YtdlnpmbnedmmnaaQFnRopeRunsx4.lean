/- The machine's side of a law, as the kit's print writes it; of the functions that the print doesn't cover this session's own contracts stand in it: no condition. -/
import Derived.Test.YtdlnpmbnedmmnaaQFnRopeRunsx0
import Derived.Test.YtdlnpmbnedmmnaaQFnRopeRunsx1
import Derived.Test.YtdlnpmbnedmmnaaQFnRopeRunsx3
namespace Go.Proofs.Ytdlnpmbnedmmnaa.QFnRopeRuns
open Go.RowKit Go.Proofs.YtdlnpmbnedmmnaaW.PrintWords Go.Proofs.YtdlnpmbnedmmnaaW.PrintLast Go.Proofs.YtdlnpmbnedmmnaaW.PrintMore
attribute [local go_sem] max2_int min2_int max_two min_two max_three min_three max_four min_four   -- for this text's walks alone
set_option linter.unusedVariables false
set_option linter.unusedSimpArgs false

/-! ### laws_FnRopeRuns: function 5 -/
mutual
def laws_FnRopeRuns.j0 : Nat → List Int → List (S38) → Bool → Option (Bool)
  | 0, _, _, _ => none
  | k + 1, x0, x1, x17 => if x17 = true then (some true) else ((spec_Rows.f k x0 x1).bind fun bt217 => (if bt217.2.2 = true then ((impl_RopeRun.f x0 x1).bind fun t224 => (if (t224.length : Int) = (bt217.2.1.length : Int) then (laws_FnRopeRuns.l0 k x1 bt217.2.1 t224 0) else (some false))) else (some true)))
def laws_FnRopeRuns.l0 : Nat → List (S38) → List (S34) → List (S34) → Int → Option (Bool)
  | 0, _, _, _, _ => none
  | k + 1, x1, x6, x8, x9 => if x9 < (x6.length : Int) then (if 0 ≤ x9 then (if x9 < (x8.length : Int) then ((spec_SamePart.f k ((rd_T34 x8 x9).f0) ((rd_T34 x8 x9).f1) ((rd_T34 x8 x9).f2) ((rd_T34 x6 x9).f0) ((rd_T34 x6 x9).f1) ((rd_T34 x6 x9).f2)).bind fun t229 => (if t229 = true then (if x9 < (x1.length : Int) then (if ((rd_T38 x1 x9).f0) = 11 then ((spec_Sum.f k ((rd_T34 x8 x9).f2)).bind fun t232 => (if t232 = (((rd_T34 x6 x9).f1).length : Int) then (laws_FnRopeRuns.l0 k x1 x6 x8 (wrap64 (x9 + 1))) else (some false))) else (laws_FnRopeRuns.l0 k x1 x6 x8 (wrap64 (x9 + 1)))) else (none)) else (some false))) else (none)) else (none)) else (some true)
end
def laws_FnRopeRuns.f (k : Nat) (l0 : List Int) (l1 : List (S38)) : Option (Bool) := if (l0.length : Int) > 2147483647 then (laws_FnRopeRuns.j0 k l0 l1 true) else ((laws_zzFits3.f k l1).bind fun t216 => (laws_FnRopeRuns.j0 k l0 l1 (!t216)))
theorem laws_FnRopeRuns.mono_l : ∀ k, (∀ y0 y1 y2, LeO (laws_FnRopeRuns.j0 k y0 y1 y2) (laws_FnRopeRuns.j0 (k + 1) y0 y1 y2)) ∧ (∀ y0 y1 y2 y3, LeO (laws_FnRopeRuns.l0 k y0 y1 y2 y3) (laws_FnRopeRuns.l0 (k + 1) y0 y1 y2 y3))
  | 0 => ⟨fun _ _ _ r h => by simp [laws_FnRopeRuns.j0] at h, fun _ _ _ _ r h => by simp [laws_FnRopeRuns.l0] at h⟩
  | k + 1 => by
    obtain ⟨ih0, ih1⟩ := laws_FnRopeRuns.mono_l k
    refine ⟨?_, ?_⟩
    · intro y0 y1 y2
      unfold laws_FnRopeRuns.j0
      repeat' first
      | (with_reducible exact ih0 _ _ _)
      | (with_reducible exact ih1 _ _ _ _)
      | (with_reducible exact laws_zzFits3.mono _ _)
      | (with_reducible exact spec_Rows.mono _ _ _)
      | (with_reducible exact spec_SamePart.mono _ _ _ _ _ _ _)
      | (with_reducible exact spec_Sum.mono _ _)
      | (with_reducible exact LeO.refl _)
      | (with_reducible exact LeO.none _)
      | (with_reducible refine LeO.ite ?_ ?_)
      | (with_reducible refine LeO.bind ?_ (fun _ => ?_))
      | exact ih0 _ _ _
      | exact ih1 _ _ _ _
      | exact laws_zzFits3.mono _ _
      | exact spec_Rows.mono _ _ _
      | exact spec_SamePart.mono _ _ _ _ _ _ _
      | exact spec_Sum.mono _ _
      | exact LeO.none _
      | refine LeO.ite ?_ ?_
      | refine LeO.bind ?_ (fun _ => ?_)
    · intro y0 y1 y2 y3
      unfold laws_FnRopeRuns.l0
      repeat' first
      | (with_reducible exact ih0 _ _ _)
      | (with_reducible exact ih1 _ _ _ _)
      | (with_reducible exact laws_zzFits3.mono _ _)
      | (with_reducible exact spec_Rows.mono _ _ _)
      | (with_reducible exact spec_SamePart.mono _ _ _ _ _ _ _)
      | (with_reducible exact spec_Sum.mono _ _)
      | (with_reducible exact LeO.refl _)
      | (with_reducible exact LeO.none _)
      | (with_reducible refine LeO.ite ?_ ?_)
      | (with_reducible refine LeO.bind ?_ (fun _ => ?_))
      | exact ih0 _ _ _
      | exact ih1 _ _ _ _
      | exact laws_zzFits3.mono _ _
      | exact spec_Rows.mono _ _ _
      | exact spec_SamePart.mono _ _ _ _ _ _ _
      | exact spec_Sum.mono _ _
      | exact LeO.none _
      | refine LeO.ite ?_ ?_
      | refine LeO.bind ?_ (fun _ => ?_)
theorem laws_FnRopeRuns.mono : ∀ a0 a1 k, LeO (laws_FnRopeRuns.f k a0 a1) (laws_FnRopeRuns.f (k + 1) a0 a1) := by
  intro a0 a1 k
  obtain ⟨ih0, ih1⟩ := laws_FnRopeRuns.mono_l k
  unfold laws_FnRopeRuns.f
  repeat' first
      | (with_reducible exact ih0 _ _ _)
      | (with_reducible exact ih1 _ _ _ _)
      | (with_reducible exact laws_zzFits3.mono _ _)
      | (with_reducible exact spec_Rows.mono _ _ _)
      | (with_reducible exact spec_SamePart.mono _ _ _ _ _ _ _)
      | (with_reducible exact spec_Sum.mono _ _)
      | (with_reducible exact LeO.refl _)
      | (with_reducible exact LeO.none _)
      | (with_reducible refine LeO.ite ?_ ?_)
      | (with_reducible refine LeO.bind ?_ (fun _ => ?_))
      | exact ih0 _ _ _
      | exact ih1 _ _ _ _
      | exact laws_zzFits3.mono _ _
      | exact spec_Rows.mono _ _ _
      | exact spec_SamePart.mono _ _ _ _ _ _ _
      | exact spec_Sum.mono _ _
      | exact LeO.none _
      | refine LeO.ite ?_ ?_
      | refine LeO.bind ?_ (fun _ => ?_)
def laws_FnRopeRuns.T12 : Bool × List (List Nat × List Nat) := (true, [([], []), ([], []), ([0, 1], [0, 1]), ([2], [2]), ([], []), ([], []), ([4, 5], [4, 5]), ([6], [6]), ([3, 7], [3, 7]), ([8], [8]), ([9, 8], [9]), ([10], [10]), ([10], [10]), ([11, 12, 10], [10, 11, 12]), ([13, 10], [10, 13]), ([14, 10], [10, 14]), ([15, 10], [10, 15]), ([16, 10, 10], [10, 16]), ([17], [17]), ([17], [17]), ([18, 19, 17], [17, 18, 19]), ([20, 17], [17, 20]), ([21, 17], [17, 21]), ([22, 17, 17], [17, 22]), ([17], [17]), ([17], [17]), ([24, 25, 17], [17, 24, 25]), ([26, 17], [17, 26]), ([27, 17], [17, 27]), ([28, 17], [17, 28]), ([23, 29, 17], [17, 23, 29]), ([17, 30, 10], [10, 17, 30]), ([10, 31], [10, 31])])
def laws_FnRopeRuns.B12 : List Nat := [0, 0, 3, 7, 0, 0, 48, 112, 255, 511, 1023, 2047, 2047, 8191, 16383, 32767, 65535, 131071, 262143, 262143, 1048575, 2097151, 4194303, 8388607, 262143, 262143, 50593791, 117702655, 251920383, 520355839, 1073741823, 2147483647, 4294967295]
theorem laws_FnRopeRuns.tab12 : rtab .any (opsOf Try.f5 12) = laws_FnRopeRuns.T12 := by kernel_rfl
theorem laws_FnRopeRuns.bits12 : waitsOk laws_FnRopeRuns.T12.2 laws_FnRopeRuns.B12 = true := by kernel_rfl
set_option maxHeartbeats 8000000 in
set_option maxRecDepth 100000 in
theorem laws_FnRopeRuns.calls (k : Nat) (A0 : Option Addr) (c0 : Nat) (l0 : List Int) (A1 : Option Addr) (c1 : Nat) (l1 : List (S38)) (r : Bool) (w : World) (hr0 : Kd.C (Kd.int .i64) w A0 l0.length l0) (hc0 : l0.length ≤ c0) (hr1 : Kd.C k38 w A1 l1.length l1) (hc1 : l1.length ≤ c1) (h : laws_FnRopeRuns.f k l0 l1 = some r) :
    Calls Try.prog 5 #[.slice A0 l0.length c0, .slice A1 l1.length c1] w fun e w' => e = .returned (.bool r) ∧ Below w.heap.size w w' := by
  have hu34 := Try.underlying34
  have HR0 := Aside0.mk hr0
  have HC0 := Aside0.mk hc0
  clear hr0 hc0
  have HR1 := Aside0.mk hr1
  have HC1 := Aside0.mk hc1
  clear hr1 hc1
  have HB := Aside0.mk (Below.refl w.heap.size w)
  have H : (if (l0.length : Int) > 2147483647 then (laws_FnRopeRuns.j0 k l0 l1 true) else ((laws_zzFits3.f k l1).bind fun t216 => (laws_FnRopeRuns.j0 k l0 l1 (!t216)))) = some r := h
  clear h
  have HC3 := Aside0.mk H
  clear H
  go_enter Try.func5, Try.ntmps5
  go_upto_region 1 with (fail)
  go_cut [17] (fun v17 wc => ∃ (kq : Nat) (x17_2 : Bool), v17 = .bool x17_2 ∧ Aside0 (laws_FnRopeRuns.j0 kq l0 l1 x17_2 = some r) ∧ Aside0 (kq ≤ k) ∧ Aside0 (Below w.heap.size w wc))
  case first =>
    have H := HC3.out
    clear HC3
    by_cases c4 : (l0.length : Int) > 2147483647
    · rw [if_pos c4] at H
      have c4b0 : decide (2147483647 < (l0.length : Int)) = true := decide_eq_true c4
      have c4b1 : decide (2147483647 < l0.length) = true := decide_eq_true (by omega)
      clear c4
      (first | rw [c4b0] | (simp only [i64_w, i32_w]; rw [c4b0]) | skip)
      have H' := Aside0.mk H
      clear H
      go_wp2
      go_meet
      case rel => exact ⟨_, (true), (by first | rfl | (simp; done) | (simp [*]; done)), H', ⟨by first | omega | exact Nat.le_refl _⟩, ⟨by repeat (first | (with_reducible first | exact HB.out | apply below_alloc | apply pw_below_drewN | apply below_drew1) | exact HB.out)⟩⟩
    · rw [if_neg c4] at H
      have c4b0 : decide (2147483647 < (l0.length : Int)) = false := decide_eq_false c4
      have c4b1 : decide (2147483647 < l0.length) = false := decide_eq_false (by omega)
      clear c4
      (first | rw [c4b0] | (simp only [i64_w, i32_w]; rw [c4b0]) | skip)
      replace H := Option.bind_eq_some_iff.mp H
      obtain ⟨t216, A50, H⟩ := H
      replace H : (laws_FnRopeRuns.j0 k l0 l1 (!t216)) = some r := H
      have A5 := Aside0.mk A50
      clear A50
      have H' := Aside0.mk H
      clear H
      go_wp2_with (first | (go_at_call 12; (with_reducible refine (laws_zzFits3.calls k _ _ l1 t216 _ ?side1 ?side2 A5.out).mono ?_); (case side1 => repeat (first | exact (Kd.C_below HR1.out HB.out) | (with_reducible refine Kd.C_alloc ?_ _) | (with_reducible refine Kd.C_drewN ?_ _) | (with_reducible refine Kd.C_drew ?_))); (case side2 => exact HC1.out); rintro e w6 ⟨rfl, hb⟩; have n0_ := Aside0.mk (below_step (by repeat (first | (with_reducible first | exact HB.out | apply below_alloc | apply pw_below_drewN | apply below_drew1) | exact HB.out)) hb); clear HB; have HB := n0_; clear n0_; (try clear hb); (try clear hb2); (try clear hk); (try clear hi)))
      go_meet
      case rel => exact ⟨_, (!t216), (by first | rfl | (simp; done) | (simp [*]; done)), H', ⟨by first | omega | exact Nat.le_refl _⟩, ⟨by repeat (first | (with_reducible first | exact HB.out | apply below_alloc | apply pw_below_drewN | apply below_drew1) | exact HB.out)⟩⟩
  case rest =>
    clear HC3
    try clear c1
    try clear p2
    try clear c4
    try clear c4b0
    try clear c4b1
    try clear c5
    obtain ⟨kq, x17_2, rfl, HA, HJ2, HB⟩ := hcut
    cases kq with
    | zero => exact absurd HA.out (by simp [laws_FnRopeRuns.j0])
    | succ kj2 =>
      have H := HA.out
      clear HA
      simp only [laws_FnRopeRuns.j0] at H
      by_cases c7 : x17_2 = true
      · subst c7
        have H1 : (some true) = some r := by rw [if_pos rfl] at H; exact H
        clear H
        have H := H1
        clear H1
        obtain rfl := Option.some.inj H
        go_wp2
        go_ret
        exact ⟨by first | rfl | (simp [errW_none, errW_some] <;> rfl) | (simp [*, errW_none, errW_some] <;> rfl), by repeat (first | (with_reducible first | exact HB.out | apply below_alloc | apply pw_below_drewN | apply below_drew1) | exact HB.out)⟩
      · replace c7 := Bool.eq_false_iff.mpr c7
        subst c7
        have H1 : ((spec_Rows.f kj2 l0 l1).bind fun bt217 => (if bt217.2.2 = true then ((impl_RopeRun.f l0 l1).bind fun t224 => (if (t224.length : Int) = (bt217.2.1.length : Int) then (laws_FnRopeRuns.l0 kj2 l1 bt217.2.1 t224 0) else (some false))) else (some true))) = some r := by rw [if_neg (show ¬ (false = true) by decide)] at H; exact H
        clear H
        have H := H1
        clear H1
        replace H := Option.bind_eq_some_iff.mp H
        obtain ⟨⟨t217, t220, t223⟩, A80, H⟩ := H
        replace H : (if t223 = true then ((impl_RopeRun.f l0 l1).bind fun t224 => (if (t224.length : Int) = (t220.length : Int) then (laws_FnRopeRuns.l0 kj2 l1 t220 t224 0) else (some false))) else (some true)) = some r := H
        have A8 := Aside0.mk A80
        clear A80
        by_cases c9 : t223 = true
        · subst c9
          have H1 : ((impl_RopeRun.f l0 l1).bind fun t224 => (if (t224.length : Int) = (t220.length : Int) then (laws_FnRopeRuns.l0 kj2 l1 t220 t224 0) else (some false))) = some r := by rw [if_pos rfl] at H; exact H
          clear H
          have H := H1
          clear H1
          replace H := Option.bind_eq_some_iff.mp H
          obtain ⟨t224, A100, H⟩ := H
          replace H : (if (t224.length : Int) = (t220.length : Int) then (laws_FnRopeRuns.l0 kj2 l1 t220 t224 0) else (some false)) = some r := H
          have A10 := Aside0.mk A100
          clear A100
          by_cases c11 : (t224.length : Int) = (t220.length : Int)
          · rw [if_pos c11] at H
            have c11b0 : ((t224.length : Int) == (t220.length : Int)) = true := beq_iff_eq.mpr c11
            have c11b1 : ((t224.length : Int) != (t220.length : Int)) = false := bne_eq_false_iff_eq.mpr c11
            have c11b2 : (t224.length == t220.length) = true := by first | simpa using c11 | (simp at c11 ⊢; omega)
            clear c11
            have H' := Aside0.mk H
            clear H
            go_wp2_with (first | ((with_reducible refine gate_callee (f := 13) rfl ?_); refine goesL_ (some 21) rfl rfl Try.func13 (by kernel_rfl) rfl #[.slice A0 l0.length c0, .slice A1 l1.length c1] rfl (by (try simp only [List.map_toArray, List.map_cons, List.map_nil]); first | done | rfl | (simp only [List.length_drop, List.length_take]; rfl)) ?_; (with_reducible refine (spec_Rows.calls kj2 _ _ l0 _ _ l1 t217 t220 true _ ?side1 ?side2 ?side3 ?side4 A8.out).mono ?_); (case side1 => repeat (first | exact (Kd.C_below HR0.out HB.out) | (with_reducible refine Kd.C_alloc ?_ _) | (with_reducible refine Kd.C_drewN ?_ _) | (with_reducible refine Kd.C_drew ?_))); (case side2 => exact HC0.out); (case side3 => repeat (first | exact (Kd.C_below HR1.out HB.out) | (with_reducible refine Kd.C_alloc ?_ _) | (with_reducible refine Kd.C_drewN ?_ _) | (with_reducible refine Kd.C_drew ?_))); (case side4 => exact HC1.out); rintro e w12 ⟨v218, v221, rfl, ho0, ho1, hb⟩; refine ⟨_, rfl, ?_⟩; have n0_ := Aside0.mk (Kd.V_lower (Kd.V_mono (ok' := fun k_ => some k_ ≠ (v221 : Value).ownBlock) ho0 (fun k_ hk_ => hk_.2)) (below_size (by repeat (first | (with_reducible first | exact HB.out | apply below_alloc | apply pw_below_drewN | apply below_drew1) | exact HB.out)))); have n1_ := Aside0.mk (Kd.N_lower (Kd.N_mono (ok' := fun k_ => True) ho1 (fun k_ hk_ => trivial)) (below_size (by repeat (first | (with_reducible first | exact HB.out | apply below_alloc | apply pw_below_drewN | apply below_drew1) | exact HB.out)))); have n2_ := Aside0.mk (below_step (by repeat (first | (with_reducible first | exact HB.out | apply below_alloc | apply pw_below_drewN | apply below_drew1) | exact HB.out)) hb); clear HB; have HO219 := n0_; have HO222 := n1_; have HB := n2_; clear n0_ n1_ n2_; (try clear hb); (try clear hb2); (try clear hk); (try clear hi); (try clear ho0); (try clear ho1)) | ((with_reducible refine gate_callee (f := 15) rfl ?_); refine goesL_ (some 29) rfl rfl Try.func15 (by kernel_rfl) rfl #[.slice A0 l0.length c0, .slice A1 l1.length c1] rfl (by (try simp only [List.map_toArray, List.map_cons, List.map_nil]); first | done | rfl | (simp only [List.length_drop, List.length_take]; rfl)) ?_; (with_reducible refine (impl_RopeRun.calls _ _ l0 _ _ l1 t224 _ ?side1 ?side2 ?side3 ?side4 A10.out).mono ?_); (case side1 => repeat (first | exact (Kd.C_below HR0.out HB.out) | (with_reducible refine Kd.C_alloc ?_ _) | (with_reducible refine Kd.C_drewN ?_ _) | (with_reducible refine Kd.C_drew ?_))); (case side2 => exact HC0.out); (case side3 => repeat (first | exact (Kd.C_below HR1.out HB.out) | (with_reducible refine Kd.C_alloc ?_ _) | (with_reducible refine Kd.C_drewN ?_ _) | (with_reducible refine Kd.C_drew ?_))); (case side4 => exact HC1.out); rintro e w13 ⟨v225, rfl, ho0, hb⟩; refine ⟨_, rfl, ?_⟩; have n0_ := Aside0.mk (Kd.V_elder' (by (with_reducible repeat (first | apply Kd.V_alloc | apply Kd.V_drewN | apply Kd.V_drew)); exact HO219.out) (Kd.N_base (Kd.S_N ho0)) hb); have n1_ := Aside0.mk (Kd.N_elder' (by (with_reducible repeat (first | apply Kd.N_alloc | apply Kd.N_drewN | apply Kd.N_drew)); exact HO222.out) (Kd.N_base (Kd.S_N ho0)) hb); have n2_ := Aside0.mk (Kd.N_lower (Kd.N_mono (ok' := fun k_ => some k_ ≠ (v221 : Value).ownBlock) (Kd.S_N (Kd.S_bound ho0)) (fun k_ hk_ => (Kd.fresh' (Kd.N_lt (by (with_reducible repeat (first | apply Kd.N_alloc | apply Kd.N_drewN | apply Kd.N_drew)); exact HO222.out)) k_ hk_.2.1))) (below_size (by repeat (first | (with_reducible first | exact HB.out | apply below_alloc | apply pw_below_drewN | apply below_drew1) | exact HB.out)))); have n3_ := Aside0.mk (below_step (by repeat (first | (with_reducible first | exact HB.out | apply below_alloc | apply pw_below_drewN | apply below_drew1) | exact HB.out)) hb); clear HO219; clear HO222; clear HB; have HO219 := n0_; have HO222 := n1_; have HO226 := n2_; have HB := n3_; clear n0_ n1_ n2_ n3_; (try clear hb); (try clear hb2); (try clear hk); (try clear hi); (try clear ho0); obtain ⟨Ao14, co14, eo14⟩ := Kd.N_slice HO226.out; subst eo14; obtain ⟨Ao15, co15, eo15⟩ := Kd.N_slice HO222.out; subst eo15))
            go_loopg [9] kj2 (fun kq v9 w' => ∃ (x9_2 : Int), v9 = .int .i64 x9_2 ∧ Aside0 (laws_FnRopeRuns.l0 kq l1 t220 t224 x9_2 = some r) ∧ Aside0 (kq ≤ kj2) ∧ Aside0 (Kd.N k34 34 w' w.heap.size (fun k_ => some k_ ≠ ((.slice Ao14 t224.length co14) : Value).ownBlock) (.slice Ao15 t220.length co15) t220) ∧ Aside0 (Kd.N k34 34 w' w.heap.size (fun k_ => some k_ ≠ ((.slice Ao15 t220.length co15) : Value).ownBlock) (.slice Ao14 t224.length co14) t224) ∧ Aside0 (Below w.heap.size w w'))
            case atStart => exact ⟨(0), (by first | rfl | (simp; done) | (simp [*]; done)), H', ⟨Nat.le_refl _⟩, ⟨by (with_reducible repeat (first | apply Kd.N_alloc | apply Kd.N_drewN | apply Kd.N_drew)); exact Kd.N_mono HO222.out (fun _ hk => hk.2)⟩, ⟨by (with_reducible repeat (first | apply Kd.N_alloc | apply Kd.N_drewN | apply Kd.N_drew)); exact HO226.out⟩, ⟨by repeat (first | (with_reducible first | exact HB.out | apply below_alloc | apply pw_below_drewN | apply below_drew1) | exact HB.out)⟩⟩
            case round =>
              clear H'
              try clear c1
              try clear p2
              try clear c4
              try clear c4b0
              try clear c4b1
              try clear c5
              try clear c7
              try clear c9
              try clear c11
              try clear c11b0
              try clear c11b1
              try clear c11b2
              try clear c13
              try clear c15
              try clear p2
              obtain ⟨x9_2, rfl, HA, HK2, HO_6, HO_8, HB⟩ := hrel
              cases gk with
              | zero => exact absurd HA.out (by simp [laws_FnRopeRuns.l0])
              | succ k2 =>
                have H := HA.out
                clear HA
                simp only [laws_FnRopeRuns.l0] at H
                by_cases c16 : x9_2 < (t220.length : Int)
                · rw [if_pos c16] at H
                  have c16b0 : decide (x9_2 < (t220.length : Int)) = true := decide_eq_true c16
                  clear c16
                  by_cases c17 : 0 ≤ x9_2
                  · rw [if_pos c17] at H
                    have c17b0 : decide (0 ≤ x9_2) = true := decide_eq_true c17
                    clear c17
                    by_cases c18 : x9_2 < (t224.length : Int)
                    · rw [if_pos c18] at H
                      have c18b0 : decide (x9_2 < (t224.length : Int)) = true := decide_eq_true c18
                      clear c18
                      replace H := Option.bind_eq_some_iff.mp H
                      obtain ⟨t229, A190, H⟩ := H
                      replace H : (if t229 = true then (if x9_2 < (l1.length : Int) then (if ((rd_T38 l1 x9_2).f0) = 11 then ((spec_Sum.f k2 ((rd_T34 t224 x9_2).f2)).bind fun t232 => (if t232 = (((rd_T34 t220 x9_2).f1).length : Int) then (laws_FnRopeRuns.l0 k2 l1 t220 t224 (wrap64 (x9_2 + 1))) else (some false))) else (laws_FnRopeRuns.l0 k2 l1 t220 t224 (wrap64 (x9_2 + 1)))) else (none)) else (some false)) = some r := H
                      have A19 := Aside0.mk A190
                      clear A190
                      by_cases c20 : t229 = true
                      · subst c20
                        have H1 : (if x9_2 < (l1.length : Int) then (if ((rd_T38 l1 x9_2).f0) = 11 then ((spec_Sum.f k2 ((rd_T34 t224 x9_2).f2)).bind fun t232 => (if t232 = (((rd_T34 t220 x9_2).f1).length : Int) then (laws_FnRopeRuns.l0 k2 l1 t220 t224 (wrap64 (x9_2 + 1))) else (some false))) else (laws_FnRopeRuns.l0 k2 l1 t220 t224 (wrap64 (x9_2 + 1)))) else (none)) = some r := by rw [if_pos rfl] at H; exact H
                        clear H
                        have H := H1
                        clear H1
                        by_cases c21 : x9_2 < (l1.length : Int)
                        · rw [if_pos c21] at H
                          have c21b0 : decide (x9_2 < (l1.length : Int)) = true := decide_eq_true c21
                          clear c21
                          by_cases c22 : ((rd_T38 l1 x9_2).f0) = 11
                          · rw [if_pos c22] at H
                            have c22b0 : (((rd_T38 l1 x9_2).f0) == 11) = true := beq_iff_eq.mpr c22
                            have c22b1 : (((rd_T38 l1 x9_2).f0) != 11) = false := bne_eq_false_iff_eq.mpr c22
                            clear c22
                            replace H := Option.bind_eq_some_iff.mp H
                            obtain ⟨t232, A230, H⟩ := H
                            replace H : (if t232 = (((rd_T34 t220 x9_2).f1).length : Int) then (laws_FnRopeRuns.l0 k2 l1 t220 t224 (wrap64 (x9_2 + 1))) else (some false)) = some r := H
                            have A23 := Aside0.mk A230
                            clear A230
                            by_cases c24 : t232 = (((rd_T34 t220 x9_2).f1).length : Int)
                            · rw [if_pos c24] at H
                              have c24b0 : (t232 == (((rd_T34 t220 x9_2).f1).length : Int)) = true := beq_iff_eq.mpr c24
                              have c24b1 : (t232 != (((rd_T34 t220 x9_2).f1).length : Int)) = false := bne_eq_false_iff_eq.mpr c24
                              clear c24
                              have H' := Aside0.mk H
                              clear H
                              try go_wp2
                              have n0_ := Aside0.mk (Kd.N_drew HO_6.out)
                              have n1_ := Aside0.mk (Kd.N_drew HO_8.out)
                              have n2_ := Aside0.mk (below_drew1 HB.out)
                              clear HO_6
                              clear HO_8
                              clear HB
                              have HO_6 := n0_
                              have HO_8 := n1_
                              have HB := n2_
                              clear n0_ n1_ n2_
                              have p227 : 0 ≤ (x9_2 : Int) := of_decide_eq_true (by first | (with_reducible assumption) | assumption)
                              have q227 : x9_2 < (t224.length : Int) := of_decide_eq_true (by first | (with_reducible assumption) | assumption)
                              obtain ⟨ad227, A227_1, c227_1, A227_2, c227_2, e227, hx227_0, hx227_1, hx227_2, hl227_1, hi227_1, hl227_2, hi227_2⟩ := at_T34 (Kd.N_reads' HO_8.out).2.2 x9_2 p227 q227
                              cases e227
                              obtain ⟨ce227, hce227, hMe227, hcc227⟩ := Kd.N_get HO_8.out z34 x9_2 p227 (by first | exact q227 | exact of_decide_eq_true (by first | (with_reducible assumption) | assumption) | (have e_ := (Kd.N_reads' HO_8.out).1; omega))
                              obtain ⟨ua227_1, uc227_1, ua227_2, uc227_2, rfl, ul227_1, ge227_1, ul227_2, ge227_2⟩ := k34_openF hMe227
                              have hv227_1 := hcc227 1 _ rfl
                              rw [add_field _ _ 1 (by omega)] at hv227_1
                              replace hv227_1 := Option.some.inj (hv227_1.symm.trans hx227_1)
                              injection hv227_1 with hva_ hvn_ hvc_
                              rw [hva_] at ge227_1
                              rw [hvc_] at ul227_1
                              have HL227_1 := Aside0.mk (show Kd.V (Kd.int .i64) 3 _ w.heap.size _ _ ((rd_T34 t224 x9_2).f1) from Kd.V_mk ul227_1 ge227_1)
                              clear hva_ hvn_ hvc_ ge227_1 ul227_1
                              have hv227_2 := hcc227 2 _ rfl
                              rw [add_field _ _ 2 (by omega)] at hv227_2
                              replace hv227_2 := Option.some.inj (hv227_2.symm.trans hx227_2)
                              injection hv227_2 with hva_ hvn_ hvc_
                              rw [hva_] at ge227_2
                              rw [hvc_] at ul227_2
                              have HL227_2 := Aside0.mk (show Kd.V (Kd.int .i64) 3 _ w.heap.size _ _ ((rd_T34 t224 x9_2).f2) from Kd.V_mk ul227_2 ge227_2)
                              clear hva_ hvn_ hvc_ ge227_2 ul227_2
                              clear hcc227 hce227
                              have HR227_1 := Aside0.mk hi227_1
                              have HC227_1 := Aside0.mk hl227_1
                              clear hi227_1 hl227_1
                              have HR227_2 := Aside0.mk hi227_2
                              have HC227_2 := Aside0.mk hl227_2
                              clear hi227_2 hl227_2
                              replace p227 := eq_true p227
                              replace q227 := eq_true q227
                              have p228 : 0 ≤ (x9_2 : Int) := of_decide_eq_true (by first | (with_reducible assumption) | assumption)
                              have q228 : x9_2 < (t220.length : Int) := of_decide_eq_true (by first | (with_reducible assumption) | assumption)
                              obtain ⟨ad228, A228_1, c228_1, A228_2, c228_2, e228, hx228_0, hx228_1, hx228_2, hl228_1, hi228_1, hl228_2, hi228_2⟩ := at_T34 (Kd.N_reads' HO_6.out).2.2 x9_2 p228 q228
                              cases e228
                              obtain ⟨ce228, hce228, hMe228, hcc228⟩ := Kd.N_get HO_6.out z34 x9_2 p228 (by first | exact q228 | exact of_decide_eq_true (by first | (with_reducible assumption) | assumption) | (have e_ := (Kd.N_reads' HO_6.out).1; omega))
                              obtain ⟨ua228_1, uc228_1, ua228_2, uc228_2, rfl, ul228_1, ge228_1, ul228_2, ge228_2⟩ := k34_openF hMe228
                              have hv228_1 := hcc228 1 _ rfl
                              rw [add_field _ _ 1 (by omega)] at hv228_1
                              replace hv228_1 := Option.some.inj (hv228_1.symm.trans hx228_1)
                              injection hv228_1 with hva_ hvn_ hvc_
                              rw [hva_] at ge228_1
                              rw [hvc_] at ul228_1
                              have HL228_1 := Aside0.mk (show Kd.V (Kd.int .i64) 3 _ w.heap.size _ _ ((rd_T34 t220 x9_2).f1) from Kd.V_mk ul228_1 ge228_1)
                              clear hva_ hvn_ hvc_ ge228_1 ul228_1
                              have hv228_2 := hcc228 2 _ rfl
                              rw [add_field _ _ 2 (by omega)] at hv228_2
                              replace hv228_2 := Option.some.inj (hv228_2.symm.trans hx228_2)
                              injection hv228_2 with hva_ hvn_ hvc_
                              rw [hva_] at ge228_2
                              rw [hvc_] at ul228_2
                              have HL228_2 := Aside0.mk (show Kd.V (Kd.int .i64) 3 _ w.heap.size _ _ ((rd_T34 t220 x9_2).f2) from Kd.V_mk ul228_2 ge228_2)
                              clear hva_ hvn_ hvc_ ge228_2 ul228_2
                              clear hcc228 hce228
                              have HR228_1 := Aside0.mk hi228_1
                              have HC228_1 := Aside0.mk hl228_1
                              clear hi228_1 hl228_1
                              have HR228_2 := Aside0.mk hi228_2
                              have HC228_2 := Aside0.mk hl228_2
                              clear hi228_2 hl228_2
                              replace p228 := eq_true p228
                              replace q228 := eq_true q228
                              have p230 : 0 ≤ (x9_2 : Int) := of_decide_eq_true (by first | (with_reducible assumption) | assumption)
                              have q230 : x9_2 < (l1.length : Int) := of_decide_eq_true (by first | (with_reducible assumption) | assumption)
                              obtain ⟨ad230, A230_3, c230_3, e230, hx230_0, hx230_1, hx230_2, hx230_3, hl230_3, hi230_3⟩ := at_T38 HR1.out x9_2 p230 q230
                              have hw230_3 := hx230_3
                              have hw230_2 := hx230_2
                              have hw230_1 := hx230_1
                              have hw230_0 := hx230_0
                              cases e230
                              replace hx230_0 := (HB.out.cell (World.block_lt_of_cell? w _ hx230_0)).trans hx230_0
                              replace hx230_1 := (HB.out.cell (World.block_lt_of_cell? w _ hx230_1)).trans hx230_1
                              replace hx230_2 := (HB.out.cell (World.block_lt_of_cell? w _ hx230_2)).trans hx230_2
                              replace hx230_3 := (HB.out.cell (World.block_lt_of_cell? w _ hx230_3)).trans hx230_3
                              have HR230_3 := Aside0.mk hi230_3
                              have HC230_3 := Aside0.mk hl230_3
                              clear hi230_3 hl230_3
                              replace p230 := eq_true p230
                              replace q230 := eq_true q230
                              have p231 : 0 ≤ (x9_2 : Int) := of_decide_eq_true (by first | (with_reducible assumption) | assumption)
                              have q231 : x9_2 < (t224.length : Int) := of_decide_eq_true (by first | (with_reducible assumption) | assumption)
                              obtain ⟨ad231, A231_1, c231_1, A231_2, c231_2, e231, hx231_0, hx231_1, hx231_2, hl231_1, hi231_1, hl231_2, hi231_2⟩ := at_T34 (Kd.N_reads' HO_8.out).2.2 x9_2 p231 q231
                              obtain rfl : ad227 = ad231 := (by injection e231)
                              obtain ⟨ce231, hce231, hMe231, hcc231⟩ := Kd.N_get HO_8.out z34 x9_2 p231 (by first | exact q231 | exact of_decide_eq_true (by first | (with_reducible assumption) | assumption) | (have e_ := (Kd.N_reads' HO_8.out).1; omega))
                              obtain ⟨ua231_1, uc231_1, ua231_2, uc231_2, rfl, ul231_1, ge231_1, ul231_2, ge231_2⟩ := k34_openF hMe231
                              have hv231_1 := hcc231 1 _ rfl
                              rw [add_field _ _ 1 (by omega)] at hv231_1
                              replace hv231_1 := Option.some.inj (hv231_1.symm.trans hx231_1)
                              injection hv231_1 with hva_ hvn_ hvc_
                              rw [hva_] at ge231_1
                              rw [hvc_] at ul231_1
                              have HL231_1 := Aside0.mk (show Kd.V (Kd.int .i64) 3 _ w.heap.size _ _ ((rd_T34 t224 x9_2).f1) from Kd.V_mk ul231_1 ge231_1)
                              clear hva_ hvn_ hvc_ ge231_1 ul231_1
                              have hv231_2 := hcc231 2 _ rfl
                              rw [add_field _ _ 2 (by omega)] at hv231_2
                              replace hv231_2 := Option.some.inj (hv231_2.symm.trans hx231_2)
                              injection hv231_2 with hva_ hvn_ hvc_
                              rw [hva_] at ge231_2
                              rw [hvc_] at ul231_2
                              have HL231_2 := Aside0.mk (show Kd.V (Kd.int .i64) 3 _ w.heap.size _ _ ((rd_T34 t224 x9_2).f2) from Kd.V_mk ul231_2 ge231_2)
                              clear hva_ hvn_ hvc_ ge231_2 ul231_2
                              clear hcc231 hce231
                              have HR231_1 := Aside0.mk hi231_1
                              have HC231_1 := Aside0.mk hl231_1
                              clear hi231_1 hl231_1
                              have HR231_2 := Aside0.mk hi231_2
                              have HC231_2 := Aside0.mk hl231_2
                              clear hi231_2 hl231_2
                              replace p231 := eq_true p231
                              replace q231 := eq_true q231
                              have p233 : 0 ≤ (x9_2 : Int) := of_decide_eq_true (by first | (with_reducible assumption) | assumption)
                              have q233 : x9_2 < (t220.length : Int) := of_decide_eq_true (by first | (with_reducible assumption) | assumption)
                              obtain ⟨ad233, A233_1, c233_1, A233_2, c233_2, e233, hx233_0, hx233_1, hx233_2, hl233_1, hi233_1, hl233_2, hi233_2⟩ := at_T34 (Kd.N_reads' HO_6.out).2.2 x9_2 p233 q233
                              obtain rfl : ad228 = ad233 := (by injection e233)
                              obtain ⟨ce233, hce233, hMe233, hcc233⟩ := Kd.N_get HO_6.out z34 x9_2 p233 (by first | exact q233 | exact of_decide_eq_true (by first | (with_reducible assumption) | assumption) | (have e_ := (Kd.N_reads' HO_6.out).1; omega))
                              obtain ⟨ua233_1, uc233_1, ua233_2, uc233_2, rfl, ul233_1, ge233_1, ul233_2, ge233_2⟩ := k34_openF hMe233
                              have hv233_1 := hcc233 1 _ rfl
                              rw [add_field _ _ 1 (by omega)] at hv233_1
                              replace hv233_1 := Option.some.inj (hv233_1.symm.trans hx233_1)
                              injection hv233_1 with hva_ hvn_ hvc_
                              rw [hva_] at ge233_1
                              rw [hvc_] at ul233_1
                              have HL233_1 := Aside0.mk (show Kd.V (Kd.int .i64) 3 _ w.heap.size _ _ ((rd_T34 t220 x9_2).f1) from Kd.V_mk ul233_1 ge233_1)
                              clear hva_ hvn_ hvc_ ge233_1 ul233_1
                              have hv233_2 := hcc233 2 _ rfl
                              rw [add_field _ _ 2 (by omega)] at hv233_2
                              replace hv233_2 := Option.some.inj (hv233_2.symm.trans hx233_2)
                              injection hv233_2 with hva_ hvn_ hvc_
                              rw [hva_] at ge233_2
                              rw [hvc_] at ul233_2
                              have HL233_2 := Aside0.mk (show Kd.V (Kd.int .i64) 3 _ w.heap.size _ _ ((rd_T34 t220 x9_2).f2) from Kd.V_mk ul233_2 ge233_2)
                              clear hva_ hvn_ hvc_ ge233_2 ul233_2
                              clear hcc233 hce233
                              have HR233_1 := Aside0.mk hi233_1
                              have HC233_1 := Aside0.mk hl233_1
                              clear hi233_1 hl233_1
                              have HR233_2 := Aside0.mk hi233_2
                              have HC233_2 := Aside0.mk hl233_2
                              clear hi233_2 hl233_2
                              replace p233 := eq_true p233
                              replace q233 := eq_true q233
                              refine start_ (n := 33) (S := fun w' => w'.cell? (ad227.add ((x9_2).toNat * 3)) = some (.int .i64 ((rd_T34 t224 x9_2).f0)) ∧ w'.cell? ⟨(ad227.add ((x9_2).toNat * 3)).block, (ad227.add ((x9_2).toNat * 3)).off + 1, none⟩ = some (.slice A227_1 ((rd_T34 t224 x9_2).f1).length c227_1) ∧ w'.cell? ⟨(ad227.add ((x9_2).toNat * 3)).block, (ad227.add ((x9_2).toNat * 3)).off + 2, none⟩ = some (.slice A227_2 ((rd_T34 t224 x9_2).f2).length c227_2) ∧ w'.cell? (ad228.add ((x9_2).toNat * 3)) = some (.int .i64 ((rd_T34 t220 x9_2).f0)) ∧ w'.cell? ⟨(ad228.add ((x9_2).toNat * 3)).block, (ad228.add ((x9_2).toNat * 3)).off + 1, none⟩ = some (.slice A228_1 ((rd_T34 t220 x9_2).f1).length c228_1) ∧ w'.cell? ⟨(ad228.add ((x9_2).toNat * 3)).block, (ad228.add ((x9_2).toNat * 3)).off + 2, none⟩ = some (.slice A228_2 ((rd_T34 t220 x9_2).f2).length c228_2) ∧ w'.cell? (ad230.add ((x9_2).toNat * 4)) = some (.int .i64 ((rd_T38 l1 x9_2).f0)) ∧ w'.cell? ⟨(ad230.add ((x9_2).toNat * 4)).block, (ad230.add ((x9_2).toNat * 4)).off + 1, none⟩ = some (.int .i64 ((rd_T38 l1 x9_2).f1)) ∧ w'.cell? ⟨(ad230.add ((x9_2).toNat * 4)).block, (ad230.add ((x9_2).toNat * 4)).off + 2, none⟩ = some (.int .i64 ((rd_T38 l1 x9_2).f2)) ∧ w'.cell? ⟨(ad230.add ((x9_2).toNat * 4)).block, (ad230.add ((x9_2).toNat * 4)).off + 3, none⟩ = some (.slice A230_3 ((rd_T38 l1 x9_2).f3).length c230_3) ∧ w'.cell? (ad227.add ((x9_2).toNat * 3)) = some (.int .i64 ((rd_T34 t224 x9_2).f0)) ∧ w'.cell? ⟨(ad227.add ((x9_2).toNat * 3)).block, (ad227.add ((x9_2).toNat * 3)).off + 1, none⟩ = some (.slice A231_1 ((rd_T34 t224 x9_2).f1).length c231_1) ∧ w'.cell? ⟨(ad227.add ((x9_2).toNat * 3)).block, (ad227.add ((x9_2).toNat * 3)).off + 2, none⟩ = some (.slice A231_2 ((rd_T34 t224 x9_2).f2).length c231_2) ∧ w'.cell? (ad228.add ((x9_2).toNat * 3)) = some (.int .i64 ((rd_T34 t220 x9_2).f0)) ∧ w'.cell? ⟨(ad228.add ((x9_2).toNat * 3)).block, (ad228.add ((x9_2).toNat * 3)).off + 1, none⟩ = some (.slice A233_1 ((rd_T34 t220 x9_2).f1).length c233_1) ∧ w'.cell? ⟨(ad228.add ((x9_2).toNat * 3)).block, (ad228.add ((x9_2).toNat * 3)).off + 2, none⟩ = some (.slice A233_2 ((rd_T34 t220 x9_2).f2).length c233_2)) (ds := []) #[false, false, false, false, false, false, false, false, false, false, false, false, false, false, false, false, false, false, false, false, false, false, false, false, false, false, false, false, false, false, false, false, false] (by kernel_rfl) rfl rfl ⟨hx227_0, hx227_1, hx227_2, hx228_0, hx228_1, hx228_2, ((HB.out.cell (World.block_lt_of_cell? w _ hw230_0)).trans hw230_0), ((HB.out.cell (World.block_lt_of_cell? w _ hw230_1)).trans hw230_1), ((HB.out.cell (World.block_lt_of_cell? w _ hw230_2)).trans hw230_2), ((HB.out.cell (World.block_lt_of_cell? w _ hw230_3)).trans hw230_3), hx231_0, hx231_1, hx231_2, hx233_0, hx233_1, hx233_2⟩ (fun hHeld => ?_); refine with_tabW laws_FnRopeRuns.tab12 laws_FnRopeRuns.bits12 (fun HT_ HW_ => ?_)
                              generalize wr.drew = w25 at HO_6 HO_8 HB HL227_1 HL227_2 HL228_1 HL228_2 HL231_1 HL231_2 HL233_1 HL233_2 HR227_1 HR227_2 HR228_1 HR228_2 HR230_3 HR231_1 HR231_2 HR233_1 HR233_2 hx227_0 hx227_1 hx227_2 hx228_0 hx228_1 hx228_2 hx230_0 hx230_1 hx230_2 hx230_3 hx231_0 hx231_1 hx231_2 hx233_0 hx233_1 hx233_2 hHeld ⊢
                              refine pure_ (i := 0) (N := some 41) (v := ?_) (a' := ?_) #[true, false, false, false, false, false, false, false, false, false, false, false, false, false, false, false, false, false, false, false, false, false, false, false, false, false, false, false, false, false, false, false, false] rfl rfl (any_of HT_.out (by kernel_rfl)) (fun _ _ _ h => h) (Or.inl ⟨by rfl, ?_⟩) ?_ ?_
                              rotate_left
                              · intro w'
                                go_simp
                                with_reducible rfl
                              rotate_left
                              · simp only [Act.put, List.setIfInBounds_toArray, List.set_cons_zero, List.set_cons_succ, i64_w, i32_w]
                                rfl
                              refine pure_ (i := 1) (N := some 42) (v := ?_) (a' := ?_) #[true, true, false, false, false, false, false, false, false, false, false, false, false, false, false, false, false, false, false, false, false, false, false, false, false, false, false, false, false, false, false, false, false] rfl rfl (any_of HT_.out (by kernel_rfl)) (fun _ _ _ h => h) (Or.inl ⟨by rfl, ?_⟩) ?_ ?_
                              rotate_left
                              · intro w'
                                go_simp
                                with_reducible rfl
                              rotate_left
                              · simp only [Act.put, List.setIfInBounds_toArray, List.set_cons_zero, List.set_cons_succ, i64_w, i32_w]
                                rfl
                              refine pure_ (i := 2) (N := some 43) (v := ?_) (a' := ?_) #[true, true, true, false, false, false, false, false, false, false, false, false, false, false, false, false, false, false, false, false, false, false, false, false, false, false, false, false, false, false, false, false, false] rfl rfl (any_of HT_.out (by kernel_rfl)) (fun _ _ _ h => h) (Or.inl ⟨by rfl, ?_⟩) ?_ ?_
                              rotate_left
                              · intro w'
                                go_simp
                                with_reducible rfl
                              rotate_left
                              · simp only [Act.put, List.setIfInBounds_toArray, List.set_cons_zero, List.set_cons_succ, i64_w, i32_w]
                                rfl
                              refine pure_ (i := 4) (N := some 45) (v := ?_) (a' := ?_) #[true, true, true, false, true, false, false, false, false, false, false, false, false, false, false, false, false, false, false, false, false, false, false, false, false, false, false, false, false, false, false, false, false] rfl rfl (any_of HT_.out (by kernel_rfl)) (fun _ _ _ h => h) (Or.inl ⟨by rfl, ?_⟩) ?_ ?_
                              rotate_left
                              · intro w'
                                go_simp
                                with_reducible rfl
                              rotate_left
                              · simp only [Act.put, List.setIfInBounds_toArray, List.set_cons_zero, List.set_cons_succ, i64_w, i32_w]
                                rfl
                              refine pure_ (i := 5) (N := some 46) (v := ?_) (a' := ?_) #[true, true, true, false, true, true, false, false, false, false, false, false, false, false, false, false, false, false, false, false, false, false, false, false, false, false, false, false, false, false, false, false, false] rfl rfl (any_of HT_.out (by kernel_rfl)) (fun _ _ _ h => h) (Or.inl ⟨by rfl, ?_⟩) ?_ ?_
                              rotate_left
                              · intro w'
                                go_simp
                                with_reducible rfl
                              rotate_left
                              · simp only [Act.put, List.setIfInBounds_toArray, List.set_cons_zero, List.set_cons_succ, i64_w, i32_w]
                                rfl
                              refine pure_ (i := 6) (N := some 47) (v := ?_) (a' := ?_) #[true, true, true, false, true, true, true, false, false, false, false, false, false, false, false, false, false, false, false, false, false, false, false, false, false, false, false, false, false, false, false, false, false] rfl rfl (any_of HT_.out (by kernel_rfl)) (fun _ _ _ h => h) (Or.inl ⟨by rfl, ?_⟩) ?_ ?_
                              rotate_left
                              · intro w'
                                go_simp
                                with_reducible rfl
                              rotate_left
                              · simp only [Act.put, List.setIfInBounds_toArray, List.set_cons_zero, List.set_cons_succ, i64_w, i32_w]
                                rfl
                              refine take_ (i := 3) (N := some 44) (v := ?_) (a' := ?_) #[true, true, true, true, true, true, true, false, false, false, false, false, false, false, false, false, false, false, false, false, false, false, false, false, false, false, false, false, false, false, false, false, false] rfl rfl (take_ofW HT_.out HW_.out (by kernel_rfl)) (fun _ _ _ h => h) (Or.inl ⟨by rfl, ?_⟩) hHeld ?_ ?_
                              rotate_left
                              · rintro w' ⟨s0, s1, s2, s3, s4, s5, s6, s7, s8, s9, s10, s11, s12, s13, s14, s15⟩
                                go_simp
                                with_reducible rfl
                              rotate_left
                              · simp only [Act.put, List.setIfInBounds_toArray, List.set_cons_zero, List.set_cons_succ, i64_w, i32_w]
                                rfl
                              refine take_ (i := 7) (N := some 48) (v := ?_) (a' := ?_) #[true, true, true, true, true, true, true, true, false, false, false, false, false, false, false, false, false, false, false, false, false, false, false, false, false, false, false, false, false, false, false, false, false] rfl rfl (take_ofW HT_.out HW_.out (by kernel_rfl)) (fun _ _ _ h => h) (Or.inl ⟨by rfl, ?_⟩) hHeld ?_ ?_
                              rotate_left
                              · rintro w' ⟨s0, s1, s2, s3, s4, s5, s6, s7, s8, s9, s10, s11, s12, s13, s14, s15⟩
                                go_simp
                                with_reducible rfl
                              rotate_left
                              · simp only [Act.put, List.setIfInBounds_toArray, List.set_cons_zero, List.set_cons_succ, i64_w, i32_w]
                                rfl
                              refine one_ (i := 8) (N := some 49) #[true, true, true, true, true, true, true, true, true, false, false, false, false, false, false, false, false, false, false, false, false, false, false, false, false, false, false, false, false, false, false, false, false] rfl rfl (one_of HT_.out (by kernel_rfl)) (by decide) (fun K hK => ?_)
                              refine goes_ Try.func16 (by kernel_rfl) rfl #[.agg #[.int .i64 ((rd_T34 t224 x9_2).f0), .slice A227_1 ((rd_T34 t224 x9_2).f1).length c227_1, .slice A227_2 ((rd_T34 t224 x9_2).f2).length c227_2], .agg #[.int .i64 ((rd_T34 t220 x9_2).f0), .slice A228_1 ((rd_T34 t220 x9_2).f1).length c228_1, .slice A228_2 ((rd_T34 t220 x9_2).f2).length c228_2]] (by rfl) rfl rfl (by (try simp only [List.map_toArray, List.map_cons, List.map_nil]); first | done | rfl | (simp only [List.length_drop, List.length_take]; rfl)) ?_
                              with_reducible refine (spec_SamePart.calls k2 ((rd_T34 t224 x9_2).f0) _ _ ((rd_T34 t224 x9_2).f1) _ _ ((rd_T34 t224 x9_2).f2) ((rd_T34 t220 x9_2).f0) _ _ ((rd_T34 t220 x9_2).f1) _ _ ((rd_T34 t220 x9_2).f2) true _ ?side1 ?side2 ?side3 ?side4 ?side5 ?side6 ?side7 ?side8 A19.out).mono ?_
                              (case side1 => repeat (first | exact (by repeat (first | (with_reducible exact HR227_1.out) | (with_reducible refine Kd.C_alloc ?_ _) | (with_reducible refine Kd.C_drewN ?_ _) | (with_reducible refine Kd.C_drew ?_) | exact HR227_1.out)) | (with_reducible refine Kd.C_alloc ?_ _) | (with_reducible refine Kd.C_drewN ?_ _) | (with_reducible refine Kd.C_drew ?_)))
                              (case side2 => exact HC227_1.out)
                              (case side3 => repeat (first | exact (by repeat (first | (with_reducible exact HR227_2.out) | (with_reducible refine Kd.C_alloc ?_ _) | (with_reducible refine Kd.C_drewN ?_ _) | (with_reducible refine Kd.C_drew ?_) | exact HR227_2.out)) | (with_reducible refine Kd.C_alloc ?_ _) | (with_reducible refine Kd.C_drewN ?_ _) | (with_reducible refine Kd.C_drew ?_)))
                              (case side4 => exact HC227_2.out)
                              (case side5 => repeat (first | exact (by repeat (first | (with_reducible exact HR228_1.out) | (with_reducible refine Kd.C_alloc ?_ _) | (with_reducible refine Kd.C_drewN ?_ _) | (with_reducible refine Kd.C_drew ?_) | exact HR228_1.out)) | (with_reducible refine Kd.C_alloc ?_ _) | (with_reducible refine Kd.C_drewN ?_ _) | (with_reducible refine Kd.C_drew ?_)))
                              (case side6 => exact HC228_1.out)
                              (case side7 => repeat (first | exact (by repeat (first | (with_reducible exact HR228_2.out) | (with_reducible refine Kd.C_alloc ?_ _) | (with_reducible refine Kd.C_drewN ?_ _) | (with_reducible refine Kd.C_drew ?_) | exact HR228_2.out)) | (with_reducible refine Kd.C_alloc ?_ _) | (with_reducible refine Kd.C_drewN ?_ _) | (with_reducible refine Kd.C_drew ?_)))
                              (case side8 => exact HC228_2.out)
                              rintro e w26 ⟨rfl, hb⟩
                              have HS0_ := (hb.cell (World.block_lt_of_cell? _ _ (hHeld.1))).trans (hHeld.1)
                              have HS1_ := (hb.cell (World.block_lt_of_cell? _ _ (hHeld.2.1))).trans (hHeld.2.1)
                              have HS2_ := (hb.cell (World.block_lt_of_cell? _ _ (hHeld.2.2.1))).trans (hHeld.2.2.1)
                              have HS3_ := (hb.cell (World.block_lt_of_cell? _ _ (hHeld.2.2.2.1))).trans (hHeld.2.2.2.1)
                              have HS4_ := (hb.cell (World.block_lt_of_cell? _ _ (hHeld.2.2.2.2.1))).trans (hHeld.2.2.2.2.1)
                              have HS5_ := (hb.cell (World.block_lt_of_cell? _ _ (hHeld.2.2.2.2.2.1))).trans (hHeld.2.2.2.2.2.1)
                              have HS10_ := (hb.cell (World.block_lt_of_cell? _ _ (hHeld.2.2.2.2.2.2.2.2.2.2.1))).trans (hHeld.2.2.2.2.2.2.2.2.2.2.1)
                              have HS11_ := (hb.cell (World.block_lt_of_cell? _ _ (hHeld.2.2.2.2.2.2.2.2.2.2.2.1))).trans (hHeld.2.2.2.2.2.2.2.2.2.2.2.1)
                              have HS12_ := (hb.cell (World.block_lt_of_cell? _ _ (hHeld.2.2.2.2.2.2.2.2.2.2.2.2.1))).trans (hHeld.2.2.2.2.2.2.2.2.2.2.2.2.1)
                              have HS13_ := (hb.cell (World.block_lt_of_cell? _ _ (hHeld.2.2.2.2.2.2.2.2.2.2.2.2.2.1))).trans (hHeld.2.2.2.2.2.2.2.2.2.2.2.2.2.1)
                              have HS14_ := (hb.cell (World.block_lt_of_cell? _ _ (hHeld.2.2.2.2.2.2.2.2.2.2.2.2.2.2.1))).trans (hHeld.2.2.2.2.2.2.2.2.2.2.2.2.2.2.1)
                              have HS15_ := (hb.cell (World.block_lt_of_cell? _ _ (hHeld.2.2.2.2.2.2.2.2.2.2.2.2.2.2.2))).trans (hHeld.2.2.2.2.2.2.2.2.2.2.2.2.2.2.2)
                              refine ⟨_, rfl, ?_⟩
                              have n0_ := Aside0.mk (Kd.N_below (by (with_reducible repeat (first | apply Kd.N_alloc | apply Kd.N_drewN | apply Kd.N_drew)); exact HO_6.out) hb)
                              have n1_ := Aside0.mk (Kd.N_below (by (with_reducible repeat (first | apply Kd.N_alloc | apply Kd.N_drewN | apply Kd.N_drew)); exact HO_8.out) hb)
                              have n2_ := Aside0.mk (Kd.V_below (by (with_reducible repeat (first | apply Kd.V_alloc | apply Kd.V_drewN | apply Kd.V_drew)); exact HL227_1.out) hb)
                              have n3_ := Aside0.mk (Kd.V_below (by (with_reducible repeat (first | apply Kd.V_alloc | apply Kd.V_drewN | apply Kd.V_drew)); exact HL227_2.out) hb)
                              have n4_ := Aside0.mk (Kd.V_below (by (with_reducible repeat (first | apply Kd.V_alloc | apply Kd.V_drewN | apply Kd.V_drew)); exact HL228_1.out) hb)
                              have n5_ := Aside0.mk (Kd.V_below (by (with_reducible repeat (first | apply Kd.V_alloc | apply Kd.V_drewN | apply Kd.V_drew)); exact HL228_2.out) hb)
                              have n6_ := Aside0.mk (Kd.C_below (by repeat (first | (with_reducible exact HR227_1.out) | (with_reducible refine Kd.C_alloc ?_ _) | (with_reducible refine Kd.C_drewN ?_ _) | (with_reducible refine Kd.C_drew ?_) | exact HR227_1.out)) hb)
                              have n7_ := Aside0.mk (Kd.C_below (by repeat (first | (with_reducible exact HR227_2.out) | (with_reducible refine Kd.C_alloc ?_ _) | (with_reducible refine Kd.C_drewN ?_ _) | (with_reducible refine Kd.C_drew ?_) | exact HR227_2.out)) hb)
                              have n8_ := Aside0.mk (Kd.C_below (by repeat (first | (with_reducible exact HR228_1.out) | (with_reducible refine Kd.C_alloc ?_ _) | (with_reducible refine Kd.C_drewN ?_ _) | (with_reducible refine Kd.C_drew ?_) | exact HR228_1.out)) hb)
                              have n9_ := Aside0.mk (Kd.C_below (by repeat (first | (with_reducible exact HR228_2.out) | (with_reducible refine Kd.C_alloc ?_ _) | (with_reducible refine Kd.C_drewN ?_ _) | (with_reducible refine Kd.C_drew ?_) | exact HR228_2.out)) hb)
                              have n10_ := Aside0.mk (below_step (by repeat (first | (with_reducible first | exact HB.out | apply below_alloc | apply pw_below_drewN | apply below_drew1) | exact HB.out)) hb)
                              clear HO_6
                              clear HO_8
                              clear HL227_1
                              clear HL227_2
                              clear HL228_1
                              clear HL228_2
                              clear HR227_1
                              clear HR227_2
                              clear HR228_1
                              clear HR228_2
                              clear HB
                              have HO_6 := n0_
                              have HO_8 := n1_
                              have HL227_1 := n2_
                              have HL227_2 := n3_
                              have HL228_1 := n4_
                              have HL228_2 := n5_
                              have HR227_1 := n6_
                              have HR227_2 := n7_
                              have HR228_1 := n8_
                              have HR228_2 := n9_
                              have HB := n10_
                              clear n0_ n1_ n2_ n3_ n4_ n5_ n6_ n7_ n8_ n9_ n10_
                              (try clear hb)
                              (try clear hb2)
                              (try clear hk)
                              (try clear hi)
                              refine hK.out _ _ ⟨HS0_, HS1_, HS2_, HS3_, HS4_, HS5_, ((HB.out.cell (World.block_lt_of_cell? w _ hw230_0)).trans hw230_0), ((HB.out.cell (World.block_lt_of_cell? w _ hw230_1)).trans hw230_1), ((HB.out.cell (World.block_lt_of_cell? w _ hw230_2)).trans hw230_2), ((HB.out.cell (World.block_lt_of_cell? w _ hw230_3)).trans hw230_3), HS10_, HS11_, HS12_, HS13_, HS14_, HS15_⟩ (fun hHeld => ?_)
                              clear hK K
                              refine norm_ (a' := ?_) ?_ ?_
                              rotate_left
                              · show Act.put _ (some 49) _ = _
                                simp only [Act.put, List.setIfInBounds_toArray, List.set_cons_zero, List.set_cons_succ, i64_w, i32_w]
                                rfl
                              refine pure_ (i := 9) (N := some 50) (v := ?_) (a' := ?_) #[true, true, true, true, true, true, true, true, true, true, false, false, false, false, false, false, false, false, false, false, false, false, false, false, false, false, false, false, false, false, false, false, false] rfl rfl (any_of HT_.out (by kernel_rfl)) (fun _ _ _ h => h) (Or.inl ⟨by rfl, ?_⟩) ?_ ?_
                              rotate_left
                              · intro w'
                                go_simp
                                with_reducible rfl
                              rotate_left
                              · simp only [Act.put, List.setIfInBounds_toArray, List.set_cons_zero, List.set_cons_succ, i64_w, i32_w]
                                rfl
                              refine pure_ (i := 10) (N := some 51) (v := ?_) (a' := ?_) #[true, true, true, true, true, true, true, true, true, true, true, false, false, false, false, false, false, false, false, false, false, false, false, false, false, false, false, false, false, false, false, false, false] rfl rfl (any_of HT_.out (by kernel_rfl)) (fun _ _ _ h => h) (Or.inl ⟨by rfl, ?_⟩) ?_ ?_
                              rotate_left
                              · intro w'
                                go_simp
                                with_reducible rfl
                              rotate_left
                              · simp only [Act.put, List.setIfInBounds_toArray, List.set_cons_zero, List.set_cons_succ, i64_w, i32_w]
                                rfl
                              refine pure_ (i := 11) (N := some 52) (v := ?_) (a' := ?_) #[true, true, true, true, true, true, true, true, true, true, true, true, false, false, false, false, false, false, false, false, false, false, false, false, false, false, false, false, false, false, false, false, false] rfl rfl (any_of HT_.out (by kernel_rfl)) (fun _ _ _ h => h) (Or.inl ⟨by rfl, ?_⟩) ?_ ?_
                              rotate_left
                              · intro w'
                                go_simp
                                with_reducible rfl
                              rotate_left
                              · simp only [Act.put, List.setIfInBounds_toArray, List.set_cons_zero, List.set_cons_succ, i64_w, i32_w]
                                rfl
                              refine pure_ (i := 12) (N := some 53) (v := ?_) (a' := ?_) #[true, true, true, true, true, true, true, true, true, true, true, true, true, false, false, false, false, false, false, false, false, false, false, false, false, false, false, false, false, false, false, false, false] rfl rfl (any_of HT_.out (by kernel_rfl)) (fun _ _ _ h => h) (Or.inl ⟨by rfl, ?_⟩) ?_ ?_
                              rotate_left
                              · intro w'
                                go_simp
                                with_reducible rfl
                              rotate_left
                              · simp only [Act.put, List.setIfInBounds_toArray, List.set_cons_zero, List.set_cons_succ, i64_w, i32_w]
                                rfl
                              refine pure_ (i := 13) (N := some 54) (v := ?_) (a' := ?_) #[true, true, true, true, true, true, true, true, true, true, true, true, true, true, false, false, false, false, false, false, false, false, false, false, false, false, false, false, false, false, false, false, false] rfl rfl (any_of HT_.out (by kernel_rfl)) (fun _ _ _ h => h) (Or.inl ⟨by rfl, ?_⟩) ?_ ?_
                              rotate_left
                              · intro w'
                                go_simp
                                with_reducible rfl
                              rotate_left
                              · simp only [Act.put, List.setIfInBounds_toArray, List.set_cons_zero, List.set_cons_succ, i64_w, i32_w]
                                rfl
                              refine pure_ (i := 14) (N := some 55) (v := ?_) (a' := ?_) #[true, true, true, true, true, true, true, true, true, true, true, true, true, true, true, false, false, false, false, false, false, false, false, false, false, false, false, false, false, false, false, false, false] rfl rfl (any_of HT_.out (by kernel_rfl)) (fun _ _ _ h => h) (Or.inl ⟨by rfl, ?_⟩) ?_ ?_
                              rotate_left
                              · intro w'
                                go_simp
                                with_reducible rfl
                              rotate_left
                              · simp only [Act.put, List.setIfInBounds_toArray, List.set_cons_zero, List.set_cons_succ, i64_w, i32_w]
                                rfl
                              refine take_ (i := 15) (N := some 56) (v := ?_) (a' := ?_) #[true, true, true, true, true, true, true, true, true, true, true, true, true, true, true, true, false, false, false, false, false, false, false, false, false, false, false, false, false, false, false, false, false] rfl rfl (take_ofW HT_.out HW_.out (by kernel_rfl)) (fun _ _ _ h => h) (Or.inl ⟨by rfl, ?_⟩) hHeld ?_ ?_
                              rotate_left
                              · rintro w' ⟨s0, s1, s2, s3, s4, s5, s6, s7, s8, s9, s10, s11, s12, s13, s14, s15⟩
                                go_simp
                                with_reducible rfl
                              rotate_left
                              · simp only [Act.put, List.setIfInBounds_toArray, List.set_cons_zero, List.set_cons_succ, i64_w, i32_w]
                                rfl
                              refine pure_ (i := 16) (N := some 57) (v := ?_) (a' := ?_) #[true, true, true, true, true, true, true, true, true, true, true, true, true, true, true, true, true, false, false, false, false, false, false, false, false, false, false, false, false, false, false, false, false] rfl rfl (any_of HT_.out (by kernel_rfl)) (fun _ _ _ h => h) (Or.inl ⟨by rfl, ?_⟩) ?_ ?_
                              rotate_left
                              · intro w'
                                go_simp
                                with_reducible rfl
                              rotate_left
                              · simp only [Act.put, List.setIfInBounds_toArray, List.set_cons_zero, List.set_cons_succ, i64_w, i32_w]
                                rfl
                              refine pure_ (i := 17) (N := some 58) (v := ?_) (a' := ?_) #[true, true, true, true, true, true, true, true, true, true, true, true, true, true, true, true, true, true, false, false, false, false, false, false, false, false, false, false, false, false, false, false, false] rfl rfl (any_of HT_.out (by kernel_rfl)) (fun _ _ _ h => h) (Or.inl ⟨by rfl, ?_⟩) ?_ ?_
                              rotate_left
                              · intro w'
                                go_simp
                                with_reducible rfl
                              rotate_left
                              · simp only [Act.put, List.setIfInBounds_toArray, List.set_cons_zero, List.set_cons_succ, i64_w, i32_w]
                                rfl
                              refine pure_ (i := 18) (N := some 59) (v := ?_) (a' := ?_) #[true, true, true, true, true, true, true, true, true, true, true, true, true, true, true, true, true, true, true, false, false, false, false, false, false, false, false, false, false, false, false, false, false] rfl rfl (any_of HT_.out (by kernel_rfl)) (fun _ _ _ h => h) (Or.inl ⟨by rfl, ?_⟩) ?_ ?_
                              rotate_left
                              · intro w'
                                go_simp
                                with_reducible rfl
                              rotate_left
                              · simp only [Act.put, List.setIfInBounds_toArray, List.set_cons_zero, List.set_cons_succ, i64_w, i32_w]
                                rfl
                              refine pure_ (i := 19) (N := some 60) (v := ?_) (a' := ?_) #[true, true, true, true, true, true, true, true, true, true, true, true, true, true, true, true, true, true, true, true, false, false, false, false, false, false, false, false, false, false, false, false, false] rfl rfl (any_of HT_.out (by kernel_rfl)) (fun _ _ _ h => h) (Or.inl ⟨by rfl, ?_⟩) ?_ ?_
                              rotate_left
                              · intro w'
                                go_simp
                                with_reducible rfl
                              rotate_left
                              · simp only [Act.put, List.setIfInBounds_toArray, List.set_cons_zero, List.set_cons_succ, i64_w, i32_w]
                                rfl
                              refine pure_ (i := 20) (N := some 61) (v := ?_) (a' := ?_) #[true, true, true, true, true, true, true, true, true, true, true, true, true, true, true, true, true, true, true, true, true, false, false, false, false, false, false, false, false, false, false, false, false] rfl rfl (any_of HT_.out (by kernel_rfl)) (fun _ _ _ h => h) (Or.inl ⟨by rfl, ?_⟩) ?_ ?_
                              rotate_left
                              · intro w'
                                go_simp
                                with_reducible rfl
                              rotate_left
                              · simp only [Act.put, List.setIfInBounds_toArray, List.set_cons_zero, List.set_cons_succ, i64_w, i32_w]
                                rfl
                              refine pure_ (i := 21) (N := some 62) (v := ?_) (a' := ?_) #[true, true, true, true, true, true, true, true, true, true, true, true, true, true, true, true, true, true, true, true, true, true, false, false, false, false, false, false, false, false, false, false, false] rfl rfl (any_of HT_.out (by kernel_rfl)) (fun _ _ _ h => h) (Or.inl ⟨by rfl, ?_⟩) ?_ ?_
                              rotate_left
                              · intro w'
                                go_simp
                                with_reducible rfl
                              rotate_left
                              · simp only [Act.put, List.setIfInBounds_toArray, List.set_cons_zero, List.set_cons_succ, i64_w, i32_w]
                                rfl
                              refine pure_ (i := 24) (N := some 65) (v := ?_) (a' := ?_) #[true, true, true, true, true, true, true, true, true, true, true, true, true, true, true, true, true, true, true, true, true, true, false, false, true, false, false, false, false, false, false, false, false] rfl rfl (any_of HT_.out (by kernel_rfl)) (fun _ _ _ h => h) (Or.inl ⟨by rfl, ?_⟩) ?_ ?_
                              rotate_left
                              · intro w'
                                go_simp
                                with_reducible rfl
                              rotate_left
                              · simp only [Act.put, List.setIfInBounds_toArray, List.set_cons_zero, List.set_cons_succ, i64_w, i32_w]
                                rfl
                              refine pure_ (i := 25) (N := some 66) (v := ?_) (a' := ?_) #[true, true, true, true, true, true, true, true, true, true, true, true, true, true, true, true, true, true, true, true, true, true, false, false, true, true, false, false, false, false, false, false, false] rfl rfl (any_of HT_.out (by kernel_rfl)) (fun _ _ _ h => h) (Or.inl ⟨by rfl, ?_⟩) ?_ ?_
                              rotate_left
                              · intro w'
                                go_simp
                                with_reducible rfl
                              rotate_left
                              · simp only [Act.put, List.setIfInBounds_toArray, List.set_cons_zero, List.set_cons_succ, i64_w, i32_w]
                                rfl
                              refine pure_ (i := 26) (N := some 67) (v := ?_) (a' := ?_) #[true, true, true, true, true, true, true, true, true, true, true, true, true, true, true, true, true, true, true, true, true, true, false, false, true, true, true, false, false, false, false, false, false] rfl rfl (any_of HT_.out (by kernel_rfl)) (fun _ _ _ h => h) (Or.inl ⟨by rfl, ?_⟩) ?_ ?_
                              rotate_left
                              · intro w'
                                go_simp
                                with_reducible rfl
                              rotate_left
                              · simp only [Act.put, List.setIfInBounds_toArray, List.set_cons_zero, List.set_cons_succ, i64_w, i32_w]
                                rfl
                              refine pure_ (i := 27) (N := some 68) (v := ?_) (a' := ?_) #[true, true, true, true, true, true, true, true, true, true, true, true, true, true, true, true, true, true, true, true, true, true, false, false, true, true, true, true, false, false, false, false, false] rfl rfl (any_of HT_.out (by kernel_rfl)) (fun _ _ _ h => h) (Or.inl ⟨by rfl, ?_⟩) ?_ ?_
                              rotate_left
                              · intro w'
                                go_simp
                                with_reducible rfl
                              rotate_left
                              · simp only [Act.put, List.setIfInBounds_toArray, List.set_cons_zero, List.set_cons_succ, i64_w, i32_w]
                                rfl
                              refine take_ (i := 22) (N := some 63) (v := ?_) (a' := ?_) #[true, true, true, true, true, true, true, true, true, true, true, true, true, true, true, true, true, true, true, true, true, true, true, false, true, true, true, true, false, false, false, false, false] rfl rfl (take_ofW HT_.out HW_.out (by kernel_rfl)) (fun _ _ _ h => h) (Or.inl ⟨by rfl, ?_⟩) hHeld ?_ ?_
                              rotate_left
                              · rintro w' ⟨s0, s1, s2, s3, s4, s5, s6, s7, s8, s9, s10, s11, s12, s13, s14, s15⟩
                                go_simp
                                with_reducible rfl
                              rotate_left
                              · simp only [Act.put, List.setIfInBounds_toArray, List.set_cons_zero, List.set_cons_succ, i64_w, i32_w]
                                rfl
                              refine take_ (i := 28) (N := some 69) (v := ?_) (a' := ?_) #[true, true, true, true, true, true, true, true, true, true, true, true, true, true, true, true, true, true, true, true, true, true, true, false, true, true, true, true, true, false, false, false, false] rfl rfl (take_ofW HT_.out HW_.out (by kernel_rfl)) (fun _ _ _ h => h) (Or.inl ⟨by rfl, ?_⟩) hHeld ?_ ?_
                              rotate_left
                              · rintro w' ⟨s0, s1, s2, s3, s4, s5, s6, s7, s8, s9, s10, s11, s12, s13, s14, s15⟩
                                go_simp
                                with_reducible rfl
                              rotate_left
                              · simp only [Act.put, List.setIfInBounds_toArray, List.set_cons_zero, List.set_cons_succ, i64_w, i32_w]
                                rfl
                              refine pure_ (i := 29) (N := some 70) (v := ?_) (a' := ?_) #[true, true, true, true, true, true, true, true, true, true, true, true, true, true, true, true, true, true, true, true, true, true, true, false, true, true, true, true, true, true, false, false, false] rfl rfl (any_of HT_.out (by kernel_rfl)) (fun _ _ _ h => h) (Or.inl ⟨by rfl, ?_⟩) ?_ ?_
                              rotate_left
                              · intro w'
                                go_simp
                                with_reducible rfl
                              rotate_left
                              · simp only [Act.put, List.setIfInBounds_toArray, List.set_cons_zero, List.set_cons_succ, i64_w, i32_w]
                                rfl
                              refine one_ (i := 23) (N := some 64) #[true, true, true, true, true, true, true, true, true, true, true, true, true, true, true, true, true, true, true, true, true, true, true, true, true, true, true, true, true, true, false, false, false] rfl rfl (one_of HT_.out (by kernel_rfl)) (by decide) (fun K hK => ?_)
                              refine goes_ Try.func17 (by kernel_rfl) rfl #[.slice A227_2 ((rd_T34 t224 x9_2).f2).length c227_2] (by rfl) rfl rfl (by (try simp only [List.map_toArray, List.map_cons, List.map_nil]); first | done | rfl | (simp only [List.length_drop, List.length_take]; rfl)) ?_
                              with_reducible refine (spec_Sum.calls k2 _ _ ((rd_T34 t224 x9_2).f2) t232 _ ?side1 ?side2 A23.out).mono ?_
                              (case side1 => repeat (first | exact (by repeat (first | (with_reducible exact HR227_2.out) | (with_reducible refine Kd.C_alloc ?_ _) | (with_reducible refine Kd.C_drewN ?_ _) | (with_reducible refine Kd.C_drew ?_) | exact HR227_2.out)) | (with_reducible refine Kd.C_alloc ?_ _) | (with_reducible refine Kd.C_drewN ?_ _) | (with_reducible refine Kd.C_drew ?_)))
                              (case side2 => exact HC227_2.out)
                              rintro e w' ⟨rfl, ⟨nd, rfl⟩⟩
                              refine ⟨_, rfl, ?_⟩
                              refine hK.out _ _ ⟨hHeld.1, hHeld.2.1, hHeld.2.2.1, hHeld.2.2.2.1, hHeld.2.2.2.2.1, hHeld.2.2.2.2.2.1, ((HB.out.cell (World.block_lt_of_cell? w _ hw230_0)).trans hw230_0), ((HB.out.cell (World.block_lt_of_cell? w _ hw230_1)).trans hw230_1), ((HB.out.cell (World.block_lt_of_cell? w _ hw230_2)).trans hw230_2), ((HB.out.cell (World.block_lt_of_cell? w _ hw230_3)).trans hw230_3), hHeld.2.2.2.2.2.2.2.2.2.2.1, hHeld.2.2.2.2.2.2.2.2.2.2.2.1, hHeld.2.2.2.2.2.2.2.2.2.2.2.2.1, hHeld.2.2.2.2.2.2.2.2.2.2.2.2.2.1, hHeld.2.2.2.2.2.2.2.2.2.2.2.2.2.2.1, hHeld.2.2.2.2.2.2.2.2.2.2.2.2.2.2.2⟩ (fun hHeld => ?_)
                              clear hK K
                              refine norm_ (a' := ?_) ?_ ?_
                              rotate_left
                              · show Act.put _ (some 64) _ = _
                                simp only [Act.put, List.setIfInBounds_toArray, List.set_cons_zero, List.set_cons_succ, i64_w, i32_w]
                                rfl
                              refine pure_ (i := 30) (N := some 71) (v := ?_) (a' := ?_) #[true, true, true, true, true, true, true, true, true, true, true, true, true, true, true, true, true, true, true, true, true, true, true, true, true, true, true, true, true, true, true, false, false] rfl rfl (any_of HT_.out (by kernel_rfl)) (fun _ _ _ h => h) (Or.inl ⟨by rfl, ?_⟩) ?_ ?_
                              rotate_left
                              · intro w'
                                go_simp
                                with_reducible rfl
                              rotate_left
                              · simp only [Act.put, List.setIfInBounds_toArray, List.set_cons_zero, List.set_cons_succ, i64_w, i32_w]
                                rfl
                              refine pure_ (i := 31) (N := some 72) (v := ?_) (a' := ?_) #[true, true, true, true, true, true, true, true, true, true, true, true, true, true, true, true, true, true, true, true, true, true, true, true, true, true, true, true, true, true, true, true, false] rfl rfl (any_of HT_.out (by kernel_rfl)) (fun _ _ _ h => h) (Or.inl ⟨by rfl, ?_⟩) ?_ ?_
                              rotate_left
                              · intro w'
                                go_simp
                                with_reducible rfl
                              rotate_left
                              · simp only [Act.put, List.setIfInBounds_toArray, List.set_cons_zero, List.set_cons_succ, i64_w, i32_w]
                                rfl
                              refine pure_ (i := 32) (N := some 73) (v := ?_) (a' := ?_) #[true, true, true, true, true, true, true, true, true, true, true, true, true, true, true, true, true, true, true, true, true, true, true, true, true, true, true, true, true, true, true, true, true] rfl rfl (any_of HT_.out (by kernel_rfl)) (fun _ _ _ h => h) (Or.inl ⟨by rfl, ?_⟩) ?_ ?_
                              rotate_left
                              · intro w'
                                go_simp
                                with_reducible rfl
                              rotate_left
                              · simp only [Act.put, List.setIfInBounds_toArray, List.set_cons_zero, List.set_cons_succ, i64_w, i32_w]
                                rfl
                              refine done_ (done_of HT_.out (by kernel_rfl)) ?_
                              try go_wp2
                              go_roundg k2
                              case measure => have := HJ2.out; have := HK2.out; omega
                              case rel => exact ⟨(wrap64 (x9_2 + 1)), (by first | rfl | (simp; done) | (simp [*]; done)), H', ⟨by have := HJ2.out; have := HK2.out; omega⟩, ⟨by (with_reducible repeat (first | apply Kd.N_alloc | apply Kd.N_drewN | apply Kd.N_drew)); exact HO_6.out⟩, ⟨by (with_reducible repeat (first | apply Kd.N_alloc | apply Kd.N_drewN | apply Kd.N_drew)); exact HO_8.out⟩, ⟨by repeat (first | (with_reducible first | exact HB.out | apply below_alloc | apply pw_below_drewN | apply below_drew1) | exact HB.out)⟩⟩
                            · rw [if_neg c24] at H
                              have c24b0 : (t232 == (((rd_T34 t220 x9_2).f1).length : Int)) = false := beq_eq_false_iff_ne.mpr c24
                              have c24b1 : (t232 != (((rd_T34 t220 x9_2).f1).length : Int)) = true := bne_iff_ne.mpr c24
                              obtain rfl := Option.some.inj H
                              try go_wp2
                              have n0_ := Aside0.mk (Kd.N_drew HO_6.out)
                              have n1_ := Aside0.mk (Kd.N_drew HO_8.out)
                              have n2_ := Aside0.mk (below_drew1 HB.out)
                              clear HO_6
                              clear HO_8
                              clear HB
                              have HO_6 := n0_
                              have HO_8 := n1_
                              have HB := n2_
                              clear n0_ n1_ n2_
                              have p227 : 0 ≤ (x9_2 : Int) := of_decide_eq_true (by first | (with_reducible assumption) | assumption)
                              have q227 : x9_2 < (t224.length : Int) := of_decide_eq_true (by first | (with_reducible assumption) | assumption)
                              obtain ⟨ad227, A227_1, c227_1, A227_2, c227_2, e227, hx227_0, hx227_1, hx227_2, hl227_1, hi227_1, hl227_2, hi227_2⟩ := at_T34 (Kd.N_reads' HO_8.out).2.2 x9_2 p227 q227
                              cases e227
                              obtain ⟨ce227, hce227, hMe227, hcc227⟩ := Kd.N_get HO_8.out z34 x9_2 p227 (by first | exact q227 | exact of_decide_eq_true (by first | (with_reducible assumption) | assumption) | (have e_ := (Kd.N_reads' HO_8.out).1; omega))
                              obtain ⟨ua227_1, uc227_1, ua227_2, uc227_2, rfl, ul227_1, ge227_1, ul227_2, ge227_2⟩ := k34_openF hMe227
                              have hv227_1 := hcc227 1 _ rfl
                              rw [add_field _ _ 1 (by omega)] at hv227_1
                              replace hv227_1 := Option.some.inj (hv227_1.symm.trans hx227_1)
                              injection hv227_1 with hva_ hvn_ hvc_
                              rw [hva_] at ge227_1
                              rw [hvc_] at ul227_1
                              have HL227_1 := Aside0.mk (show Kd.V (Kd.int .i64) 3 _ w.heap.size _ _ ((rd_T34 t224 x9_2).f1) from Kd.V_mk ul227_1 ge227_1)
                              clear hva_ hvn_ hvc_ ge227_1 ul227_1
                              have hv227_2 := hcc227 2 _ rfl
                              rw [add_field _ _ 2 (by omega)] at hv227_2
                              replace hv227_2 := Option.some.inj (hv227_2.symm.trans hx227_2)
                              injection hv227_2 with hva_ hvn_ hvc_
                              rw [hva_] at ge227_2
                              rw [hvc_] at ul227_2
                              have HL227_2 := Aside0.mk (show Kd.V (Kd.int .i64) 3 _ w.heap.size _ _ ((rd_T34 t224 x9_2).f2) from Kd.V_mk ul227_2 ge227_2)
                              clear hva_ hvn_ hvc_ ge227_2 ul227_2
                              clear hcc227 hce227
                              have HR227_1 := Aside0.mk hi227_1
                              have HC227_1 := Aside0.mk hl227_1
                              clear hi227_1 hl227_1
                              have HR227_2 := Aside0.mk hi227_2
                              have HC227_2 := Aside0.mk hl227_2
                              clear hi227_2 hl227_2
                              replace p227 := eq_true p227
                              replace q227 := eq_true q227
                              have p228 : 0 ≤ (x9_2 : Int) := of_decide_eq_true (by first | (with_reducible assumption) | assumption)
                              have q228 : x9_2 < (t220.length : Int) := of_decide_eq_true (by first | (with_reducible assumption) | assumption)
                              obtain ⟨ad228, A228_1, c228_1, A228_2, c228_2, e228, hx228_0, hx228_1, hx228_2, hl228_1, hi228_1, hl228_2, hi228_2⟩ := at_T34 (Kd.N_reads' HO_6.out).2.2 x9_2 p228 q228
                              cases e228
                              obtain ⟨ce228, hce228, hMe228, hcc228⟩ := Kd.N_get HO_6.out z34 x9_2 p228 (by first | exact q228 | exact of_decide_eq_true (by first | (with_reducible assumption) | assumption) | (have e_ := (Kd.N_reads' HO_6.out).1; omega))
                              obtain ⟨ua228_1, uc228_1, ua228_2, uc228_2, rfl, ul228_1, ge228_1, ul228_2, ge228_2⟩ := k34_openF hMe228
                              have hv228_1 := hcc228 1 _ rfl
                              rw [add_field _ _ 1 (by omega)] at hv228_1
                              replace hv228_1 := Option.some.inj (hv228_1.symm.trans hx228_1)
                              injection hv228_1 with hva_ hvn_ hvc_
                              rw [hva_] at ge228_1
                              rw [hvc_] at ul228_1
                              have HL228_1 := Aside0.mk (show Kd.V (Kd.int .i64) 3 _ w.heap.size _ _ ((rd_T34 t220 x9_2).f1) from Kd.V_mk ul228_1 ge228_1)
                              clear hva_ hvn_ hvc_ ge228_1 ul228_1
                              have hv228_2 := hcc228 2 _ rfl
                              rw [add_field _ _ 2 (by omega)] at hv228_2
                              replace hv228_2 := Option.some.inj (hv228_2.symm.trans hx228_2)
                              injection hv228_2 with hva_ hvn_ hvc_
                              rw [hva_] at ge228_2
                              rw [hvc_] at ul228_2
                              have HL228_2 := Aside0.mk (show Kd.V (Kd.int .i64) 3 _ w.heap.size _ _ ((rd_T34 t220 x9_2).f2) from Kd.V_mk ul228_2 ge228_2)
                              clear hva_ hvn_ hvc_ ge228_2 ul228_2
                              clear hcc228 hce228
                              have HR228_1 := Aside0.mk hi228_1
                              have HC228_1 := Aside0.mk hl228_1
                              clear hi228_1 hl228_1
                              have HR228_2 := Aside0.mk hi228_2
                              have HC228_2 := Aside0.mk hl228_2
                              clear hi228_2 hl228_2
                              replace p228 := eq_true p228
                              replace q228 := eq_true q228
                              have p230 : 0 ≤ (x9_2 : Int) := of_decide_eq_true (by first | (with_reducible assumption) | assumption)
                              have q230 : x9_2 < (l1.length : Int) := of_decide_eq_true (by first | (with_reducible assumption) | assumption)
                              obtain ⟨ad230, A230_3, c230_3, e230, hx230_0, hx230_1, hx230_2, hx230_3, hl230_3, hi230_3⟩ := at_T38 HR1.out x9_2 p230 q230
                              have hw230_3 := hx230_3
                              have hw230_2 := hx230_2
                              have hw230_1 := hx230_1
                              have hw230_0 := hx230_0
                              cases e230
                              replace hx230_0 := (HB.out.cell (World.block_lt_of_cell? w _ hx230_0)).trans hx230_0
                              replace hx230_1 := (HB.out.cell (World.block_lt_of_cell? w _ hx230_1)).trans hx230_1
                              replace hx230_2 := (HB.out.cell (World.block_lt_of_cell? w _ hx230_2)).trans hx230_2
                              replace hx230_3 := (HB.out.cell (World.block_lt_of_cell? w _ hx230_3)).trans hx230_3
                              have HR230_3 := Aside0.mk hi230_3
                              have HC230_3 := Aside0.mk hl230_3
                              clear hi230_3 hl230_3
                              replace p230 := eq_true p230
                              replace q230 := eq_true q230
                              have p231 : 0 ≤ (x9_2 : Int) := of_decide_eq_true (by first | (with_reducible assumption) | assumption)
                              have q231 : x9_2 < (t224.length : Int) := of_decide_eq_true (by first | (with_reducible assumption) | assumption)
                              obtain ⟨ad231, A231_1, c231_1, A231_2, c231_2, e231, hx231_0, hx231_1, hx231_2, hl231_1, hi231_1, hl231_2, hi231_2⟩ := at_T34 (Kd.N_reads' HO_8.out).2.2 x9_2 p231 q231
                              obtain rfl : ad227 = ad231 := (by injection e231)
                              obtain ⟨ce231, hce231, hMe231, hcc231⟩ := Kd.N_get HO_8.out z34 x9_2 p231 (by first | exact q231 | exact of_decide_eq_true (by first | (with_reducible assumption) | assumption) | (have e_ := (Kd.N_reads' HO_8.out).1; omega))
                              obtain ⟨ua231_1, uc231_1, ua231_2, uc231_2, rfl, ul231_1, ge231_1, ul231_2, ge231_2⟩ := k34_openF hMe231
                              have hv231_1 := hcc231 1 _ rfl
                              rw [add_field _ _ 1 (by omega)] at hv231_1
                              replace hv231_1 := Option.some.inj (hv231_1.symm.trans hx231_1)
                              injection hv231_1 with hva_ hvn_ hvc_
                              rw [hva_] at ge231_1
                              rw [hvc_] at ul231_1
                              have HL231_1 := Aside0.mk (show Kd.V (Kd.int .i64) 3 _ w.heap.size _ _ ((rd_T34 t224 x9_2).f1) from Kd.V_mk ul231_1 ge231_1)
                              clear hva_ hvn_ hvc_ ge231_1 ul231_1
                              have hv231_2 := hcc231 2 _ rfl
                              rw [add_field _ _ 2 (by omega)] at hv231_2
                              replace hv231_2 := Option.some.inj (hv231_2.symm.trans hx231_2)
                              injection hv231_2 with hva_ hvn_ hvc_
                              rw [hva_] at ge231_2
                              rw [hvc_] at ul231_2
                              have HL231_2 := Aside0.mk (show Kd.V (Kd.int .i64) 3 _ w.heap.size _ _ ((rd_T34 t224 x9_2).f2) from Kd.V_mk ul231_2 ge231_2)
                              clear hva_ hvn_ hvc_ ge231_2 ul231_2
                              clear hcc231 hce231
                              have HR231_1 := Aside0.mk hi231_1
                              have HC231_1 := Aside0.mk hl231_1
                              clear hi231_1 hl231_1
                              have HR231_2 := Aside0.mk hi231_2
                              have HC231_2 := Aside0.mk hl231_2
                              clear hi231_2 hl231_2
                              replace p231 := eq_true p231
                              replace q231 := eq_true q231
                              have p233 : 0 ≤ (x9_2 : Int) := of_decide_eq_true (by first | (with_reducible assumption) | assumption)
                              have q233 : x9_2 < (t220.length : Int) := of_decide_eq_true (by first | (with_reducible assumption) | assumption)
                              obtain ⟨ad233, A233_1, c233_1, A233_2, c233_2, e233, hx233_0, hx233_1, hx233_2, hl233_1, hi233_1, hl233_2, hi233_2⟩ := at_T34 (Kd.N_reads' HO_6.out).2.2 x9_2 p233 q233
                              obtain rfl : ad228 = ad233 := (by injection e233)
                              obtain ⟨ce233, hce233, hMe233, hcc233⟩ := Kd.N_get HO_6.out z34 x9_2 p233 (by first | exact q233 | exact of_decide_eq_true (by first | (with_reducible assumption) | assumption) | (have e_ := (Kd.N_reads' HO_6.out).1; omega))
                              obtain ⟨ua233_1, uc233_1, ua233_2, uc233_2, rfl, ul233_1, ge233_1, ul233_2, ge233_2⟩ := k34_openF hMe233
                              have hv233_1 := hcc233 1 _ rfl
                              rw [add_field _ _ 1 (by omega)] at hv233_1
                              replace hv233_1 := Option.some.inj (hv233_1.symm.trans hx233_1)
                              injection hv233_1 with hva_ hvn_ hvc_
                              rw [hva_] at ge233_1
                              rw [hvc_] at ul233_1
                              have HL233_1 := Aside0.mk (show Kd.V (Kd.int .i64) 3 _ w.heap.size _ _ ((rd_T34 t220 x9_2).f1) from Kd.V_mk ul233_1 ge233_1)
                              clear hva_ hvn_ hvc_ ge233_1 ul233_1
                              have hv233_2 := hcc233 2 _ rfl
                              rw [add_field _ _ 2 (by omega)] at hv233_2
                              replace hv233_2 := Option.some.inj (hv233_2.symm.trans hx233_2)
                              injection hv233_2 with hva_ hvn_ hvc_
                              rw [hva_] at ge233_2
                              rw [hvc_] at ul233_2
                              have HL233_2 := Aside0.mk (show Kd.V (Kd.int .i64) 3 _ w.heap.size _ _ ((rd_T34 t220 x9_2).f2) from Kd.V_mk ul233_2 ge233_2)
                              clear hva_ hvn_ hvc_ ge233_2 ul233_2
                              clear hcc233 hce233
                              have HR233_1 := Aside0.mk hi233_1
                              have HC233_1 := Aside0.mk hl233_1
                              clear hi233_1 hl233_1
                              have HR233_2 := Aside0.mk hi233_2
                              have HC233_2 := Aside0.mk hl233_2
                              clear hi233_2 hl233_2
                              replace p233 := eq_true p233
                              replace q233 := eq_true q233
                              refine start_ (n := 33) (S := fun w' => w'.cell? (ad227.add ((x9_2).toNat * 3)) = some (.int .i64 ((rd_T34 t224 x9_2).f0)) ∧ w'.cell? ⟨(ad227.add ((x9_2).toNat * 3)).block, (ad227.add ((x9_2).toNat * 3)).off + 1, none⟩ = some (.slice A227_1 ((rd_T34 t224 x9_2).f1).length c227_1) ∧ w'.cell? ⟨(ad227.add ((x9_2).toNat * 3)).block, (ad227.add ((x9_2).toNat * 3)).off + 2, none⟩ = some (.slice A227_2 ((rd_T34 t224 x9_2).f2).length c227_2) ∧ w'.cell? (ad228.add ((x9_2).toNat * 3)) = some (.int .i64 ((rd_T34 t220 x9_2).f0)) ∧ w'.cell? ⟨(ad228.add ((x9_2).toNat * 3)).block, (ad228.add ((x9_2).toNat * 3)).off + 1, none⟩ = some (.slice A228_1 ((rd_T34 t220 x9_2).f1).length c228_1) ∧ w'.cell? ⟨(ad228.add ((x9_2).toNat * 3)).block, (ad228.add ((x9_2).toNat * 3)).off + 2, none⟩ = some (.slice A228_2 ((rd_T34 t220 x9_2).f2).length c228_2) ∧ w'.cell? (ad230.add ((x9_2).toNat * 4)) = some (.int .i64 ((rd_T38 l1 x9_2).f0)) ∧ w'.cell? ⟨(ad230.add ((x9_2).toNat * 4)).block, (ad230.add ((x9_2).toNat * 4)).off + 1, none⟩ = some (.int .i64 ((rd_T38 l1 x9_2).f1)) ∧ w'.cell? ⟨(ad230.add ((x9_2).toNat * 4)).block, (ad230.add ((x9_2).toNat * 4)).off + 2, none⟩ = some (.int .i64 ((rd_T38 l1 x9_2).f2)) ∧ w'.cell? ⟨(ad230.add ((x9_2).toNat * 4)).block, (ad230.add ((x9_2).toNat * 4)).off + 3, none⟩ = some (.slice A230_3 ((rd_T38 l1 x9_2).f3).length c230_3) ∧ w'.cell? (ad227.add ((x9_2).toNat * 3)) = some (.int .i64 ((rd_T34 t224 x9_2).f0)) ∧ w'.cell? ⟨(ad227.add ((x9_2).toNat * 3)).block, (ad227.add ((x9_2).toNat * 3)).off + 1, none⟩ = some (.slice A231_1 ((rd_T34 t224 x9_2).f1).length c231_1) ∧ w'.cell? ⟨(ad227.add ((x9_2).toNat * 3)).block, (ad227.add ((x9_2).toNat * 3)).off + 2, none⟩ = some (.slice A231_2 ((rd_T34 t224 x9_2).f2).length c231_2) ∧ w'.cell? (ad228.add ((x9_2).toNat * 3)) = some (.int .i64 ((rd_T34 t220 x9_2).f0)) ∧ w'.cell? ⟨(ad228.add ((x9_2).toNat * 3)).block, (ad228.add ((x9_2).toNat * 3)).off + 1, none⟩ = some (.slice A233_1 ((rd_T34 t220 x9_2).f1).length c233_1) ∧ w'.cell? ⟨(ad228.add ((x9_2).toNat * 3)).block, (ad228.add ((x9_2).toNat * 3)).off + 2, none⟩ = some (.slice A233_2 ((rd_T34 t220 x9_2).f2).length c233_2)) (ds := []) #[false, false, false, false, false, false, false, false, false, false, false, false, false, false, false, false, false, false, false, false, false, false, false, false, false, false, false, false, false, false, false, false, false] (by kernel_rfl) rfl rfl ⟨hx227_0, hx227_1, hx227_2, hx228_0, hx228_1, hx228_2, ((HB.out.cell (World.block_lt_of_cell? w _ hw230_0)).trans hw230_0), ((HB.out.cell (World.block_lt_of_cell? w _ hw230_1)).trans hw230_1), ((HB.out.cell (World.block_lt_of_cell? w _ hw230_2)).trans hw230_2), ((HB.out.cell (World.block_lt_of_cell? w _ hw230_3)).trans hw230_3), hx231_0, hx231_1, hx231_2, hx233_0, hx233_1, hx233_2⟩ (fun hHeld => ?_); refine with_tabW laws_FnRopeRuns.tab12 laws_FnRopeRuns.bits12 (fun HT_ HW_ => ?_)
                              generalize wr.drew = w27 at HO_6 HO_8 HB HL227_1 HL227_2 HL228_1 HL228_2 HL231_1 HL231_2 HL233_1 HL233_2 HR227_1 HR227_2 HR228_1 HR228_2 HR230_3 HR231_1 HR231_2 HR233_1 HR233_2 hx227_0 hx227_1 hx227_2 hx228_0 hx228_1 hx228_2 hx230_0 hx230_1 hx230_2 hx230_3 hx231_0 hx231_1 hx231_2 hx233_0 hx233_1 hx233_2 hHeld ⊢
                              refine pure_ (i := 0) (N := some 41) (v := ?_) (a' := ?_) #[true, false, false, false, false, false, false, false, false, false, false, false, false, false, false, false, false, false, false, false, false, false, false, false, false, false, false, false, false, false, false, false, false] rfl rfl (any_of HT_.out (by kernel_rfl)) (fun _ _ _ h => h) (Or.inl ⟨by rfl, ?_⟩) ?_ ?_
                              rotate_left
                              · intro w'
                                go_simp
                                with_reducible rfl
                              rotate_left
                              · simp only [Act.put, List.setIfInBounds_toArray, List.set_cons_zero, List.set_cons_succ, i64_w, i32_w]
                                rfl
                              refine pure_ (i := 1) (N := some 42) (v := ?_) (a' := ?_) #[true, true, false, false, false, false, false, false, false, false, false, false, false, false, false, false, false, false, false, false, false, false, false, false, false, false, false, false, false, false, false, false, false] rfl rfl (any_of HT_.out (by kernel_rfl)) (fun _ _ _ h => h) (Or.inl ⟨by rfl, ?_⟩) ?_ ?_
                              rotate_left
                              · intro w'
                                go_simp
                                with_reducible rfl
                              rotate_left
                              · simp only [Act.put, List.setIfInBounds_toArray, List.set_cons_zero, List.set_cons_succ, i64_w, i32_w]
                                rfl
                              refine pure_ (i := 2) (N := some 43) (v := ?_) (a' := ?_) #[true, true, true, false, false, false, false, false, false, false, false, false, false, false, false, false, false, false, false, false, false, false, false, false, false, false, false, false, false, false, false, false, false] rfl rfl (any_of HT_.out (by kernel_rfl)) (fun _ _ _ h => h) (Or.inl ⟨by rfl, ?_⟩) ?_ ?_
                              rotate_left
                              · intro w'
                                go_simp
                                with_reducible rfl
                              rotate_left
                              · simp only [Act.put, List.setIfInBounds_toArray, List.set_cons_zero, List.set_cons_succ, i64_w, i32_w]
                                rfl
                              refine pure_ (i := 4) (N := some 45) (v := ?_) (a' := ?_) #[true, true, true, false, true, false, false, false, false, false, false, false, false, false, false, false, false, false, false, false, false, false, false, false, false, false, false, false, false, false, false, false, false] rfl rfl (any_of HT_.out (by kernel_rfl)) (fun _ _ _ h => h) (Or.inl ⟨by rfl, ?_⟩) ?_ ?_
                              rotate_left
                              · intro w'
                                go_simp
                                with_reducible rfl
                              rotate_left
                              · simp only [Act.put, List.setIfInBounds_toArray, List.set_cons_zero, List.set_cons_succ, i64_w, i32_w]
                                rfl
                              refine pure_ (i := 5) (N := some 46) (v := ?_) (a' := ?_) #[true, true, true, false, true, true, false, false, false, false, false, false, false, false, false, false, false, false, false, false, false, false, false, false, false, false, false, false, false, false, false, false, false] rfl rfl (any_of HT_.out (by kernel_rfl)) (fun _ _ _ h => h) (Or.inl ⟨by rfl, ?_⟩) ?_ ?_
                              rotate_left
                              · intro w'
                                go_simp
                                with_reducible rfl
                              rotate_left
                              · simp only [Act.put, List.setIfInBounds_toArray, List.set_cons_zero, List.set_cons_succ, i64_w, i32_w]
                                rfl
                              refine pure_ (i := 6) (N := some 47) (v := ?_) (a' := ?_) #[true, true, true, false, true, true, true, false, false, false, false, false, false, false, false, false, false, false, false, false, false, false, false, false, false, false, false, false, false, false, false, false, false] rfl rfl (any_of HT_.out (by kernel_rfl)) (fun _ _ _ h => h) (Or.inl ⟨by rfl, ?_⟩) ?_ ?_
                              rotate_left
                              · intro w'
                                go_simp
                                with_reducible rfl
                              rotate_left
                              · simp only [Act.put, List.setIfInBounds_toArray, List.set_cons_zero, List.set_cons_succ, i64_w, i32_w]
                                rfl
                              refine take_ (i := 3) (N := some 44) (v := ?_) (a' := ?_) #[true, true, true, true, true, true, true, false, false, false, false, false, false, false, false, false, false, false, false, false, false, false, false, false, false, false, false, false, false, false, false, false, false] rfl rfl (take_ofW HT_.out HW_.out (by kernel_rfl)) (fun _ _ _ h => h) (Or.inl ⟨by rfl, ?_⟩) hHeld ?_ ?_
                              rotate_left
                              · rintro w' ⟨s0, s1, s2, s3, s4, s5, s6, s7, s8, s9, s10, s11, s12, s13, s14, s15⟩
                                go_simp
                                with_reducible rfl
                              rotate_left
                              · simp only [Act.put, List.setIfInBounds_toArray, List.set_cons_zero, List.set_cons_succ, i64_w, i32_w]
                                rfl
                              refine take_ (i := 7) (N := some 48) (v := ?_) (a' := ?_) #[true, true, true, true, true, true, true, true, false, false, false, false, false, false, false, false, false, false, false, false, false, false, false, false, false, false, false, false, false, false, false, false, false] rfl rfl (take_ofW HT_.out HW_.out (by kernel_rfl)) (fun _ _ _ h => h) (Or.inl ⟨by rfl, ?_⟩) hHeld ?_ ?_
                              rotate_left
                              · rintro w' ⟨s0, s1, s2, s3, s4, s5, s6, s7, s8, s9, s10, s11, s12, s13, s14, s15⟩
                                go_simp
                                with_reducible rfl
                              rotate_left
                              · simp only [Act.put, List.setIfInBounds_toArray, List.set_cons_zero, List.set_cons_succ, i64_w, i32_w]
                                rfl
                              refine one_ (i := 8) (N := some 49) #[true, true, true, true, true, true, true, true, true, false, false, false, false, false, false, false, false, false, false, false, false, false, false, false, false, false, false, false, false, false, false, false, false] rfl rfl (one_of HT_.out (by kernel_rfl)) (by decide) (fun K hK => ?_)
                              refine goes_ Try.func16 (by kernel_rfl) rfl #[.agg #[.int .i64 ((rd_T34 t224 x9_2).f0), .slice A227_1 ((rd_T34 t224 x9_2).f1).length c227_1, .slice A227_2 ((rd_T34 t224 x9_2).f2).length c227_2], .agg #[.int .i64 ((rd_T34 t220 x9_2).f0), .slice A228_1 ((rd_T34 t220 x9_2).f1).length c228_1, .slice A228_2 ((rd_T34 t220 x9_2).f2).length c228_2]] (by rfl) rfl rfl (by (try simp only [List.map_toArray, List.map_cons, List.map_nil]); first | done | rfl | (simp only [List.length_drop, List.length_take]; rfl)) ?_
                              with_reducible refine (spec_SamePart.calls k2 ((rd_T34 t224 x9_2).f0) _ _ ((rd_T34 t224 x9_2).f1) _ _ ((rd_T34 t224 x9_2).f2) ((rd_T34 t220 x9_2).f0) _ _ ((rd_T34 t220 x9_2).f1) _ _ ((rd_T34 t220 x9_2).f2) true _ ?side1 ?side2 ?side3 ?side4 ?side5 ?side6 ?side7 ?side8 A19.out).mono ?_
                              (case side1 => repeat (first | exact (by repeat (first | (with_reducible exact HR227_1.out) | (with_reducible refine Kd.C_alloc ?_ _) | (with_reducible refine Kd.C_drewN ?_ _) | (with_reducible refine Kd.C_drew ?_) | exact HR227_1.out)) | (with_reducible refine Kd.C_alloc ?_ _) | (with_reducible refine Kd.C_drewN ?_ _) | (with_reducible refine Kd.C_drew ?_)))
                              (case side2 => exact HC227_1.out)
                              (case side3 => repeat (first | exact (by repeat (first | (with_reducible exact HR227_2.out) | (with_reducible refine Kd.C_alloc ?_ _) | (with_reducible refine Kd.C_drewN ?_ _) | (with_reducible refine Kd.C_drew ?_) | exact HR227_2.out)) | (with_reducible refine Kd.C_alloc ?_ _) | (with_reducible refine Kd.C_drewN ?_ _) | (with_reducible refine Kd.C_drew ?_)))
                              (case side4 => exact HC227_2.out)
                              (case side5 => repeat (first | exact (by repeat (first | (with_reducible exact HR228_1.out) | (with_reducible refine Kd.C_alloc ?_ _) | (with_reducible refine Kd.C_drewN ?_ _) | (with_reducible refine Kd.C_drew ?_) | exact HR228_1.out)) | (with_reducible refine Kd.C_alloc ?_ _) | (with_reducible refine Kd.C_drewN ?_ _) | (with_reducible refine Kd.C_drew ?_)))
                              (case side6 => exact HC228_1.out)
                              (case side7 => repeat (first | exact (by repeat (first | (with_reducible exact HR228_2.out) | (with_reducible refine Kd.C_alloc ?_ _) | (with_reducible refine Kd.C_drewN ?_ _) | (with_reducible refine Kd.C_drew ?_) | exact HR228_2.out)) | (with_reducible refine Kd.C_alloc ?_ _) | (with_reducible refine Kd.C_drewN ?_ _) | (with_reducible refine Kd.C_drew ?_)))
                              (case side8 => exact HC228_2.out)
                              rintro e w28 ⟨rfl, hb⟩
                              have HS0_ := (hb.cell (World.block_lt_of_cell? _ _ (hHeld.1))).trans (hHeld.1)
                              have HS1_ := (hb.cell (World.block_lt_of_cell? _ _ (hHeld.2.1))).trans (hHeld.2.1)
                              have HS2_ := (hb.cell (World.block_lt_of_cell? _ _ (hHeld.2.2.1))).trans (hHeld.2.2.1)
                              have HS3_ := (hb.cell (World.block_lt_of_cell? _ _ (hHeld.2.2.2.1))).trans (hHeld.2.2.2.1)
                              have HS4_ := (hb.cell (World.block_lt_of_cell? _ _ (hHeld.2.2.2.2.1))).trans (hHeld.2.2.2.2.1)
                              have HS5_ := (hb.cell (World.block_lt_of_cell? _ _ (hHeld.2.2.2.2.2.1))).trans (hHeld.2.2.2.2.2.1)
                              have HS10_ := (hb.cell (World.block_lt_of_cell? _ _ (hHeld.2.2.2.2.2.2.2.2.2.2.1))).trans (hHeld.2.2.2.2.2.2.2.2.2.2.1)
                              have HS11_ := (hb.cell (World.block_lt_of_cell? _ _ (hHeld.2.2.2.2.2.2.2.2.2.2.2.1))).trans (hHeld.2.2.2.2.2.2.2.2.2.2.2.1)
                              have HS12_ := (hb.cell (World.block_lt_of_cell? _ _ (hHeld.2.2.2.2.2.2.2.2.2.2.2.2.1))).trans (hHeld.2.2.2.2.2.2.2.2.2.2.2.2.1)
                              have HS13_ := (hb.cell (World.block_lt_of_cell? _ _ (hHeld.2.2.2.2.2.2.2.2.2.2.2.2.2.1))).trans (hHeld.2.2.2.2.2.2.2.2.2.2.2.2.2.1)
                              have HS14_ := (hb.cell (World.block_lt_of_cell? _ _ (hHeld.2.2.2.2.2.2.2.2.2.2.2.2.2.2.1))).trans (hHeld.2.2.2.2.2.2.2.2.2.2.2.2.2.2.1)
                              have HS15_ := (hb.cell (World.block_lt_of_cell? _ _ (hHeld.2.2.2.2.2.2.2.2.2.2.2.2.2.2.2))).trans (hHeld.2.2.2.2.2.2.2.2.2.2.2.2.2.2.2)
                              refine ⟨_, rfl, ?_⟩
                              have n0_ := Aside0.mk (Kd.N_below (by (with_reducible repeat (first | apply Kd.N_alloc | apply Kd.N_drewN | apply Kd.N_drew)); exact HO_6.out) hb)
                              have n1_ := Aside0.mk (Kd.N_below (by (with_reducible repeat (first | apply Kd.N_alloc | apply Kd.N_drewN | apply Kd.N_drew)); exact HO_8.out) hb)
                              have n2_ := Aside0.mk (Kd.V_below (by (with_reducible repeat (first | apply Kd.V_alloc | apply Kd.V_drewN | apply Kd.V_drew)); exact HL227_1.out) hb)
                              have n3_ := Aside0.mk (Kd.V_below (by (with_reducible repeat (first | apply Kd.V_alloc | apply Kd.V_drewN | apply Kd.V_drew)); exact HL227_2.out) hb)
                              have n4_ := Aside0.mk (Kd.V_below (by (with_reducible repeat (first | apply Kd.V_alloc | apply Kd.V_drewN | apply Kd.V_drew)); exact HL228_1.out) hb)
                              have n5_ := Aside0.mk (Kd.V_below (by (with_reducible repeat (first | apply Kd.V_alloc | apply Kd.V_drewN | apply Kd.V_drew)); exact HL228_2.out) hb)
                              have n6_ := Aside0.mk (Kd.C_below (by repeat (first | (with_reducible exact HR227_1.out) | (with_reducible refine Kd.C_alloc ?_ _) | (with_reducible refine Kd.C_drewN ?_ _) | (with_reducible refine Kd.C_drew ?_) | exact HR227_1.out)) hb)
                              have n7_ := Aside0.mk (Kd.C_below (by repeat (first | (with_reducible exact HR227_2.out) | (with_reducible refine Kd.C_alloc ?_ _) | (with_reducible refine Kd.C_drewN ?_ _) | (with_reducible refine Kd.C_drew ?_) | exact HR227_2.out)) hb)
                              have n8_ := Aside0.mk (Kd.C_below (by repeat (first | (with_reducible exact HR228_1.out) | (with_reducible refine Kd.C_alloc ?_ _) | (with_reducible refine Kd.C_drewN ?_ _) | (with_reducible refine Kd.C_drew ?_) | exact HR228_1.out)) hb)
                              have n9_ := Aside0.mk (Kd.C_below (by repeat (first | (with_reducible exact HR228_2.out) | (with_reducible refine Kd.C_alloc ?_ _) | (with_reducible refine Kd.C_drewN ?_ _) | (with_reducible refine Kd.C_drew ?_) | exact HR228_2.out)) hb)
                              have n10_ := Aside0.mk (below_step (by repeat (first | (with_reducible first | exact HB.out | apply below_alloc | apply pw_below_drewN | apply below_drew1) | exact HB.out)) hb)
                              clear HO_6
                              clear HO_8
                              clear HL227_1
                              clear HL227_2
                              clear HL228_1
                              clear HL228_2
                              clear HR227_1
                              clear HR227_2
                              clear HR228_1
                              clear HR228_2
                              clear HB
                              have HO_6 := n0_
                              have HO_8 := n1_
                              have HL227_1 := n2_
                              have HL227_2 := n3_
                              have HL228_1 := n4_
                              have HL228_2 := n5_
                              have HR227_1 := n6_
                              have HR227_2 := n7_
                              have HR228_1 := n8_
                              have HR228_2 := n9_
                              have HB := n10_
                              clear n0_ n1_ n2_ n3_ n4_ n5_ n6_ n7_ n8_ n9_ n10_
                              (try clear hb)
                              (try clear hb2)
                              (try clear hk)
                              (try clear hi)
                              refine hK.out _ _ ⟨HS0_, HS1_, HS2_, HS3_, HS4_, HS5_, ((HB.out.cell (World.block_lt_of_cell? w _ hw230_0)).trans hw230_0), ((HB.out.cell (World.block_lt_of_cell? w _ hw230_1)).trans hw230_1), ((HB.out.cell (World.block_lt_of_cell? w _ hw230_2)).trans hw230_2), ((HB.out.cell (World.block_lt_of_cell? w _ hw230_3)).trans hw230_3), HS10_, HS11_, HS12_, HS13_, HS14_, HS15_⟩ (fun hHeld => ?_)
                              clear hK K
                              refine norm_ (a' := ?_) ?_ ?_
                              rotate_left
                              · show Act.put _ (some 49) _ = _
                                simp only [Act.put, List.setIfInBounds_toArray, List.set_cons_zero, List.set_cons_succ, i64_w, i32_w]
                                rfl
                              refine pure_ (i := 9) (N := some 50) (v := ?_) (a' := ?_) #[true, true, true, true, true, true, true, true, true, true, false, false, false, false, false, false, false, false, false, false, false, false, false, false, false, false, false, false, false, false, false, false, false] rfl rfl (any_of HT_.out (by kernel_rfl)) (fun _ _ _ h => h) (Or.inl ⟨by rfl, ?_⟩) ?_ ?_
                              rotate_left
                              · intro w'
                                go_simp
                                with_reducible rfl
                              rotate_left
                              · simp only [Act.put, List.setIfInBounds_toArray, List.set_cons_zero, List.set_cons_succ, i64_w, i32_w]
                                rfl
                              refine pure_ (i := 10) (N := some 51) (v := ?_) (a' := ?_) #[true, true, true, true, true, true, true, true, true, true, true, false, false, false, false, false, false, false, false, false, false, false, false, false, false, false, false, false, false, false, false, false, false] rfl rfl (any_of HT_.out (by kernel_rfl)) (fun _ _ _ h => h) (Or.inl ⟨by rfl, ?_⟩) ?_ ?_
                              rotate_left
                              · intro w'
                                go_simp
                                with_reducible rfl
                              rotate_left
                              · simp only [Act.put, List.setIfInBounds_toArray, List.set_cons_zero, List.set_cons_succ, i64_w, i32_w]
                                rfl
                              refine pure_ (i := 11) (N := some 52) (v := ?_) (a' := ?_) #[true, true, true, true, true, true, true, true, true, true, true, true, false, false, false, false, false, false, false, false, false, false, false, false, false, false, false, false, false, false, false, false, false] rfl rfl (any_of HT_.out (by kernel_rfl)) (fun _ _ _ h => h) (Or.inl ⟨by rfl, ?_⟩) ?_ ?_
                              rotate_left
                              · intro w'
                                go_simp
                                with_reducible rfl
                              rotate_left
                              · simp only [Act.put, List.setIfInBounds_toArray, List.set_cons_zero, List.set_cons_succ, i64_w, i32_w]
                                rfl
                              refine pure_ (i := 12) (N := some 53) (v := ?_) (a' := ?_) #[true, true, true, true, true, true, true, true, true, true, true, true, true, false, false, false, false, false, false, false, false, false, false, false, false, false, false, false, false, false, false, false, false] rfl rfl (any_of HT_.out (by kernel_rfl)) (fun _ _ _ h => h) (Or.inl ⟨by rfl, ?_⟩) ?_ ?_
                              rotate_left
                              · intro w'
                                go_simp
                                with_reducible rfl
                              rotate_left
                              · simp only [Act.put, List.setIfInBounds_toArray, List.set_cons_zero, List.set_cons_succ, i64_w, i32_w]
                                rfl
                              refine pure_ (i := 13) (N := some 54) (v := ?_) (a' := ?_) #[true, true, true, true, true, true, true, true, true, true, true, true, true, true, false, false, false, false, false, false, false, false, false, false, false, false, false, false, false, false, false, false, false] rfl rfl (any_of HT_.out (by kernel_rfl)) (fun _ _ _ h => h) (Or.inl ⟨by rfl, ?_⟩) ?_ ?_
                              rotate_left
                              · intro w'
                                go_simp
                                with_reducible rfl
                              rotate_left
                              · simp only [Act.put, List.setIfInBounds_toArray, List.set_cons_zero, List.set_cons_succ, i64_w, i32_w]
                                rfl
                              refine pure_ (i := 14) (N := some 55) (v := ?_) (a' := ?_) #[true, true, true, true, true, true, true, true, true, true, true, true, true, true, true, false, false, false, false, false, false, false, false, false, false, false, false, false, false, false, false, false, false] rfl rfl (any_of HT_.out (by kernel_rfl)) (fun _ _ _ h => h) (Or.inl ⟨by rfl, ?_⟩) ?_ ?_
                              rotate_left
                              · intro w'
                                go_simp
                                with_reducible rfl
                              rotate_left
                              · simp only [Act.put, List.setIfInBounds_toArray, List.set_cons_zero, List.set_cons_succ, i64_w, i32_w]
                                rfl
                              refine take_ (i := 15) (N := some 56) (v := ?_) (a' := ?_) #[true, true, true, true, true, true, true, true, true, true, true, true, true, true, true, true, false, false, false, false, false, false, false, false, false, false, false, false, false, false, false, false, false] rfl rfl (take_ofW HT_.out HW_.out (by kernel_rfl)) (fun _ _ _ h => h) (Or.inl ⟨by rfl, ?_⟩) hHeld ?_ ?_
                              rotate_left
                              · rintro w' ⟨s0, s1, s2, s3, s4, s5, s6, s7, s8, s9, s10, s11, s12, s13, s14, s15⟩
                                go_simp
                                with_reducible rfl
                              rotate_left
                              · simp only [Act.put, List.setIfInBounds_toArray, List.set_cons_zero, List.set_cons_succ, i64_w, i32_w]
                                rfl
                              refine pure_ (i := 16) (N := some 57) (v := ?_) (a' := ?_) #[true, true, true, true, true, true, true, true, true, true, true, true, true, true, true, true, true, false, false, false, false, false, false, false, false, false, false, false, false, false, false, false, false] rfl rfl (any_of HT_.out (by kernel_rfl)) (fun _ _ _ h => h) (Or.inl ⟨by rfl, ?_⟩) ?_ ?_
                              rotate_left
                              · intro w'
                                go_simp
                                with_reducible rfl
                              rotate_left
                              · simp only [Act.put, List.setIfInBounds_toArray, List.set_cons_zero, List.set_cons_succ, i64_w, i32_w]
                                rfl
                              refine pure_ (i := 17) (N := some 58) (v := ?_) (a' := ?_) #[true, true, true, true, true, true, true, true, true, true, true, true, true, true, true, true, true, true, false, false, false, false, false, false, false, false, false, false, false, false, false, false, false] rfl rfl (any_of HT_.out (by kernel_rfl)) (fun _ _ _ h => h) (Or.inl ⟨by rfl, ?_⟩) ?_ ?_
                              rotate_left
                              · intro w'
                                go_simp
                                with_reducible rfl
                              rotate_left
                              · simp only [Act.put, List.setIfInBounds_toArray, List.set_cons_zero, List.set_cons_succ, i64_w, i32_w]
                                rfl
                              refine pure_ (i := 18) (N := some 59) (v := ?_) (a' := ?_) #[true, true, true, true, true, true, true, true, true, true, true, true, true, true, true, true, true, true, true, false, false, false, false, false, false, false, false, false, false, false, false, false, false] rfl rfl (any_of HT_.out (by kernel_rfl)) (fun _ _ _ h => h) (Or.inl ⟨by rfl, ?_⟩) ?_ ?_
                              rotate_left
                              · intro w'
                                go_simp
                                with_reducible rfl
                              rotate_left
                              · simp only [Act.put, List.setIfInBounds_toArray, List.set_cons_zero, List.set_cons_succ, i64_w, i32_w]
                                rfl
                              refine pure_ (i := 19) (N := some 60) (v := ?_) (a' := ?_) #[true, true, true, true, true, true, true, true, true, true, true, true, true, true, true, true, true, true, true, true, false, false, false, false, false, false, false, false, false, false, false, false, false] rfl rfl (any_of HT_.out (by kernel_rfl)) (fun _ _ _ h => h) (Or.inl ⟨by rfl, ?_⟩) ?_ ?_
                              rotate_left
                              · intro w'
                                go_simp
                                with_reducible rfl
                              rotate_left
                              · simp only [Act.put, List.setIfInBounds_toArray, List.set_cons_zero, List.set_cons_succ, i64_w, i32_w]
                                rfl
                              refine pure_ (i := 20) (N := some 61) (v := ?_) (a' := ?_) #[true, true, true, true, true, true, true, true, true, true, true, true, true, true, true, true, true, true, true, true, true, false, false, false, false, false, false, false, false, false, false, false, false] rfl rfl (any_of HT_.out (by kernel_rfl)) (fun _ _ _ h => h) (Or.inl ⟨by rfl, ?_⟩) ?_ ?_
                              rotate_left
                              · intro w'
                                go_simp
                                with_reducible rfl
                              rotate_left
                              · simp only [Act.put, List.setIfInBounds_toArray, List.set_cons_zero, List.set_cons_succ, i64_w, i32_w]
                                rfl
                              refine pure_ (i := 21) (N := some 62) (v := ?_) (a' := ?_) #[true, true, true, true, true, true, true, true, true, true, true, true, true, true, true, true, true, true, true, true, true, true, false, false, false, false, false, false, false, false, false, false, false] rfl rfl (any_of HT_.out (by kernel_rfl)) (fun _ _ _ h => h) (Or.inl ⟨by rfl, ?_⟩) ?_ ?_
                              rotate_left
                              · intro w'
                                go_simp
                                with_reducible rfl
                              rotate_left
                              · simp only [Act.put, List.setIfInBounds_toArray, List.set_cons_zero, List.set_cons_succ, i64_w, i32_w]
                                rfl
                              refine pure_ (i := 24) (N := some 65) (v := ?_) (a' := ?_) #[true, true, true, true, true, true, true, true, true, true, true, true, true, true, true, true, true, true, true, true, true, true, false, false, true, false, false, false, false, false, false, false, false] rfl rfl (any_of HT_.out (by kernel_rfl)) (fun _ _ _ h => h) (Or.inl ⟨by rfl, ?_⟩) ?_ ?_
                              rotate_left
                              · intro w'
                                go_simp
                                with_reducible rfl
                              rotate_left
                              · simp only [Act.put, List.setIfInBounds_toArray, List.set_cons_zero, List.set_cons_succ, i64_w, i32_w]
                                rfl
                              refine pure_ (i := 25) (N := some 66) (v := ?_) (a' := ?_) #[true, true, true, true, true, true, true, true, true, true, true, true, true, true, true, true, true, true, true, true, true, true, false, false, true, true, false, false, false, false, false, false, false] rfl rfl (any_of HT_.out (by kernel_rfl)) (fun _ _ _ h => h) (Or.inl ⟨by rfl, ?_⟩) ?_ ?_
                              rotate_left
                              · intro w'
                                go_simp
                                with_reducible rfl
                              rotate_left
                              · simp only [Act.put, List.setIfInBounds_toArray, List.set_cons_zero, List.set_cons_succ, i64_w, i32_w]
                                rfl
                              refine pure_ (i := 26) (N := some 67) (v := ?_) (a' := ?_) #[true, true, true, true, true, true, true, true, true, true, true, true, true, true, true, true, true, true, true, true, true, true, false, false, true, true, true, false, false, false, false, false, false] rfl rfl (any_of HT_.out (by kernel_rfl)) (fun _ _ _ h => h) (Or.inl ⟨by rfl, ?_⟩) ?_ ?_
                              rotate_left
                              · intro w'
                                go_simp
                                with_reducible rfl
                              rotate_left
                              · simp only [Act.put, List.setIfInBounds_toArray, List.set_cons_zero, List.set_cons_succ, i64_w, i32_w]
                                rfl
                              refine pure_ (i := 27) (N := some 68) (v := ?_) (a' := ?_) #[true, true, true, true, true, true, true, true, true, true, true, true, true, true, true, true, true, true, true, true, true, true, false, false, true, true, true, true, false, false, false, false, false] rfl rfl (any_of HT_.out (by kernel_rfl)) (fun _ _ _ h => h) (Or.inl ⟨by rfl, ?_⟩) ?_ ?_
                              rotate_left
                              · intro w'
                                go_simp
                                with_reducible rfl
                              rotate_left
                              · simp only [Act.put, List.setIfInBounds_toArray, List.set_cons_zero, List.set_cons_succ, i64_w, i32_w]
                                rfl
                              refine take_ (i := 22) (N := some 63) (v := ?_) (a' := ?_) #[true, true, true, true, true, true, true, true, true, true, true, true, true, true, true, true, true, true, true, true, true, true, true, false, true, true, true, true, false, false, false, false, false] rfl rfl (take_ofW HT_.out HW_.out (by kernel_rfl)) (fun _ _ _ h => h) (Or.inl ⟨by rfl, ?_⟩) hHeld ?_ ?_
                              rotate_left
                              · rintro w' ⟨s0, s1, s2, s3, s4, s5, s6, s7, s8, s9, s10, s11, s12, s13, s14, s15⟩
                                go_simp
                                with_reducible rfl
                              rotate_left
                              · simp only [Act.put, List.setIfInBounds_toArray, List.set_cons_zero, List.set_cons_succ, i64_w, i32_w]
                                rfl
                              refine take_ (i := 28) (N := some 69) (v := ?_) (a' := ?_) #[true, true, true, true, true, true, true, true, true, true, true, true, true, true, true, true, true, true, true, true, true, true, true, false, true, true, true, true, true, false, false, false, false] rfl rfl (take_ofW HT_.out HW_.out (by kernel_rfl)) (fun _ _ _ h => h) (Or.inl ⟨by rfl, ?_⟩) hHeld ?_ ?_
                              rotate_left
                              · rintro w' ⟨s0, s1, s2, s3, s4, s5, s6, s7, s8, s9, s10, s11, s12, s13, s14, s15⟩
                                go_simp
                                with_reducible rfl
                              rotate_left
                              · simp only [Act.put, List.setIfInBounds_toArray, List.set_cons_zero, List.set_cons_succ, i64_w, i32_w]
                                rfl
                              refine pure_ (i := 29) (N := some 70) (v := ?_) (a' := ?_) #[true, true, true, true, true, true, true, true, true, true, true, true, true, true, true, true, true, true, true, true, true, true, true, false, true, true, true, true, true, true, false, false, false] rfl rfl (any_of HT_.out (by kernel_rfl)) (fun _ _ _ h => h) (Or.inl ⟨by rfl, ?_⟩) ?_ ?_
                              rotate_left
                              · intro w'
                                go_simp
                                with_reducible rfl
                              rotate_left
                              · simp only [Act.put, List.setIfInBounds_toArray, List.set_cons_zero, List.set_cons_succ, i64_w, i32_w]
                                rfl
                              refine one_ (i := 23) (N := some 64) #[true, true, true, true, true, true, true, true, true, true, true, true, true, true, true, true, true, true, true, true, true, true, true, true, true, true, true, true, true, true, false, false, false] rfl rfl (one_of HT_.out (by kernel_rfl)) (by decide) (fun K hK => ?_)
                              refine goes_ Try.func17 (by kernel_rfl) rfl #[.slice A227_2 ((rd_T34 t224 x9_2).f2).length c227_2] (by rfl) rfl rfl (by (try simp only [List.map_toArray, List.map_cons, List.map_nil]); first | done | rfl | (simp only [List.length_drop, List.length_take]; rfl)) ?_
                              with_reducible refine (spec_Sum.calls k2 _ _ ((rd_T34 t224 x9_2).f2) t232 _ ?side1 ?side2 A23.out).mono ?_
                              (case side1 => repeat (first | exact (by repeat (first | (with_reducible exact HR227_2.out) | (with_reducible refine Kd.C_alloc ?_ _) | (with_reducible refine Kd.C_drewN ?_ _) | (with_reducible refine Kd.C_drew ?_) | exact HR227_2.out)) | (with_reducible refine Kd.C_alloc ?_ _) | (with_reducible refine Kd.C_drewN ?_ _) | (with_reducible refine Kd.C_drew ?_)))
                              (case side2 => exact HC227_2.out)
                              rintro e w' ⟨rfl, ⟨nd, rfl⟩⟩
                              refine ⟨_, rfl, ?_⟩
                              refine hK.out _ _ ⟨hHeld.1, hHeld.2.1, hHeld.2.2.1, hHeld.2.2.2.1, hHeld.2.2.2.2.1, hHeld.2.2.2.2.2.1, ((HB.out.cell (World.block_lt_of_cell? w _ hw230_0)).trans hw230_0), ((HB.out.cell (World.block_lt_of_cell? w _ hw230_1)).trans hw230_1), ((HB.out.cell (World.block_lt_of_cell? w _ hw230_2)).trans hw230_2), ((HB.out.cell (World.block_lt_of_cell? w _ hw230_3)).trans hw230_3), hHeld.2.2.2.2.2.2.2.2.2.2.1, hHeld.2.2.2.2.2.2.2.2.2.2.2.1, hHeld.2.2.2.2.2.2.2.2.2.2.2.2.1, hHeld.2.2.2.2.2.2.2.2.2.2.2.2.2.1, hHeld.2.2.2.2.2.2.2.2.2.2.2.2.2.2.1, hHeld.2.2.2.2.2.2.2.2.2.2.2.2.2.2.2⟩ (fun hHeld => ?_)
                              clear hK K
                              refine norm_ (a' := ?_) ?_ ?_
                              rotate_left
                              · show Act.put _ (some 64) _ = _
                                simp only [Act.put, List.setIfInBounds_toArray, List.set_cons_zero, List.set_cons_succ, i64_w, i32_w]
                                rfl
                              refine pure_ (i := 30) (N := some 71) (v := ?_) (a' := ?_) #[true, true, true, true, true, true, true, true, true, true, true, true, true, true, true, true, true, true, true, true, true, true, true, true, true, true, true, true, true, true, true, false, false] rfl rfl (any_of HT_.out (by kernel_rfl)) (fun _ _ _ h => h) (Or.inl ⟨by rfl, ?_⟩) ?_ ?_
                              rotate_left
                              · intro w'
                                go_simp
                                with_reducible rfl
                              rotate_left
                              · simp only [Act.put, List.setIfInBounds_toArray, List.set_cons_zero, List.set_cons_succ, i64_w, i32_w]
                                rfl
                              refine pure_ (i := 31) (N := some 72) (v := ?_) (a' := ?_) #[true, true, true, true, true, true, true, true, true, true, true, true, true, true, true, true, true, true, true, true, true, true, true, true, true, true, true, true, true, true, true, true, false] rfl rfl (any_of HT_.out (by kernel_rfl)) (fun _ _ _ h => h) (Or.inl ⟨by rfl, ?_⟩) ?_ ?_
                              rotate_left
                              · intro w'
                                go_simp
                                with_reducible rfl
                              rotate_left
                              · simp only [Act.put, List.setIfInBounds_toArray, List.set_cons_zero, List.set_cons_succ, i64_w, i32_w]
                                rfl
                              refine pure_ (i := 32) (N := some 73) (v := ?_) (a' := ?_) #[true, true, true, true, true, true, true, true, true, true, true, true, true, true, true, true, true, true, true, true, true, true, true, true, true, true, true, true, true, true, true, true, true] rfl rfl (any_of HT_.out (by kernel_rfl)) (fun _ _ _ h => h) (Or.inl ⟨by rfl, ?_⟩) ?_ ?_
                              rotate_left
                              · intro w'
                                go_simp
                                with_reducible rfl
                              rotate_left
                              · simp only [Act.put, List.setIfInBounds_toArray, List.set_cons_zero, List.set_cons_succ, i64_w, i32_w]
                                rfl
                              refine done_ (done_of HT_.out (by kernel_rfl)) ?_
                              try go_wp2
                              go_ret
                              exact ⟨by first | rfl | (simp [errW_none, errW_some] <;> rfl) | (simp [*, errW_none, errW_some] <;> rfl), by repeat (first | (with_reducible first | exact HB.out | apply below_alloc | apply pw_below_drewN | apply below_drew1) | exact HB.out)⟩
                          · rw [if_neg c22] at H
                            have c22b0 : (((rd_T38 l1 x9_2).f0) == 11) = false := beq_eq_false_iff_ne.mpr c22
                            have c22b1 : (((rd_T38 l1 x9_2).f0) != 11) = true := bne_iff_ne.mpr c22
                            have H' := Aside0.mk H
                            clear H
                            try go_wp2
                            have n0_ := Aside0.mk (Kd.N_drew HO_6.out)
                            have n1_ := Aside0.mk (Kd.N_drew HO_8.out)
                            have n2_ := Aside0.mk (below_drew1 HB.out)
                            clear HO_6
                            clear HO_8
                            clear HB
                            have HO_6 := n0_
                            have HO_8 := n1_
                            have HB := n2_
                            clear n0_ n1_ n2_
                            have p227 : 0 ≤ (x9_2 : Int) := of_decide_eq_true (by first | (with_reducible assumption) | assumption)
                            have q227 : x9_2 < (t224.length : Int) := of_decide_eq_true (by first | (with_reducible assumption) | assumption)
                            obtain ⟨ad227, A227_1, c227_1, A227_2, c227_2, e227, hx227_0, hx227_1, hx227_2, hl227_1, hi227_1, hl227_2, hi227_2⟩ := at_T34 (Kd.N_reads' HO_8.out).2.2 x9_2 p227 q227
                            cases e227
                            obtain ⟨ce227, hce227, hMe227, hcc227⟩ := Kd.N_get HO_8.out z34 x9_2 p227 (by first | exact q227 | exact of_decide_eq_true (by first | (with_reducible assumption) | assumption) | (have e_ := (Kd.N_reads' HO_8.out).1; omega))
                            obtain ⟨ua227_1, uc227_1, ua227_2, uc227_2, rfl, ul227_1, ge227_1, ul227_2, ge227_2⟩ := k34_openF hMe227
                            have hv227_1 := hcc227 1 _ rfl
                            rw [add_field _ _ 1 (by omega)] at hv227_1
                            replace hv227_1 := Option.some.inj (hv227_1.symm.trans hx227_1)
                            injection hv227_1 with hva_ hvn_ hvc_
                            rw [hva_] at ge227_1
                            rw [hvc_] at ul227_1
                            have HL227_1 := Aside0.mk (show Kd.V (Kd.int .i64) 3 _ w.heap.size _ _ ((rd_T34 t224 x9_2).f1) from Kd.V_mk ul227_1 ge227_1)
                            clear hva_ hvn_ hvc_ ge227_1 ul227_1
                            have hv227_2 := hcc227 2 _ rfl
                            rw [add_field _ _ 2 (by omega)] at hv227_2
                            replace hv227_2 := Option.some.inj (hv227_2.symm.trans hx227_2)
                            injection hv227_2 with hva_ hvn_ hvc_
                            rw [hva_] at ge227_2
                            rw [hvc_] at ul227_2
                            have HL227_2 := Aside0.mk (show Kd.V (Kd.int .i64) 3 _ w.heap.size _ _ ((rd_T34 t224 x9_2).f2) from Kd.V_mk ul227_2 ge227_2)
                            clear hva_ hvn_ hvc_ ge227_2 ul227_2
                            clear hcc227 hce227
                            have HR227_1 := Aside0.mk hi227_1
                            have HC227_1 := Aside0.mk hl227_1
                            clear hi227_1 hl227_1
                            have HR227_2 := Aside0.mk hi227_2
                            have HC227_2 := Aside0.mk hl227_2
                            clear hi227_2 hl227_2
                            replace p227 := eq_true p227
                            replace q227 := eq_true q227
                            have p228 : 0 ≤ (x9_2 : Int) := of_decide_eq_true (by first | (with_reducible assumption) | assumption)
                            have q228 : x9_2 < (t220.length : Int) := of_decide_eq_true (by first | (with_reducible assumption) | assumption)
                            obtain ⟨ad228, A228_1, c228_1, A228_2, c228_2, e228, hx228_0, hx228_1, hx228_2, hl228_1, hi228_1, hl228_2, hi228_2⟩ := at_T34 (Kd.N_reads' HO_6.out).2.2 x9_2 p228 q228
                            cases e228
                            obtain ⟨ce228, hce228, hMe228, hcc228⟩ := Kd.N_get HO_6.out z34 x9_2 p228 (by first | exact q228 | exact of_decide_eq_true (by first | (with_reducible assumption) | assumption) | (have e_ := (Kd.N_reads' HO_6.out).1; omega))
                            obtain ⟨ua228_1, uc228_1, ua228_2, uc228_2, rfl, ul228_1, ge228_1, ul228_2, ge228_2⟩ := k34_openF hMe228
                            have hv228_1 := hcc228 1 _ rfl
                            rw [add_field _ _ 1 (by omega)] at hv228_1
                            replace hv228_1 := Option.some.inj (hv228_1.symm.trans hx228_1)
                            injection hv228_1 with hva_ hvn_ hvc_
                            rw [hva_] at ge228_1
                            rw [hvc_] at ul228_1
                            have HL228_1 := Aside0.mk (show Kd.V (Kd.int .i64) 3 _ w.heap.size _ _ ((rd_T34 t220 x9_2).f1) from Kd.V_mk ul228_1 ge228_1)
                            clear hva_ hvn_ hvc_ ge228_1 ul228_1
                            have hv228_2 := hcc228 2 _ rfl
                            rw [add_field _ _ 2 (by omega)] at hv228_2
                            replace hv228_2 := Option.some.inj (hv228_2.symm.trans hx228_2)
                            injection hv228_2 with hva_ hvn_ hvc_
                            rw [hva_] at ge228_2
                            rw [hvc_] at ul228_2
                            have HL228_2 := Aside0.mk (show Kd.V (Kd.int .i64) 3 _ w.heap.size _ _ ((rd_T34 t220 x9_2).f2) from Kd.V_mk ul228_2 ge228_2)
                            clear hva_ hvn_ hvc_ ge228_2 ul228_2
                            clear hcc228 hce228
                            have HR228_1 := Aside0.mk hi228_1
                            have HC228_1 := Aside0.mk hl228_1
                            clear hi228_1 hl228_1
                            have HR228_2 := Aside0.mk hi228_2
                            have HC228_2 := Aside0.mk hl228_2
                            clear hi228_2 hl228_2
                            replace p228 := eq_true p228
                            replace q228 := eq_true q228
                            have p230 : 0 ≤ (x9_2 : Int) := of_decide_eq_true (by first | (with_reducible assumption) | assumption)
                            have q230 : x9_2 < (l1.length : Int) := of_decide_eq_true (by first | (with_reducible assumption) | assumption)
                            obtain ⟨ad230, A230_3, c230_3, e230, hx230_0, hx230_1, hx230_2, hx230_3, hl230_3, hi230_3⟩ := at_T38 HR1.out x9_2 p230 q230
                            have hw230_3 := hx230_3
                            have hw230_2 := hx230_2
                            have hw230_1 := hx230_1
                            have hw230_0 := hx230_0
                            cases e230
                            replace hx230_0 := (HB.out.cell (World.block_lt_of_cell? w _ hx230_0)).trans hx230_0
                            replace hx230_1 := (HB.out.cell (World.block_lt_of_cell? w _ hx230_1)).trans hx230_1
                            replace hx230_2 := (HB.out.cell (World.block_lt_of_cell? w _ hx230_2)).trans hx230_2
                            replace hx230_3 := (HB.out.cell (World.block_lt_of_cell? w _ hx230_3)).trans hx230_3
                            have HR230_3 := Aside0.mk hi230_3
                            have HC230_3 := Aside0.mk hl230_3
                            clear hi230_3 hl230_3
                            replace p230 := eq_true p230
                            replace q230 := eq_true q230
                            refine start_ (n := 33) (S := fun w' => w'.cell? (ad227.add ((x9_2).toNat * 3)) = some (.int .i64 ((rd_T34 t224 x9_2).f0)) ∧ w'.cell? ⟨(ad227.add ((x9_2).toNat * 3)).block, (ad227.add ((x9_2).toNat * 3)).off + 1, none⟩ = some (.slice A227_1 ((rd_T34 t224 x9_2).f1).length c227_1) ∧ w'.cell? ⟨(ad227.add ((x9_2).toNat * 3)).block, (ad227.add ((x9_2).toNat * 3)).off + 2, none⟩ = some (.slice A227_2 ((rd_T34 t224 x9_2).f2).length c227_2) ∧ w'.cell? (ad228.add ((x9_2).toNat * 3)) = some (.int .i64 ((rd_T34 t220 x9_2).f0)) ∧ w'.cell? ⟨(ad228.add ((x9_2).toNat * 3)).block, (ad228.add ((x9_2).toNat * 3)).off + 1, none⟩ = some (.slice A228_1 ((rd_T34 t220 x9_2).f1).length c228_1) ∧ w'.cell? ⟨(ad228.add ((x9_2).toNat * 3)).block, (ad228.add ((x9_2).toNat * 3)).off + 2, none⟩ = some (.slice A228_2 ((rd_T34 t220 x9_2).f2).length c228_2) ∧ w'.cell? (ad230.add ((x9_2).toNat * 4)) = some (.int .i64 ((rd_T38 l1 x9_2).f0)) ∧ w'.cell? ⟨(ad230.add ((x9_2).toNat * 4)).block, (ad230.add ((x9_2).toNat * 4)).off + 1, none⟩ = some (.int .i64 ((rd_T38 l1 x9_2).f1)) ∧ w'.cell? ⟨(ad230.add ((x9_2).toNat * 4)).block, (ad230.add ((x9_2).toNat * 4)).off + 2, none⟩ = some (.int .i64 ((rd_T38 l1 x9_2).f2)) ∧ w'.cell? ⟨(ad230.add ((x9_2).toNat * 4)).block, (ad230.add ((x9_2).toNat * 4)).off + 3, none⟩ = some (.slice A230_3 ((rd_T38 l1 x9_2).f3).length c230_3)) (ds := []) #[false, false, false, false, false, false, false, false, false, false, false, false, false, false, false, false, false, false, false, false, false, false, false, false, false, false, false, false, false, false, false, false, false] (by kernel_rfl) rfl rfl ⟨hx227_0, hx227_1, hx227_2, hx228_0, hx228_1, hx228_2, ((HB.out.cell (World.block_lt_of_cell? w _ hw230_0)).trans hw230_0), ((HB.out.cell (World.block_lt_of_cell? w _ hw230_1)).trans hw230_1), ((HB.out.cell (World.block_lt_of_cell? w _ hw230_2)).trans hw230_2), ((HB.out.cell (World.block_lt_of_cell? w _ hw230_3)).trans hw230_3)⟩ (fun hHeld => ?_); refine with_tabW laws_FnRopeRuns.tab12 laws_FnRopeRuns.bits12 (fun HT_ HW_ => ?_)
                            generalize wr.drew = w29 at HO_6 HO_8 HB HL227_1 HL227_2 HL228_1 HL228_2 HR227_1 HR227_2 HR228_1 HR228_2 HR230_3 hx227_0 hx227_1 hx227_2 hx228_0 hx228_1 hx228_2 hx230_0 hx230_1 hx230_2 hx230_3 hHeld ⊢
                            refine pure_ (i := 0) (N := some 41) (v := ?_) (a' := ?_) #[true, false, false, false, false, false, false, false, false, false, false, false, false, false, false, false, false, false, false, false, false, false, false, false, false, false, false, false, false, false, false, false, false] rfl rfl (any_of HT_.out (by kernel_rfl)) (fun _ _ _ h => h) (Or.inl ⟨by rfl, ?_⟩) ?_ ?_
                            rotate_left
                            · intro w'
                              go_simp
                              with_reducible rfl
                            rotate_left
                            · simp only [Act.put, List.setIfInBounds_toArray, List.set_cons_zero, List.set_cons_succ, i64_w, i32_w]
                              rfl
                            refine pure_ (i := 1) (N := some 42) (v := ?_) (a' := ?_) #[true, true, false, false, false, false, false, false, false, false, false, false, false, false, false, false, false, false, false, false, false, false, false, false, false, false, false, false, false, false, false, false, false] rfl rfl (any_of HT_.out (by kernel_rfl)) (fun _ _ _ h => h) (Or.inl ⟨by rfl, ?_⟩) ?_ ?_
                            rotate_left
                            · intro w'
                              go_simp
                              with_reducible rfl
                            rotate_left
                            · simp only [Act.put, List.setIfInBounds_toArray, List.set_cons_zero, List.set_cons_succ, i64_w, i32_w]
                              rfl
                            refine pure_ (i := 2) (N := some 43) (v := ?_) (a' := ?_) #[true, true, true, false, false, false, false, false, false, false, false, false, false, false, false, false, false, false, false, false, false, false, false, false, false, false, false, false, false, false, false, false, false] rfl rfl (any_of HT_.out (by kernel_rfl)) (fun _ _ _ h => h) (Or.inl ⟨by rfl, ?_⟩) ?_ ?_
                            rotate_left
                            · intro w'
                              go_simp
                              with_reducible rfl
                            rotate_left
                            · simp only [Act.put, List.setIfInBounds_toArray, List.set_cons_zero, List.set_cons_succ, i64_w, i32_w]
                              rfl
                            refine pure_ (i := 4) (N := some 45) (v := ?_) (a' := ?_) #[true, true, true, false, true, false, false, false, false, false, false, false, false, false, false, false, false, false, false, false, false, false, false, false, false, false, false, false, false, false, false, false, false] rfl rfl (any_of HT_.out (by kernel_rfl)) (fun _ _ _ h => h) (Or.inl ⟨by rfl, ?_⟩) ?_ ?_
                            rotate_left
                            · intro w'
                              go_simp
                              with_reducible rfl
                            rotate_left
                            · simp only [Act.put, List.setIfInBounds_toArray, List.set_cons_zero, List.set_cons_succ, i64_w, i32_w]
                              rfl
                            refine pure_ (i := 5) (N := some 46) (v := ?_) (a' := ?_) #[true, true, true, false, true, true, false, false, false, false, false, false, false, false, false, false, false, false, false, false, false, false, false, false, false, false, false, false, false, false, false, false, false] rfl rfl (any_of HT_.out (by kernel_rfl)) (fun _ _ _ h => h) (Or.inl ⟨by rfl, ?_⟩) ?_ ?_
                            rotate_left
                            · intro w'
                              go_simp
                              with_reducible rfl
                            rotate_left
                            · simp only [Act.put, List.setIfInBounds_toArray, List.set_cons_zero, List.set_cons_succ, i64_w, i32_w]
                              rfl
                            refine pure_ (i := 6) (N := some 47) (v := ?_) (a' := ?_) #[true, true, true, false, true, true, true, false, false, false, false, false, false, false, false, false, false, false, false, false, false, false, false, false, false, false, false, false, false, false, false, false, false] rfl rfl (any_of HT_.out (by kernel_rfl)) (fun _ _ _ h => h) (Or.inl ⟨by rfl, ?_⟩) ?_ ?_
                            rotate_left
                            · intro w'
                              go_simp
                              with_reducible rfl
                            rotate_left
                            · simp only [Act.put, List.setIfInBounds_toArray, List.set_cons_zero, List.set_cons_succ, i64_w, i32_w]
                              rfl
                            refine take_ (i := 3) (N := some 44) (v := ?_) (a' := ?_) #[true, true, true, true, true, true, true, false, false, false, false, false, false, false, false, false, false, false, false, false, false, false, false, false, false, false, false, false, false, false, false, false, false] rfl rfl (take_ofW HT_.out HW_.out (by kernel_rfl)) (fun _ _ _ h => h) (Or.inl ⟨by rfl, ?_⟩) hHeld ?_ ?_
                            rotate_left
                            · rintro w' ⟨s0, s1, s2, s3, s4, s5, s6, s7, s8, s9⟩
                              go_simp
                              with_reducible rfl
                            rotate_left
                            · simp only [Act.put, List.setIfInBounds_toArray, List.set_cons_zero, List.set_cons_succ, i64_w, i32_w]
                              rfl
                            refine take_ (i := 7) (N := some 48) (v := ?_) (a' := ?_) #[true, true, true, true, true, true, true, true, false, false, false, false, false, false, false, false, false, false, false, false, false, false, false, false, false, false, false, false, false, false, false, false, false] rfl rfl (take_ofW HT_.out HW_.out (by kernel_rfl)) (fun _ _ _ h => h) (Or.inl ⟨by rfl, ?_⟩) hHeld ?_ ?_
                            rotate_left
                            · rintro w' ⟨s0, s1, s2, s3, s4, s5, s6, s7, s8, s9⟩
                              go_simp
                              with_reducible rfl
                            rotate_left
                            · simp only [Act.put, List.setIfInBounds_toArray, List.set_cons_zero, List.set_cons_succ, i64_w, i32_w]
                              rfl
                            refine one_ (i := 8) (N := some 49) #[true, true, true, true, true, true, true, true, true, false, false, false, false, false, false, false, false, false, false, false, false, false, false, false, false, false, false, false, false, false, false, false, false] rfl rfl (one_of HT_.out (by kernel_rfl)) (by decide) (fun K hK => ?_)
                            refine goes_ Try.func16 (by kernel_rfl) rfl #[.agg #[.int .i64 ((rd_T34 t224 x9_2).f0), .slice A227_1 ((rd_T34 t224 x9_2).f1).length c227_1, .slice A227_2 ((rd_T34 t224 x9_2).f2).length c227_2], .agg #[.int .i64 ((rd_T34 t220 x9_2).f0), .slice A228_1 ((rd_T34 t220 x9_2).f1).length c228_1, .slice A228_2 ((rd_T34 t220 x9_2).f2).length c228_2]] (by rfl) rfl rfl (by (try simp only [List.map_toArray, List.map_cons, List.map_nil]); first | done | rfl | (simp only [List.length_drop, List.length_take]; rfl)) ?_
                            with_reducible refine (spec_SamePart.calls k2 ((rd_T34 t224 x9_2).f0) _ _ ((rd_T34 t224 x9_2).f1) _ _ ((rd_T34 t224 x9_2).f2) ((rd_T34 t220 x9_2).f0) _ _ ((rd_T34 t220 x9_2).f1) _ _ ((rd_T34 t220 x9_2).f2) true _ ?side1 ?side2 ?side3 ?side4 ?side5 ?side6 ?side7 ?side8 A19.out).mono ?_
                            (case side1 => repeat (first | exact (by repeat (first | (with_reducible exact HR227_1.out) | (with_reducible refine Kd.C_alloc ?_ _) | (with_reducible refine Kd.C_drewN ?_ _) | (with_reducible refine Kd.C_drew ?_) | exact HR227_1.out)) | (with_reducible refine Kd.C_alloc ?_ _) | (with_reducible refine Kd.C_drewN ?_ _) | (with_reducible refine Kd.C_drew ?_)))
                            (case side2 => exact HC227_1.out)
                            (case side3 => repeat (first | exact (by repeat (first | (with_reducible exact HR227_2.out) | (with_reducible refine Kd.C_alloc ?_ _) | (with_reducible refine Kd.C_drewN ?_ _) | (with_reducible refine Kd.C_drew ?_) | exact HR227_2.out)) | (with_reducible refine Kd.C_alloc ?_ _) | (with_reducible refine Kd.C_drewN ?_ _) | (with_reducible refine Kd.C_drew ?_)))
                            (case side4 => exact HC227_2.out)
                            (case side5 => repeat (first | exact (by repeat (first | (with_reducible exact HR228_1.out) | (with_reducible refine Kd.C_alloc ?_ _) | (with_reducible refine Kd.C_drewN ?_ _) | (with_reducible refine Kd.C_drew ?_) | exact HR228_1.out)) | (with_reducible refine Kd.C_alloc ?_ _) | (with_reducible refine Kd.C_drewN ?_ _) | (with_reducible refine Kd.C_drew ?_)))
                            (case side6 => exact HC228_1.out)
                            (case side7 => repeat (first | exact (by repeat (first | (with_reducible exact HR228_2.out) | (with_reducible refine Kd.C_alloc ?_ _) | (with_reducible refine Kd.C_drewN ?_ _) | (with_reducible refine Kd.C_drew ?_) | exact HR228_2.out)) | (with_reducible refine Kd.C_alloc ?_ _) | (with_reducible refine Kd.C_drewN ?_ _) | (with_reducible refine Kd.C_drew ?_)))
                            (case side8 => exact HC228_2.out)
                            rintro e w30 ⟨rfl, hb⟩
                            have HS0_ := (hb.cell (World.block_lt_of_cell? _ _ (hHeld.1))).trans (hHeld.1)
                            have HS1_ := (hb.cell (World.block_lt_of_cell? _ _ (hHeld.2.1))).trans (hHeld.2.1)
                            have HS2_ := (hb.cell (World.block_lt_of_cell? _ _ (hHeld.2.2.1))).trans (hHeld.2.2.1)
                            have HS3_ := (hb.cell (World.block_lt_of_cell? _ _ (hHeld.2.2.2.1))).trans (hHeld.2.2.2.1)
                            have HS4_ := (hb.cell (World.block_lt_of_cell? _ _ (hHeld.2.2.2.2.1))).trans (hHeld.2.2.2.2.1)
                            have HS5_ := (hb.cell (World.block_lt_of_cell? _ _ (hHeld.2.2.2.2.2.1))).trans (hHeld.2.2.2.2.2.1)
                            refine ⟨_, rfl, ?_⟩
                            have n0_ := Aside0.mk (Kd.N_below (by (with_reducible repeat (first | apply Kd.N_alloc | apply Kd.N_drewN | apply Kd.N_drew)); exact HO_6.out) hb)
                            have n1_ := Aside0.mk (Kd.N_below (by (with_reducible repeat (first | apply Kd.N_alloc | apply Kd.N_drewN | apply Kd.N_drew)); exact HO_8.out) hb)
                            have n2_ := Aside0.mk (Kd.V_below (by (with_reducible repeat (first | apply Kd.V_alloc | apply Kd.V_drewN | apply Kd.V_drew)); exact HL227_1.out) hb)
                            have n3_ := Aside0.mk (Kd.V_below (by (with_reducible repeat (first | apply Kd.V_alloc | apply Kd.V_drewN | apply Kd.V_drew)); exact HL227_2.out) hb)
                            have n4_ := Aside0.mk (Kd.V_below (by (with_reducible repeat (first | apply Kd.V_alloc | apply Kd.V_drewN | apply Kd.V_drew)); exact HL228_1.out) hb)
                            have n5_ := Aside0.mk (Kd.V_below (by (with_reducible repeat (first | apply Kd.V_alloc | apply Kd.V_drewN | apply Kd.V_drew)); exact HL228_2.out) hb)
                            have n6_ := Aside0.mk (Kd.C_below (by repeat (first | (with_reducible exact HR227_1.out) | (with_reducible refine Kd.C_alloc ?_ _) | (with_reducible refine Kd.C_drewN ?_ _) | (with_reducible refine Kd.C_drew ?_) | exact HR227_1.out)) hb)
                            have n7_ := Aside0.mk (Kd.C_below (by repeat (first | (with_reducible exact HR227_2.out) | (with_reducible refine Kd.C_alloc ?_ _) | (with_reducible refine Kd.C_drewN ?_ _) | (with_reducible refine Kd.C_drew ?_) | exact HR227_2.out)) hb)
                            have n8_ := Aside0.mk (Kd.C_below (by repeat (first | (with_reducible exact HR228_1.out) | (with_reducible refine Kd.C_alloc ?_ _) | (with_reducible refine Kd.C_drewN ?_ _) | (with_reducible refine Kd.C_drew ?_) | exact HR228_1.out)) hb)
                            have n9_ := Aside0.mk (Kd.C_below (by repeat (first | (with_reducible exact HR228_2.out) | (with_reducible refine Kd.C_alloc ?_ _) | (with_reducible refine Kd.C_drewN ?_ _) | (with_reducible refine Kd.C_drew ?_) | exact HR228_2.out)) hb)
                            have n10_ := Aside0.mk (below_step (by repeat (first | (with_reducible first | exact HB.out | apply below_alloc | apply pw_below_drewN | apply below_drew1) | exact HB.out)) hb)
                            clear HO_6
                            clear HO_8
                            clear HL227_1
                            clear HL227_2
                            clear HL228_1
                            clear HL228_2
                            clear HR227_1
                            clear HR227_2
                            clear HR228_1
                            clear HR228_2
                            clear HB
                            have HO_6 := n0_
                            have HO_8 := n1_
                            have HL227_1 := n2_
                            have HL227_2 := n3_
                            have HL228_1 := n4_
                            have HL228_2 := n5_
                            have HR227_1 := n6_
                            have HR227_2 := n7_
                            have HR228_1 := n8_
                            have HR228_2 := n9_
                            have HB := n10_
                            clear n0_ n1_ n2_ n3_ n4_ n5_ n6_ n7_ n8_ n9_ n10_
                            (try clear hb)
                            (try clear hb2)
                            (try clear hk)
                            (try clear hi)
                            refine hK.out _ _ ⟨HS0_, HS1_, HS2_, HS3_, HS4_, HS5_, ((HB.out.cell (World.block_lt_of_cell? w _ hw230_0)).trans hw230_0), ((HB.out.cell (World.block_lt_of_cell? w _ hw230_1)).trans hw230_1), ((HB.out.cell (World.block_lt_of_cell? w _ hw230_2)).trans hw230_2), ((HB.out.cell (World.block_lt_of_cell? w _ hw230_3)).trans hw230_3)⟩ (fun hHeld => ?_)
                            clear hK K
                            refine norm_ (a' := ?_) ?_ ?_
                            rotate_left
                            · show Act.put _ (some 49) _ = _
                              simp only [Act.put, List.setIfInBounds_toArray, List.set_cons_zero, List.set_cons_succ, i64_w, i32_w]
                              rfl
                            refine pure_ (i := 9) (N := some 50) (v := ?_) (a' := ?_) #[true, true, true, true, true, true, true, true, true, true, false, false, false, false, false, false, false, false, false, false, false, false, false, false, false, false, false, false, false, false, false, false, false] rfl rfl (any_of HT_.out (by kernel_rfl)) (fun _ _ _ h => h) (Or.inl ⟨by rfl, ?_⟩) ?_ ?_
                            rotate_left
                            · intro w'
                              go_simp
                              with_reducible rfl
                            rotate_left
                            · simp only [Act.put, List.setIfInBounds_toArray, List.set_cons_zero, List.set_cons_succ, i64_w, i32_w]
                              rfl
                            refine pure_ (i := 10) (N := some 51) (v := ?_) (a' := ?_) #[true, true, true, true, true, true, true, true, true, true, true, false, false, false, false, false, false, false, false, false, false, false, false, false, false, false, false, false, false, false, false, false, false] rfl rfl (any_of HT_.out (by kernel_rfl)) (fun _ _ _ h => h) (Or.inl ⟨by rfl, ?_⟩) ?_ ?_
                            rotate_left
                            · intro w'
                              go_simp
                              with_reducible rfl
                            rotate_left
                            · simp only [Act.put, List.setIfInBounds_toArray, List.set_cons_zero, List.set_cons_succ, i64_w, i32_w]
                              rfl
                            refine pure_ (i := 11) (N := some 52) (v := ?_) (a' := ?_) #[true, true, true, true, true, true, true, true, true, true, true, true, false, false, false, false, false, false, false, false, false, false, false, false, false, false, false, false, false, false, false, false, false] rfl rfl (any_of HT_.out (by kernel_rfl)) (fun _ _ _ h => h) (Or.inl ⟨by rfl, ?_⟩) ?_ ?_
                            rotate_left
                            · intro w'
                              go_simp
                              with_reducible rfl
                            rotate_left
                            · simp only [Act.put, List.setIfInBounds_toArray, List.set_cons_zero, List.set_cons_succ, i64_w, i32_w]
                              rfl
                            refine pure_ (i := 12) (N := some 53) (v := ?_) (a' := ?_) #[true, true, true, true, true, true, true, true, true, true, true, true, true, false, false, false, false, false, false, false, false, false, false, false, false, false, false, false, false, false, false, false, false] rfl rfl (any_of HT_.out (by kernel_rfl)) (fun _ _ _ h => h) (Or.inl ⟨by rfl, ?_⟩) ?_ ?_
                            rotate_left
                            · intro w'
                              go_simp
                              with_reducible rfl
                            rotate_left
                            · simp only [Act.put, List.setIfInBounds_toArray, List.set_cons_zero, List.set_cons_succ, i64_w, i32_w]
                              rfl
                            refine pure_ (i := 13) (N := some 54) (v := ?_) (a' := ?_) #[true, true, true, true, true, true, true, true, true, true, true, true, true, true, false, false, false, false, false, false, false, false, false, false, false, false, false, false, false, false, false, false, false] rfl rfl (any_of HT_.out (by kernel_rfl)) (fun _ _ _ h => h) (Or.inl ⟨by rfl, ?_⟩) ?_ ?_
                            rotate_left
                            · intro w'
                              go_simp
                              with_reducible rfl
                            rotate_left
                            · simp only [Act.put, List.setIfInBounds_toArray, List.set_cons_zero, List.set_cons_succ, i64_w, i32_w]
                              rfl
                            refine pure_ (i := 14) (N := some 55) (v := ?_) (a' := ?_) #[true, true, true, true, true, true, true, true, true, true, true, true, true, true, true, false, false, false, false, false, false, false, false, false, false, false, false, false, false, false, false, false, false] rfl rfl (any_of HT_.out (by kernel_rfl)) (fun _ _ _ h => h) (Or.inl ⟨by rfl, ?_⟩) ?_ ?_
                            rotate_left
                            · intro w'
                              go_simp
                              with_reducible rfl
                            rotate_left
                            · simp only [Act.put, List.setIfInBounds_toArray, List.set_cons_zero, List.set_cons_succ, i64_w, i32_w]
                              rfl
                            refine take_ (i := 15) (N := some 56) (v := ?_) (a' := ?_) #[true, true, true, true, true, true, true, true, true, true, true, true, true, true, true, true, false, false, false, false, false, false, false, false, false, false, false, false, false, false, false, false, false] rfl rfl (take_ofW HT_.out HW_.out (by kernel_rfl)) (fun _ _ _ h => h) (Or.inl ⟨by rfl, ?_⟩) hHeld ?_ ?_
                            rotate_left
                            · rintro w' ⟨s0, s1, s2, s3, s4, s5, s6, s7, s8, s9⟩
                              go_simp
                              with_reducible rfl
                            rotate_left
                            · simp only [Act.put, List.setIfInBounds_toArray, List.set_cons_zero, List.set_cons_succ, i64_w, i32_w]
                              rfl
                            refine pure_ (i := 16) (N := some 57) (v := ?_) (a' := ?_) #[true, true, true, true, true, true, true, true, true, true, true, true, true, true, true, true, true, false, false, false, false, false, false, false, false, false, false, false, false, false, false, false, false] rfl rfl (any_of HT_.out (by kernel_rfl)) (fun _ _ _ h => h) (Or.inl ⟨by rfl, ?_⟩) ?_ ?_
                            rotate_left
                            · intro w'
                              go_simp
                              with_reducible rfl
                            rotate_left
                            · simp only [Act.put, List.setIfInBounds_toArray, List.set_cons_zero, List.set_cons_succ, i64_w, i32_w]
                              rfl
                            refine pure_ (i := 17) (N := some 58) (v := ?_) (a' := ?_) #[true, true, true, true, true, true, true, true, true, true, true, true, true, true, true, true, true, true, false, false, false, false, false, false, false, false, false, false, false, false, false, false, false] rfl rfl (any_of HT_.out (by kernel_rfl)) (fun _ _ _ h => h) (Or.inl ⟨by rfl, ?_⟩) ?_ ?_
                            rotate_left
                            · intro w'
                              go_simp
                              with_reducible rfl
                            rotate_left
                            · simp only [Act.put, List.setIfInBounds_toArray, List.set_cons_zero, List.set_cons_succ, i64_w, i32_w]
                              rfl
                            refine pure_ (i := 18) (N := some 59) (v := undef) (a' := ?_) #[true, true, true, true, true, true, true, true, true, true, true, true, true, true, true, true, true, true, true, false, false, false, false, false, false, false, false, false, false, false, false, false, false] rfl rfl (any_of HT_.out (by kernel_rfl)) (fun _ _ _ h => h) (Or.inr ⟨by rfl, rfl⟩) ?_ ?_
                            rotate_left
                            · simp only [Act.put, List.setIfInBounds_toArray, List.set_cons_zero, List.set_cons_succ, i64_w, i32_w]
                              rfl
                            refine pure_ (i := 19) (N := some 60) (v := undef) (a' := ?_) #[true, true, true, true, true, true, true, true, true, true, true, true, true, true, true, true, true, true, true, true, false, false, false, false, false, false, false, false, false, false, false, false, false] rfl rfl (any_of HT_.out (by kernel_rfl)) (fun _ _ _ h => h) (Or.inr ⟨by rfl, rfl⟩) ?_ ?_
                            rotate_left
                            · simp only [Act.put, List.setIfInBounds_toArray, List.set_cons_zero, List.set_cons_succ, i64_w, i32_w]
                              rfl
                            refine pure_ (i := 20) (N := some 61) (v := undef) (a' := ?_) #[true, true, true, true, true, true, true, true, true, true, true, true, true, true, true, true, true, true, true, true, true, false, false, false, false, false, false, false, false, false, false, false, false] rfl rfl (any_of HT_.out (by kernel_rfl)) (fun _ _ _ h => h) (Or.inr ⟨by rfl, rfl⟩) ?_ ?_
                            rotate_left
                            · simp only [Act.put, List.setIfInBounds_toArray, List.set_cons_zero, List.set_cons_succ, i64_w, i32_w]
                              rfl
                            refine pure_ (i := 21) (N := some 62) (v := undef) (a' := ?_) #[true, true, true, true, true, true, true, true, true, true, true, true, true, true, true, true, true, true, true, true, true, true, false, false, false, false, false, false, false, false, false, false, false] rfl rfl (any_of HT_.out (by kernel_rfl)) (fun _ _ _ h => h) (Or.inr ⟨by rfl, rfl⟩) ?_ ?_
                            rotate_left
                            · simp only [Act.put, List.setIfInBounds_toArray, List.set_cons_zero, List.set_cons_succ, i64_w, i32_w]
                              rfl
                            refine pure_ (i := 22) (N := some 63) (v := undef) (a' := ?_) #[true, true, true, true, true, true, true, true, true, true, true, true, true, true, true, true, true, true, true, true, true, true, true, false, false, false, false, false, false, false, false, false, false] rfl rfl (any_of HT_.out (by kernel_rfl)) (fun _ _ _ h => h) (Or.inr ⟨by rfl, rfl⟩) ?_ ?_
                            rotate_left
                            · simp only [Act.put, List.setIfInBounds_toArray, List.set_cons_zero, List.set_cons_succ, i64_w, i32_w]
                              rfl
                            refine pure_ (i := 23) (N := some 64) (v := undef) (a' := ?_) #[true, true, true, true, true, true, true, true, true, true, true, true, true, true, true, true, true, true, true, true, true, true, true, true, false, false, false, false, false, false, false, false, false] rfl rfl (any_of HT_.out (by kernel_rfl)) (fun _ _ _ h => h) (Or.inr ⟨by rfl, rfl⟩) ?_ ?_
                            rotate_left
                            · simp only [Act.put, List.setIfInBounds_toArray, List.set_cons_zero, List.set_cons_succ, i64_w, i32_w]
                              rfl
                            refine pure_ (i := 24) (N := some 65) (v := undef) (a' := ?_) #[true, true, true, true, true, true, true, true, true, true, true, true, true, true, true, true, true, true, true, true, true, true, true, true, true, false, false, false, false, false, false, false, false] rfl rfl (any_of HT_.out (by kernel_rfl)) (fun _ _ _ h => h) (Or.inr ⟨by rfl, rfl⟩) ?_ ?_
                            rotate_left
                            · simp only [Act.put, List.setIfInBounds_toArray, List.set_cons_zero, List.set_cons_succ, i64_w, i32_w]
                              rfl
                            refine pure_ (i := 25) (N := some 66) (v := undef) (a' := ?_) #[true, true, true, true, true, true, true, true, true, true, true, true, true, true, true, true, true, true, true, true, true, true, true, true, true, true, false, false, false, false, false, false, false] rfl rfl (any_of HT_.out (by kernel_rfl)) (fun _ _ _ h => h) (Or.inr ⟨by rfl, rfl⟩) ?_ ?_
                            rotate_left
                            · simp only [Act.put, List.setIfInBounds_toArray, List.set_cons_zero, List.set_cons_succ, i64_w, i32_w]
                              rfl
                            refine pure_ (i := 26) (N := some 67) (v := undef) (a' := ?_) #[true, true, true, true, true, true, true, true, true, true, true, true, true, true, true, true, true, true, true, true, true, true, true, true, true, true, true, false, false, false, false, false, false] rfl rfl (any_of HT_.out (by kernel_rfl)) (fun _ _ _ h => h) (Or.inr ⟨by rfl, rfl⟩) ?_ ?_
                            rotate_left
                            · simp only [Act.put, List.setIfInBounds_toArray, List.set_cons_zero, List.set_cons_succ, i64_w, i32_w]
                              rfl
                            refine pure_ (i := 27) (N := some 68) (v := undef) (a' := ?_) #[true, true, true, true, true, true, true, true, true, true, true, true, true, true, true, true, true, true, true, true, true, true, true, true, true, true, true, true, false, false, false, false, false] rfl rfl (any_of HT_.out (by kernel_rfl)) (fun _ _ _ h => h) (Or.inr ⟨by rfl, rfl⟩) ?_ ?_
                            rotate_left
                            · simp only [Act.put, List.setIfInBounds_toArray, List.set_cons_zero, List.set_cons_succ, i64_w, i32_w]
                              rfl
                            refine pure_ (i := 28) (N := some 69) (v := undef) (a' := ?_) #[true, true, true, true, true, true, true, true, true, true, true, true, true, true, true, true, true, true, true, true, true, true, true, true, true, true, true, true, true, false, false, false, false] rfl rfl (any_of HT_.out (by kernel_rfl)) (fun _ _ _ h => h) (Or.inr ⟨by rfl, rfl⟩) ?_ ?_
                            rotate_left
                            · simp only [Act.put, List.setIfInBounds_toArray, List.set_cons_zero, List.set_cons_succ, i64_w, i32_w]
                              rfl
                            refine pure_ (i := 29) (N := some 70) (v := undef) (a' := ?_) #[true, true, true, true, true, true, true, true, true, true, true, true, true, true, true, true, true, true, true, true, true, true, true, true, true, true, true, true, true, true, false, false, false] rfl rfl (any_of HT_.out (by kernel_rfl)) (fun _ _ _ h => h) (Or.inr ⟨by rfl, rfl⟩) ?_ ?_
                            rotate_left
                            · simp only [Act.put, List.setIfInBounds_toArray, List.set_cons_zero, List.set_cons_succ, i64_w, i32_w]
                              rfl
                            refine pure_ (i := 30) (N := some 71) (v := undef) (a' := ?_) #[true, true, true, true, true, true, true, true, true, true, true, true, true, true, true, true, true, true, true, true, true, true, true, true, true, true, true, true, true, true, true, false, false] rfl rfl (any_of HT_.out (by kernel_rfl)) (fun _ _ _ h => h) (Or.inr ⟨by rfl, rfl⟩) ?_ ?_
                            rotate_left
                            · simp only [Act.put, List.setIfInBounds_toArray, List.set_cons_zero, List.set_cons_succ, i64_w, i32_w]
                              rfl
                            refine pure_ (i := 31) (N := some 72) (v := ?_) (a' := ?_) #[true, true, true, true, true, true, true, true, true, true, true, true, true, true, true, true, true, true, true, true, true, true, true, true, true, true, true, true, true, true, true, true, false] rfl rfl (any_of HT_.out (by kernel_rfl)) (fun _ _ _ h => h) (Or.inl ⟨by rfl, ?_⟩) ?_ ?_
                            rotate_left
                            · intro w'
                              go_simp
                              with_reducible rfl
                            rotate_left
                            · simp only [Act.put, List.setIfInBounds_toArray, List.set_cons_zero, List.set_cons_succ, i64_w, i32_w]
                              rfl
                            refine pure_ (i := 32) (N := some 73) (v := ?_) (a' := ?_) #[true, true, true, true, true, true, true, true, true, true, true, true, true, true, true, true, true, true, true, true, true, true, true, true, true, true, true, true, true, true, true, true, true] rfl rfl (any_of HT_.out (by kernel_rfl)) (fun _ _ _ h => h) (Or.inl ⟨by rfl, ?_⟩) ?_ ?_
                            rotate_left
                            · intro w'
                              go_simp
                              with_reducible rfl
                            rotate_left
                            · simp only [Act.put, List.setIfInBounds_toArray, List.set_cons_zero, List.set_cons_succ, i64_w, i32_w]
                              rfl
                            refine done_ (done_of HT_.out (by kernel_rfl)) ?_
                            try go_wp2
                            go_roundg k2
                            case measure => have := HJ2.out; have := HK2.out; omega
                            case rel => exact ⟨(wrap64 (x9_2 + 1)), (by first | rfl | (simp; done) | (simp [*]; done)), H', ⟨by have := HJ2.out; have := HK2.out; omega⟩, ⟨by (with_reducible repeat (first | apply Kd.N_alloc | apply Kd.N_drewN | apply Kd.N_drew)); exact HO_6.out⟩, ⟨by (with_reducible repeat (first | apply Kd.N_alloc | apply Kd.N_drewN | apply Kd.N_drew)); exact HO_8.out⟩, ⟨by repeat (first | (with_reducible first | exact HB.out | apply below_alloc | apply pw_below_drewN | apply below_drew1) | exact HB.out)⟩⟩
                        · rw [if_neg c21] at H
                          exact absurd H (by simp)
                      · replace c20 := Bool.eq_false_iff.mpr c20
                        subst c20
                        have H1 : (some false) = some r := by rw [if_neg (show ¬ (false = true) by decide)] at H; exact H
                        clear H
                        have H := H1
                        clear H1
                        obtain rfl := Option.some.inj H
                        try go_wp2
                        have n0_ := Aside0.mk (Kd.N_drew HO_6.out)
                        have n1_ := Aside0.mk (Kd.N_drew HO_8.out)
                        have n2_ := Aside0.mk (below_drew1 HB.out)
                        clear HO_6
                        clear HO_8
                        clear HB
                        have HO_6 := n0_
                        have HO_8 := n1_
                        have HB := n2_
                        clear n0_ n1_ n2_
                        have p227 : 0 ≤ (x9_2 : Int) := of_decide_eq_true (by first | (with_reducible assumption) | assumption)
                        have q227 : x9_2 < (t224.length : Int) := of_decide_eq_true (by first | (with_reducible assumption) | assumption)
                        obtain ⟨ad227, A227_1, c227_1, A227_2, c227_2, e227, hx227_0, hx227_1, hx227_2, hl227_1, hi227_1, hl227_2, hi227_2⟩ := at_T34 (Kd.N_reads' HO_8.out).2.2 x9_2 p227 q227
                        cases e227
                        obtain ⟨ce227, hce227, hMe227, hcc227⟩ := Kd.N_get HO_8.out z34 x9_2 p227 (by first | exact q227 | exact of_decide_eq_true (by first | (with_reducible assumption) | assumption) | (have e_ := (Kd.N_reads' HO_8.out).1; omega))
                        obtain ⟨ua227_1, uc227_1, ua227_2, uc227_2, rfl, ul227_1, ge227_1, ul227_2, ge227_2⟩ := k34_openF hMe227
                        have hv227_1 := hcc227 1 _ rfl
                        rw [add_field _ _ 1 (by omega)] at hv227_1
                        replace hv227_1 := Option.some.inj (hv227_1.symm.trans hx227_1)
                        injection hv227_1 with hva_ hvn_ hvc_
                        rw [hva_] at ge227_1
                        rw [hvc_] at ul227_1
                        have HL227_1 := Aside0.mk (show Kd.V (Kd.int .i64) 3 _ w.heap.size _ _ ((rd_T34 t224 x9_2).f1) from Kd.V_mk ul227_1 ge227_1)
                        clear hva_ hvn_ hvc_ ge227_1 ul227_1
                        have hv227_2 := hcc227 2 _ rfl
                        rw [add_field _ _ 2 (by omega)] at hv227_2
                        replace hv227_2 := Option.some.inj (hv227_2.symm.trans hx227_2)
                        injection hv227_2 with hva_ hvn_ hvc_
                        rw [hva_] at ge227_2
                        rw [hvc_] at ul227_2
                        have HL227_2 := Aside0.mk (show Kd.V (Kd.int .i64) 3 _ w.heap.size _ _ ((rd_T34 t224 x9_2).f2) from Kd.V_mk ul227_2 ge227_2)
                        clear hva_ hvn_ hvc_ ge227_2 ul227_2
                        clear hcc227 hce227
                        have HR227_1 := Aside0.mk hi227_1
                        have HC227_1 := Aside0.mk hl227_1
                        clear hi227_1 hl227_1
                        have HR227_2 := Aside0.mk hi227_2
                        have HC227_2 := Aside0.mk hl227_2
                        clear hi227_2 hl227_2
                        replace p227 := eq_true p227
                        replace q227 := eq_true q227
                        have p228 : 0 ≤ (x9_2 : Int) := of_decide_eq_true (by first | (with_reducible assumption) | assumption)
                        have q228 : x9_2 < (t220.length : Int) := of_decide_eq_true (by first | (with_reducible assumption) | assumption)
                        obtain ⟨ad228, A228_1, c228_1, A228_2, c228_2, e228, hx228_0, hx228_1, hx228_2, hl228_1, hi228_1, hl228_2, hi228_2⟩ := at_T34 (Kd.N_reads' HO_6.out).2.2 x9_2 p228 q228
                        cases e228
                        obtain ⟨ce228, hce228, hMe228, hcc228⟩ := Kd.N_get HO_6.out z34 x9_2 p228 (by first | exact q228 | exact of_decide_eq_true (by first | (with_reducible assumption) | assumption) | (have e_ := (Kd.N_reads' HO_6.out).1; omega))
                        obtain ⟨ua228_1, uc228_1, ua228_2, uc228_2, rfl, ul228_1, ge228_1, ul228_2, ge228_2⟩ := k34_openF hMe228
                        have hv228_1 := hcc228 1 _ rfl
                        rw [add_field _ _ 1 (by omega)] at hv228_1
                        replace hv228_1 := Option.some.inj (hv228_1.symm.trans hx228_1)
                        injection hv228_1 with hva_ hvn_ hvc_
                        rw [hva_] at ge228_1
                        rw [hvc_] at ul228_1
                        have HL228_1 := Aside0.mk (show Kd.V (Kd.int .i64) 3 _ w.heap.size _ _ ((rd_T34 t220 x9_2).f1) from Kd.V_mk ul228_1 ge228_1)
                        clear hva_ hvn_ hvc_ ge228_1 ul228_1
                        have hv228_2 := hcc228 2 _ rfl
                        rw [add_field _ _ 2 (by omega)] at hv228_2
                        replace hv228_2 := Option.some.inj (hv228_2.symm.trans hx228_2)
                        injection hv228_2 with hva_ hvn_ hvc_
                        rw [hva_] at ge228_2
                        rw [hvc_] at ul228_2
                        have HL228_2 := Aside0.mk (show Kd.V (Kd.int .i64) 3 _ w.heap.size _ _ ((rd_T34 t220 x9_2).f2) from Kd.V_mk ul228_2 ge228_2)
                        clear hva_ hvn_ hvc_ ge228_2 ul228_2
                        clear hcc228 hce228
                        have HR228_1 := Aside0.mk hi228_1
                        have HC228_1 := Aside0.mk hl228_1
                        clear hi228_1 hl228_1
                        have HR228_2 := Aside0.mk hi228_2
                        have HC228_2 := Aside0.mk hl228_2
                        clear hi228_2 hl228_2
                        replace p228 := eq_true p228
                        replace q228 := eq_true q228
                        refine start_ (n := 33) (S := fun w' => w'.cell? (ad227.add ((x9_2).toNat * 3)) = some (.int .i64 ((rd_T34 t224 x9_2).f0)) ∧ w'.cell? ⟨(ad227.add ((x9_2).toNat * 3)).block, (ad227.add ((x9_2).toNat * 3)).off + 1, none⟩ = some (.slice A227_1 ((rd_T34 t224 x9_2).f1).length c227_1) ∧ w'.cell? ⟨(ad227.add ((x9_2).toNat * 3)).block, (ad227.add ((x9_2).toNat * 3)).off + 2, none⟩ = some (.slice A227_2 ((rd_T34 t224 x9_2).f2).length c227_2) ∧ w'.cell? (ad228.add ((x9_2).toNat * 3)) = some (.int .i64 ((rd_T34 t220 x9_2).f0)) ∧ w'.cell? ⟨(ad228.add ((x9_2).toNat * 3)).block, (ad228.add ((x9_2).toNat * 3)).off + 1, none⟩ = some (.slice A228_1 ((rd_T34 t220 x9_2).f1).length c228_1) ∧ w'.cell? ⟨(ad228.add ((x9_2).toNat * 3)).block, (ad228.add ((x9_2).toNat * 3)).off + 2, none⟩ = some (.slice A228_2 ((rd_T34 t220 x9_2).f2).length c228_2)) (ds := []) #[false, false, false, false, false, false, false, false, false, false, false, false, false, false, false, false, false, false, false, false, false, false, false, false, false, false, false, false, false, false, false, false, false] (by kernel_rfl) rfl rfl ⟨hx227_0, hx227_1, hx227_2, hx228_0, hx228_1, hx228_2⟩ (fun hHeld => ?_); refine with_tabW laws_FnRopeRuns.tab12 laws_FnRopeRuns.bits12 (fun HT_ HW_ => ?_)
                        generalize wr.drew = w31 at HO_6 HO_8 HB HL227_1 HL227_2 HL228_1 HL228_2 HR227_1 HR227_2 HR228_1 HR228_2 hx227_0 hx227_1 hx227_2 hx228_0 hx228_1 hx228_2 hHeld ⊢
                        refine pure_ (i := 0) (N := some 41) (v := ?_) (a' := ?_) #[true, false, false, false, false, false, false, false, false, false, false, false, false, false, false, false, false, false, false, false, false, false, false, false, false, false, false, false, false, false, false, false, false] rfl rfl (any_of HT_.out (by kernel_rfl)) (fun _ _ _ h => h) (Or.inl ⟨by rfl, ?_⟩) ?_ ?_
                        rotate_left
                        · intro w'
                          go_simp
                          with_reducible rfl
                        rotate_left
                        · simp only [Act.put, List.setIfInBounds_toArray, List.set_cons_zero, List.set_cons_succ, i64_w, i32_w]
                          rfl
                        refine pure_ (i := 1) (N := some 42) (v := ?_) (a' := ?_) #[true, true, false, false, false, false, false, false, false, false, false, false, false, false, false, false, false, false, false, false, false, false, false, false, false, false, false, false, false, false, false, false, false] rfl rfl (any_of HT_.out (by kernel_rfl)) (fun _ _ _ h => h) (Or.inl ⟨by rfl, ?_⟩) ?_ ?_
                        rotate_left
                        · intro w'
                          go_simp
                          with_reducible rfl
                        rotate_left
                        · simp only [Act.put, List.setIfInBounds_toArray, List.set_cons_zero, List.set_cons_succ, i64_w, i32_w]
                          rfl
                        refine pure_ (i := 2) (N := some 43) (v := ?_) (a' := ?_) #[true, true, true, false, false, false, false, false, false, false, false, false, false, false, false, false, false, false, false, false, false, false, false, false, false, false, false, false, false, false, false, false, false] rfl rfl (any_of HT_.out (by kernel_rfl)) (fun _ _ _ h => h) (Or.inl ⟨by rfl, ?_⟩) ?_ ?_
                        rotate_left
                        · intro w'
                          go_simp
                          with_reducible rfl
                        rotate_left
                        · simp only [Act.put, List.setIfInBounds_toArray, List.set_cons_zero, List.set_cons_succ, i64_w, i32_w]
                          rfl
                        refine pure_ (i := 4) (N := some 45) (v := ?_) (a' := ?_) #[true, true, true, false, true, false, false, false, false, false, false, false, false, false, false, false, false, false, false, false, false, false, false, false, false, false, false, false, false, false, false, false, false] rfl rfl (any_of HT_.out (by kernel_rfl)) (fun _ _ _ h => h) (Or.inl ⟨by rfl, ?_⟩) ?_ ?_
                        rotate_left
                        · intro w'
                          go_simp
                          with_reducible rfl
                        rotate_left
                        · simp only [Act.put, List.setIfInBounds_toArray, List.set_cons_zero, List.set_cons_succ, i64_w, i32_w]
                          rfl
                        refine pure_ (i := 5) (N := some 46) (v := ?_) (a' := ?_) #[true, true, true, false, true, true, false, false, false, false, false, false, false, false, false, false, false, false, false, false, false, false, false, false, false, false, false, false, false, false, false, false, false] rfl rfl (any_of HT_.out (by kernel_rfl)) (fun _ _ _ h => h) (Or.inl ⟨by rfl, ?_⟩) ?_ ?_
                        rotate_left
                        · intro w'
                          go_simp
                          with_reducible rfl
                        rotate_left
                        · simp only [Act.put, List.setIfInBounds_toArray, List.set_cons_zero, List.set_cons_succ, i64_w, i32_w]
                          rfl
                        refine pure_ (i := 6) (N := some 47) (v := ?_) (a' := ?_) #[true, true, true, false, true, true, true, false, false, false, false, false, false, false, false, false, false, false, false, false, false, false, false, false, false, false, false, false, false, false, false, false, false] rfl rfl (any_of HT_.out (by kernel_rfl)) (fun _ _ _ h => h) (Or.inl ⟨by rfl, ?_⟩) ?_ ?_
                        rotate_left
                        · intro w'
                          go_simp
                          with_reducible rfl
                        rotate_left
                        · simp only [Act.put, List.setIfInBounds_toArray, List.set_cons_zero, List.set_cons_succ, i64_w, i32_w]
                          rfl
                        refine take_ (i := 3) (N := some 44) (v := ?_) (a' := ?_) #[true, true, true, true, true, true, true, false, false, false, false, false, false, false, false, false, false, false, false, false, false, false, false, false, false, false, false, false, false, false, false, false, false] rfl rfl (take_ofW HT_.out HW_.out (by kernel_rfl)) (fun _ _ _ h => h) (Or.inl ⟨by rfl, ?_⟩) hHeld ?_ ?_
                        rotate_left
                        · rintro w' ⟨s0, s1, s2, s3, s4, s5⟩
                          go_simp
                          with_reducible rfl
                        rotate_left
                        · simp only [Act.put, List.setIfInBounds_toArray, List.set_cons_zero, List.set_cons_succ, i64_w, i32_w]
                          rfl
                        refine take_ (i := 7) (N := some 48) (v := ?_) (a' := ?_) #[true, true, true, true, true, true, true, true, false, false, false, false, false, false, false, false, false, false, false, false, false, false, false, false, false, false, false, false, false, false, false, false, false] rfl rfl (take_ofW HT_.out HW_.out (by kernel_rfl)) (fun _ _ _ h => h) (Or.inl ⟨by rfl, ?_⟩) hHeld ?_ ?_
                        rotate_left
                        · rintro w' ⟨s0, s1, s2, s3, s4, s5⟩
                          go_simp
                          with_reducible rfl
                        rotate_left
                        · simp only [Act.put, List.setIfInBounds_toArray, List.set_cons_zero, List.set_cons_succ, i64_w, i32_w]
                          rfl
                        refine one_ (i := 8) (N := some 49) #[true, true, true, true, true, true, true, true, true, false, false, false, false, false, false, false, false, false, false, false, false, false, false, false, false, false, false, false, false, false, false, false, false] rfl rfl (one_of HT_.out (by kernel_rfl)) (by decide) (fun K hK => ?_)
                        refine goes_ Try.func16 (by kernel_rfl) rfl #[.agg #[.int .i64 ((rd_T34 t224 x9_2).f0), .slice A227_1 ((rd_T34 t224 x9_2).f1).length c227_1, .slice A227_2 ((rd_T34 t224 x9_2).f2).length c227_2], .agg #[.int .i64 ((rd_T34 t220 x9_2).f0), .slice A228_1 ((rd_T34 t220 x9_2).f1).length c228_1, .slice A228_2 ((rd_T34 t220 x9_2).f2).length c228_2]] (by rfl) rfl rfl (by (try simp only [List.map_toArray, List.map_cons, List.map_nil]); first | done | rfl | (simp only [List.length_drop, List.length_take]; rfl)) ?_
                        with_reducible refine (spec_SamePart.calls k2 ((rd_T34 t224 x9_2).f0) _ _ ((rd_T34 t224 x9_2).f1) _ _ ((rd_T34 t224 x9_2).f2) ((rd_T34 t220 x9_2).f0) _ _ ((rd_T34 t220 x9_2).f1) _ _ ((rd_T34 t220 x9_2).f2) false _ ?side1 ?side2 ?side3 ?side4 ?side5 ?side6 ?side7 ?side8 A19.out).mono ?_
                        (case side1 => repeat (first | exact (by repeat (first | (with_reducible exact HR227_1.out) | (with_reducible refine Kd.C_alloc ?_ _) | (with_reducible refine Kd.C_drewN ?_ _) | (with_reducible refine Kd.C_drew ?_) | exact HR227_1.out)) | (with_reducible refine Kd.C_alloc ?_ _) | (with_reducible refine Kd.C_drewN ?_ _) | (with_reducible refine Kd.C_drew ?_)))
                        (case side2 => exact HC227_1.out)
                        (case side3 => repeat (first | exact (by repeat (first | (with_reducible exact HR227_2.out) | (with_reducible refine Kd.C_alloc ?_ _) | (with_reducible refine Kd.C_drewN ?_ _) | (with_reducible refine Kd.C_drew ?_) | exact HR227_2.out)) | (with_reducible refine Kd.C_alloc ?_ _) | (with_reducible refine Kd.C_drewN ?_ _) | (with_reducible refine Kd.C_drew ?_)))
                        (case side4 => exact HC227_2.out)
                        (case side5 => repeat (first | exact (by repeat (first | (with_reducible exact HR228_1.out) | (with_reducible refine Kd.C_alloc ?_ _) | (with_reducible refine Kd.C_drewN ?_ _) | (with_reducible refine Kd.C_drew ?_) | exact HR228_1.out)) | (with_reducible refine Kd.C_alloc ?_ _) | (with_reducible refine Kd.C_drewN ?_ _) | (with_reducible refine Kd.C_drew ?_)))
                        (case side6 => exact HC228_1.out)
                        (case side7 => repeat (first | exact (by repeat (first | (with_reducible exact HR228_2.out) | (with_reducible refine Kd.C_alloc ?_ _) | (with_reducible refine Kd.C_drewN ?_ _) | (with_reducible refine Kd.C_drew ?_) | exact HR228_2.out)) | (with_reducible refine Kd.C_alloc ?_ _) | (with_reducible refine Kd.C_drewN ?_ _) | (with_reducible refine Kd.C_drew ?_)))
                        (case side8 => exact HC228_2.out)
                        rintro e w32 ⟨rfl, hb⟩
                        have HS0_ := (hb.cell (World.block_lt_of_cell? _ _ (hHeld.1))).trans (hHeld.1)
                        have HS1_ := (hb.cell (World.block_lt_of_cell? _ _ (hHeld.2.1))).trans (hHeld.2.1)
                        have HS2_ := (hb.cell (World.block_lt_of_cell? _ _ (hHeld.2.2.1))).trans (hHeld.2.2.1)
                        have HS3_ := (hb.cell (World.block_lt_of_cell? _ _ (hHeld.2.2.2.1))).trans (hHeld.2.2.2.1)
                        have HS4_ := (hb.cell (World.block_lt_of_cell? _ _ (hHeld.2.2.2.2.1))).trans (hHeld.2.2.2.2.1)
                        have HS5_ := (hb.cell (World.block_lt_of_cell? _ _ (hHeld.2.2.2.2.2))).trans (hHeld.2.2.2.2.2)
                        refine ⟨_, rfl, ?_⟩
                        have n0_ := Aside0.mk (Kd.N_below (by (with_reducible repeat (first | apply Kd.N_alloc | apply Kd.N_drewN | apply Kd.N_drew)); exact HO_6.out) hb)
                        have n1_ := Aside0.mk (Kd.N_below (by (with_reducible repeat (first | apply Kd.N_alloc | apply Kd.N_drewN | apply Kd.N_drew)); exact HO_8.out) hb)
                        have n2_ := Aside0.mk (Kd.V_below (by (with_reducible repeat (first | apply Kd.V_alloc | apply Kd.V_drewN | apply Kd.V_drew)); exact HL227_1.out) hb)
                        have n3_ := Aside0.mk (Kd.V_below (by (with_reducible repeat (first | apply Kd.V_alloc | apply Kd.V_drewN | apply Kd.V_drew)); exact HL227_2.out) hb)
                        have n4_ := Aside0.mk (Kd.V_below (by (with_reducible repeat (first | apply Kd.V_alloc | apply Kd.V_drewN | apply Kd.V_drew)); exact HL228_1.out) hb)
                        have n5_ := Aside0.mk (Kd.V_below (by (with_reducible repeat (first | apply Kd.V_alloc | apply Kd.V_drewN | apply Kd.V_drew)); exact HL228_2.out) hb)
                        have n6_ := Aside0.mk (Kd.C_below (by repeat (first | (with_reducible exact HR227_1.out) | (with_reducible refine Kd.C_alloc ?_ _) | (with_reducible refine Kd.C_drewN ?_ _) | (with_reducible refine Kd.C_drew ?_) | exact HR227_1.out)) hb)
                        have n7_ := Aside0.mk (Kd.C_below (by repeat (first | (with_reducible exact HR227_2.out) | (with_reducible refine Kd.C_alloc ?_ _) | (with_reducible refine Kd.C_drewN ?_ _) | (with_reducible refine Kd.C_drew ?_) | exact HR227_2.out)) hb)
                        have n8_ := Aside0.mk (Kd.C_below (by repeat (first | (with_reducible exact HR228_1.out) | (with_reducible refine Kd.C_alloc ?_ _) | (with_reducible refine Kd.C_drewN ?_ _) | (with_reducible refine Kd.C_drew ?_) | exact HR228_1.out)) hb)
                        have n9_ := Aside0.mk (Kd.C_below (by repeat (first | (with_reducible exact HR228_2.out) | (with_reducible refine Kd.C_alloc ?_ _) | (with_reducible refine Kd.C_drewN ?_ _) | (with_reducible refine Kd.C_drew ?_) | exact HR228_2.out)) hb)
                        have n10_ := Aside0.mk (below_step (by repeat (first | (with_reducible first | exact HB.out | apply below_alloc | apply pw_below_drewN | apply below_drew1) | exact HB.out)) hb)
                        clear HO_6
                        clear HO_8
                        clear HL227_1
                        clear HL227_2
                        clear HL228_1
                        clear HL228_2
                        clear HR227_1
                        clear HR227_2
                        clear HR228_1
                        clear HR228_2
                        clear HB
                        have HO_6 := n0_
                        have HO_8 := n1_
                        have HL227_1 := n2_
                        have HL227_2 := n3_
                        have HL228_1 := n4_
                        have HL228_2 := n5_
                        have HR227_1 := n6_
                        have HR227_2 := n7_
                        have HR228_1 := n8_
                        have HR228_2 := n9_
                        have HB := n10_
                        clear n0_ n1_ n2_ n3_ n4_ n5_ n6_ n7_ n8_ n9_ n10_
                        (try clear hb)
                        (try clear hb2)
                        (try clear hk)
                        (try clear hi)
                        refine hK.out _ _ ⟨HS0_, HS1_, HS2_, HS3_, HS4_, HS5_⟩ (fun hHeld => ?_)
                        clear hK K
                        refine norm_ (a' := ?_) ?_ ?_
                        rotate_left
                        · show Act.put _ (some 49) _ = _
                          simp only [Act.put, List.setIfInBounds_toArray, List.set_cons_zero, List.set_cons_succ, i64_w, i32_w]
                          rfl
                        refine pure_ (i := 9) (N := some 50) (v := ?_) (a' := ?_) #[true, true, true, true, true, true, true, true, true, true, false, false, false, false, false, false, false, false, false, false, false, false, false, false, false, false, false, false, false, false, false, false, false] rfl rfl (any_of HT_.out (by kernel_rfl)) (fun _ _ _ h => h) (Or.inl ⟨by rfl, ?_⟩) ?_ ?_
                        rotate_left
                        · intro w'
                          go_simp
                          with_reducible rfl
                        rotate_left
                        · simp only [Act.put, List.setIfInBounds_toArray, List.set_cons_zero, List.set_cons_succ, i64_w, i32_w]
                          rfl
                        refine pure_ (i := 10) (N := some 51) (v := ?_) (a' := ?_) #[true, true, true, true, true, true, true, true, true, true, true, false, false, false, false, false, false, false, false, false, false, false, false, false, false, false, false, false, false, false, false, false, false] rfl rfl (any_of HT_.out (by kernel_rfl)) (fun _ _ _ h => h) (Or.inl ⟨by rfl, ?_⟩) ?_ ?_
                        rotate_left
                        · intro w'
                          go_simp
                          with_reducible rfl
                        rotate_left
                        · simp only [Act.put, List.setIfInBounds_toArray, List.set_cons_zero, List.set_cons_succ, i64_w, i32_w]
                          rfl
                        refine pure_ (i := 11) (N := some 52) (v := undef) (a' := ?_) #[true, true, true, true, true, true, true, true, true, true, true, true, false, false, false, false, false, false, false, false, false, false, false, false, false, false, false, false, false, false, false, false, false] rfl rfl (any_of HT_.out (by kernel_rfl)) (fun _ _ _ h => h) (Or.inr ⟨by rfl, rfl⟩) ?_ ?_
                        rotate_left
                        · simp only [Act.put, List.setIfInBounds_toArray, List.set_cons_zero, List.set_cons_succ, i64_w, i32_w]
                          rfl
                        refine pure_ (i := 12) (N := some 53) (v := undef) (a' := ?_) #[true, true, true, true, true, true, true, true, true, true, true, true, true, false, false, false, false, false, false, false, false, false, false, false, false, false, false, false, false, false, false, false, false] rfl rfl (any_of HT_.out (by kernel_rfl)) (fun _ _ _ h => h) (Or.inr ⟨by rfl, rfl⟩) ?_ ?_
                        rotate_left
                        · simp only [Act.put, List.setIfInBounds_toArray, List.set_cons_zero, List.set_cons_succ, i64_w, i32_w]
                          rfl
                        refine pure_ (i := 13) (N := some 54) (v := undef) (a' := ?_) #[true, true, true, true, true, true, true, true, true, true, true, true, true, true, false, false, false, false, false, false, false, false, false, false, false, false, false, false, false, false, false, false, false] rfl rfl (any_of HT_.out (by kernel_rfl)) (fun _ _ _ h => h) (Or.inr ⟨by rfl, rfl⟩) ?_ ?_
                        rotate_left
                        · simp only [Act.put, List.setIfInBounds_toArray, List.set_cons_zero, List.set_cons_succ, i64_w, i32_w]
                          rfl
                        refine pure_ (i := 14) (N := some 55) (v := undef) (a' := ?_) #[true, true, true, true, true, true, true, true, true, true, true, true, true, true, true, false, false, false, false, false, false, false, false, false, false, false, false, false, false, false, false, false, false] rfl rfl (any_of HT_.out (by kernel_rfl)) (fun _ _ _ h => h) (Or.inr ⟨by rfl, rfl⟩) ?_ ?_
                        rotate_left
                        · simp only [Act.put, List.setIfInBounds_toArray, List.set_cons_zero, List.set_cons_succ, i64_w, i32_w]
                          rfl
                        refine pure_ (i := 15) (N := some 56) (v := undef) (a' := ?_) #[true, true, true, true, true, true, true, true, true, true, true, true, true, true, true, true, false, false, false, false, false, false, false, false, false, false, false, false, false, false, false, false, false] rfl rfl (any_of HT_.out (by kernel_rfl)) (fun _ _ _ h => h) (Or.inr ⟨by rfl, rfl⟩) ?_ ?_
                        rotate_left
                        · simp only [Act.put, List.setIfInBounds_toArray, List.set_cons_zero, List.set_cons_succ, i64_w, i32_w]
                          rfl
                        refine pure_ (i := 16) (N := some 57) (v := undef) (a' := ?_) #[true, true, true, true, true, true, true, true, true, true, true, true, true, true, true, true, true, false, false, false, false, false, false, false, false, false, false, false, false, false, false, false, false] rfl rfl (any_of HT_.out (by kernel_rfl)) (fun _ _ _ h => h) (Or.inr ⟨by rfl, rfl⟩) ?_ ?_
                        rotate_left
                        · simp only [Act.put, List.setIfInBounds_toArray, List.set_cons_zero, List.set_cons_succ, i64_w, i32_w]
                          rfl
                        refine pure_ (i := 17) (N := some 58) (v := undef) (a' := ?_) #[true, true, true, true, true, true, true, true, true, true, true, true, true, true, true, true, true, true, false, false, false, false, false, false, false, false, false, false, false, false, false, false, false] rfl rfl (any_of HT_.out (by kernel_rfl)) (fun _ _ _ h => h) (Or.inr ⟨by rfl, rfl⟩) ?_ ?_
                        rotate_left
                        · simp only [Act.put, List.setIfInBounds_toArray, List.set_cons_zero, List.set_cons_succ, i64_w, i32_w]
                          rfl
                        refine pure_ (i := 18) (N := some 59) (v := undef) (a' := ?_) #[true, true, true, true, true, true, true, true, true, true, true, true, true, true, true, true, true, true, true, false, false, false, false, false, false, false, false, false, false, false, false, false, false] rfl rfl (any_of HT_.out (by kernel_rfl)) (fun _ _ _ h => h) (Or.inr ⟨by rfl, rfl⟩) ?_ ?_
                        rotate_left
                        · simp only [Act.put, List.setIfInBounds_toArray, List.set_cons_zero, List.set_cons_succ, i64_w, i32_w]
                          rfl
                        refine pure_ (i := 19) (N := some 60) (v := undef) (a' := ?_) #[true, true, true, true, true, true, true, true, true, true, true, true, true, true, true, true, true, true, true, true, false, false, false, false, false, false, false, false, false, false, false, false, false] rfl rfl (any_of HT_.out (by kernel_rfl)) (fun _ _ _ h => h) (Or.inr ⟨by rfl, rfl⟩) ?_ ?_
                        rotate_left
                        · simp only [Act.put, List.setIfInBounds_toArray, List.set_cons_zero, List.set_cons_succ, i64_w, i32_w]
                          rfl
                        refine pure_ (i := 20) (N := some 61) (v := undef) (a' := ?_) #[true, true, true, true, true, true, true, true, true, true, true, true, true, true, true, true, true, true, true, true, true, false, false, false, false, false, false, false, false, false, false, false, false] rfl rfl (any_of HT_.out (by kernel_rfl)) (fun _ _ _ h => h) (Or.inr ⟨by rfl, rfl⟩) ?_ ?_
                        rotate_left
                        · simp only [Act.put, List.setIfInBounds_toArray, List.set_cons_zero, List.set_cons_succ, i64_w, i32_w]
                          rfl
                        refine pure_ (i := 21) (N := some 62) (v := undef) (a' := ?_) #[true, true, true, true, true, true, true, true, true, true, true, true, true, true, true, true, true, true, true, true, true, true, false, false, false, false, false, false, false, false, false, false, false] rfl rfl (any_of HT_.out (by kernel_rfl)) (fun _ _ _ h => h) (Or.inr ⟨by rfl, rfl⟩) ?_ ?_
                        rotate_left
                        · simp only [Act.put, List.setIfInBounds_toArray, List.set_cons_zero, List.set_cons_succ, i64_w, i32_w]
                          rfl
                        refine pure_ (i := 22) (N := some 63) (v := undef) (a' := ?_) #[true, true, true, true, true, true, true, true, true, true, true, true, true, true, true, true, true, true, true, true, true, true, true, false, false, false, false, false, false, false, false, false, false] rfl rfl (any_of HT_.out (by kernel_rfl)) (fun _ _ _ h => h) (Or.inr ⟨by rfl, rfl⟩) ?_ ?_
                        rotate_left
                        · simp only [Act.put, List.setIfInBounds_toArray, List.set_cons_zero, List.set_cons_succ, i64_w, i32_w]
                          rfl
                        refine pure_ (i := 23) (N := some 64) (v := undef) (a' := ?_) #[true, true, true, true, true, true, true, true, true, true, true, true, true, true, true, true, true, true, true, true, true, true, true, true, false, false, false, false, false, false, false, false, false] rfl rfl (any_of HT_.out (by kernel_rfl)) (fun _ _ _ h => h) (Or.inr ⟨by rfl, rfl⟩) ?_ ?_
                        rotate_left
                        · simp only [Act.put, List.setIfInBounds_toArray, List.set_cons_zero, List.set_cons_succ, i64_w, i32_w]
                          rfl
                        refine pure_ (i := 24) (N := some 65) (v := undef) (a' := ?_) #[true, true, true, true, true, true, true, true, true, true, true, true, true, true, true, true, true, true, true, true, true, true, true, true, true, false, false, false, false, false, false, false, false] rfl rfl (any_of HT_.out (by kernel_rfl)) (fun _ _ _ h => h) (Or.inr ⟨by rfl, rfl⟩) ?_ ?_
                        rotate_left
                        · simp only [Act.put, List.setIfInBounds_toArray, List.set_cons_zero, List.set_cons_succ, i64_w, i32_w]
                          rfl
                        refine pure_ (i := 25) (N := some 66) (v := undef) (a' := ?_) #[true, true, true, true, true, true, true, true, true, true, true, true, true, true, true, true, true, true, true, true, true, true, true, true, true, true, false, false, false, false, false, false, false] rfl rfl (any_of HT_.out (by kernel_rfl)) (fun _ _ _ h => h) (Or.inr ⟨by rfl, rfl⟩) ?_ ?_
                        rotate_left
                        · simp only [Act.put, List.setIfInBounds_toArray, List.set_cons_zero, List.set_cons_succ, i64_w, i32_w]
                          rfl
                        refine pure_ (i := 26) (N := some 67) (v := undef) (a' := ?_) #[true, true, true, true, true, true, true, true, true, true, true, true, true, true, true, true, true, true, true, true, true, true, true, true, true, true, true, false, false, false, false, false, false] rfl rfl (any_of HT_.out (by kernel_rfl)) (fun _ _ _ h => h) (Or.inr ⟨by rfl, rfl⟩) ?_ ?_
                        rotate_left
                        · simp only [Act.put, List.setIfInBounds_toArray, List.set_cons_zero, List.set_cons_succ, i64_w, i32_w]
                          rfl
                        refine pure_ (i := 27) (N := some 68) (v := undef) (a' := ?_) #[true, true, true, true, true, true, true, true, true, true, true, true, true, true, true, true, true, true, true, true, true, true, true, true, true, true, true, true, false, false, false, false, false] rfl rfl (any_of HT_.out (by kernel_rfl)) (fun _ _ _ h => h) (Or.inr ⟨by rfl, rfl⟩) ?_ ?_
                        rotate_left
                        · simp only [Act.put, List.setIfInBounds_toArray, List.set_cons_zero, List.set_cons_succ, i64_w, i32_w]
                          rfl
                        refine pure_ (i := 28) (N := some 69) (v := undef) (a' := ?_) #[true, true, true, true, true, true, true, true, true, true, true, true, true, true, true, true, true, true, true, true, true, true, true, true, true, true, true, true, true, false, false, false, false] rfl rfl (any_of HT_.out (by kernel_rfl)) (fun _ _ _ h => h) (Or.inr ⟨by rfl, rfl⟩) ?_ ?_
                        rotate_left
                        · simp only [Act.put, List.setIfInBounds_toArray, List.set_cons_zero, List.set_cons_succ, i64_w, i32_w]
                          rfl
                        refine pure_ (i := 29) (N := some 70) (v := undef) (a' := ?_) #[true, true, true, true, true, true, true, true, true, true, true, true, true, true, true, true, true, true, true, true, true, true, true, true, true, true, true, true, true, true, false, false, false] rfl rfl (any_of HT_.out (by kernel_rfl)) (fun _ _ _ h => h) (Or.inr ⟨by rfl, rfl⟩) ?_ ?_
                        rotate_left
                        · simp only [Act.put, List.setIfInBounds_toArray, List.set_cons_zero, List.set_cons_succ, i64_w, i32_w]
                          rfl
                        refine pure_ (i := 30) (N := some 71) (v := undef) (a' := ?_) #[true, true, true, true, true, true, true, true, true, true, true, true, true, true, true, true, true, true, true, true, true, true, true, true, true, true, true, true, true, true, true, false, false] rfl rfl (any_of HT_.out (by kernel_rfl)) (fun _ _ _ h => h) (Or.inr ⟨by rfl, rfl⟩) ?_ ?_
                        rotate_left
                        · simp only [Act.put, List.setIfInBounds_toArray, List.set_cons_zero, List.set_cons_succ, i64_w, i32_w]
                          rfl
                        refine pure_ (i := 31) (N := some 72) (v := undef) (a' := ?_) #[true, true, true, true, true, true, true, true, true, true, true, true, true, true, true, true, true, true, true, true, true, true, true, true, true, true, true, true, true, true, true, true, false] rfl rfl (any_of HT_.out (by kernel_rfl)) (fun _ _ _ h => h) (Or.inr ⟨by rfl, rfl⟩) ?_ ?_
                        rotate_left
                        · simp only [Act.put, List.setIfInBounds_toArray, List.set_cons_zero, List.set_cons_succ, i64_w, i32_w]
                          rfl
                        refine pure_ (i := 32) (N := some 73) (v := ?_) (a' := ?_) #[true, true, true, true, true, true, true, true, true, true, true, true, true, true, true, true, true, true, true, true, true, true, true, true, true, true, true, true, true, true, true, true, true] rfl rfl (any_of HT_.out (by kernel_rfl)) (fun _ _ _ h => h) (Or.inl ⟨by rfl, ?_⟩) ?_ ?_
                        rotate_left
                        · intro w'
                          go_simp
                          with_reducible rfl
                        rotate_left
                        · simp only [Act.put, List.setIfInBounds_toArray, List.set_cons_zero, List.set_cons_succ, i64_w, i32_w]
                          rfl
                        refine done_ (done_of HT_.out (by kernel_rfl)) ?_
                        try go_wp2
                        go_ret
                        exact ⟨by first | rfl | (simp [errW_none, errW_some] <;> rfl) | (simp [*, errW_none, errW_some] <;> rfl), by repeat (first | (with_reducible first | exact HB.out | apply below_alloc | apply pw_below_drewN | apply below_drew1) | exact HB.out)⟩
                    · rw [if_neg c18] at H
                      exact absurd H (by simp)
                  · rw [if_neg c17] at H
                    exact absurd H (by simp)
                · rw [if_neg c16] at H
                  have c16b0 : decide (x9_2 < (t220.length : Int)) = false := decide_eq_false c16
                  clear c16
                  obtain rfl := Option.some.inj H
                  go_wp2
                  go_ret
                  exact ⟨by first | rfl | (simp [errW_none, errW_some] <;> rfl) | (simp [*, errW_none, errW_some] <;> rfl), by repeat (first | (with_reducible first | exact HB.out | apply below_alloc | apply pw_below_drewN | apply below_drew1) | exact HB.out)⟩
          · rw [if_neg c11] at H
            have c11b0 : ((t224.length : Int) == (t220.length : Int)) = false := beq_eq_false_iff_ne.mpr c11
            have c11b1 : ((t224.length : Int) != (t220.length : Int)) = true := bne_iff_ne.mpr c11
            have c11b2 : (t224.length == t220.length) = false := by first | simpa using c11 | (simp at c11 ⊢; omega)
            obtain rfl := Option.some.inj H
            go_wp2_with (first | ((with_reducible refine gate_callee (f := 13) rfl ?_); refine goesL_ (some 21) rfl rfl Try.func13 (by kernel_rfl) rfl #[.slice A0 l0.length c0, .slice A1 l1.length c1] rfl (by (try simp only [List.map_toArray, List.map_cons, List.map_nil]); first | done | rfl | (simp only [List.length_drop, List.length_take]; rfl)) ?_; (with_reducible refine (spec_Rows.calls kj2 _ _ l0 _ _ l1 t217 t220 true _ ?side1 ?side2 ?side3 ?side4 A8.out).mono ?_); (case side1 => repeat (first | exact (Kd.C_below HR0.out HB.out) | (with_reducible refine Kd.C_alloc ?_ _) | (with_reducible refine Kd.C_drewN ?_ _) | (with_reducible refine Kd.C_drew ?_))); (case side2 => exact HC0.out); (case side3 => repeat (first | exact (Kd.C_below HR1.out HB.out) | (with_reducible refine Kd.C_alloc ?_ _) | (with_reducible refine Kd.C_drewN ?_ _) | (with_reducible refine Kd.C_drew ?_))); (case side4 => exact HC1.out); rintro e w33 ⟨v218, v221, rfl, ho0, ho1, hb⟩; refine ⟨_, rfl, ?_⟩; have n0_ := Aside0.mk (Kd.V_lower (Kd.V_mono (ok' := fun k_ => some k_ ≠ (v221 : Value).ownBlock) ho0 (fun k_ hk_ => hk_.2)) (below_size (by repeat (first | (with_reducible first | exact HB.out | apply below_alloc | apply pw_below_drewN | apply below_drew1) | exact HB.out)))); have n1_ := Aside0.mk (Kd.N_lower (Kd.N_mono (ok' := fun k_ => True) ho1 (fun k_ hk_ => trivial)) (below_size (by repeat (first | (with_reducible first | exact HB.out | apply below_alloc | apply pw_below_drewN | apply below_drew1) | exact HB.out)))); have n2_ := Aside0.mk (below_step (by repeat (first | (with_reducible first | exact HB.out | apply below_alloc | apply pw_below_drewN | apply below_drew1) | exact HB.out)) hb); clear HB; have HO219 := n0_; have HO222 := n1_; have HB := n2_; clear n0_ n1_ n2_; (try clear hb); (try clear hb2); (try clear hk); (try clear hi); (try clear ho0); (try clear ho1)) | ((with_reducible refine gate_callee (f := 15) rfl ?_); refine goesL_ (some 29) rfl rfl Try.func15 (by kernel_rfl) rfl #[.slice A0 l0.length c0, .slice A1 l1.length c1] rfl (by (try simp only [List.map_toArray, List.map_cons, List.map_nil]); first | done | rfl | (simp only [List.length_drop, List.length_take]; rfl)) ?_; (with_reducible refine (impl_RopeRun.calls _ _ l0 _ _ l1 t224 _ ?side1 ?side2 ?side3 ?side4 A10.out).mono ?_); (case side1 => repeat (first | exact (Kd.C_below HR0.out HB.out) | (with_reducible refine Kd.C_alloc ?_ _) | (with_reducible refine Kd.C_drewN ?_ _) | (with_reducible refine Kd.C_drew ?_))); (case side2 => exact HC0.out); (case side3 => repeat (first | exact (Kd.C_below HR1.out HB.out) | (with_reducible refine Kd.C_alloc ?_ _) | (with_reducible refine Kd.C_drewN ?_ _) | (with_reducible refine Kd.C_drew ?_))); (case side4 => exact HC1.out); rintro e w34 ⟨v225, rfl, ho0, hb⟩; refine ⟨_, rfl, ?_⟩; have n0_ := Aside0.mk (Kd.V_elder' (by (with_reducible repeat (first | apply Kd.V_alloc | apply Kd.V_drewN | apply Kd.V_drew)); exact HO219.out) (Kd.N_base (Kd.S_N ho0)) hb); have n1_ := Aside0.mk (Kd.N_elder' (by (with_reducible repeat (first | apply Kd.N_alloc | apply Kd.N_drewN | apply Kd.N_drew)); exact HO222.out) (Kd.N_base (Kd.S_N ho0)) hb); have n2_ := Aside0.mk (Kd.N_lower (Kd.N_mono (ok' := fun k_ => some k_ ≠ (v221 : Value).ownBlock) (Kd.S_N (Kd.S_bound ho0)) (fun k_ hk_ => (Kd.fresh' (Kd.N_lt (by (with_reducible repeat (first | apply Kd.N_alloc | apply Kd.N_drewN | apply Kd.N_drew)); exact HO222.out)) k_ hk_.2.1))) (below_size (by repeat (first | (with_reducible first | exact HB.out | apply below_alloc | apply pw_below_drewN | apply below_drew1) | exact HB.out)))); have n3_ := Aside0.mk (below_step (by repeat (first | (with_reducible first | exact HB.out | apply below_alloc | apply pw_below_drewN | apply below_drew1) | exact HB.out)) hb); clear HO219; clear HO222; clear HB; have HO219 := n0_; have HO222 := n1_; have HO226 := n2_; have HB := n3_; clear n0_ n1_ n2_ n3_; (try clear hb); (try clear hb2); (try clear hk); (try clear hi); (try clear ho0); obtain ⟨Ao35, co35, eo35⟩ := Kd.N_slice HO226.out; subst eo35; obtain ⟨Ao36, co36, eo36⟩ := Kd.N_slice HO222.out; subst eo36))
            go_ret
            exact ⟨by first | rfl | (simp [errW_none, errW_some] <;> rfl) | (simp [*, errW_none, errW_some] <;> rfl), by repeat (first | (with_reducible first | exact HB.out | apply below_alloc | apply pw_below_drewN | apply below_drew1) | exact HB.out)⟩
        · replace c9 := Bool.eq_false_iff.mpr c9
          subst c9
          have H1 : (some true) = some r := by rw [if_neg (show ¬ (false = true) by decide)] at H; exact H
          clear H
          have H := H1
          clear H1
          obtain rfl := Option.some.inj H
          go_wp2_with (first | ((with_reducible refine gate_callee (f := 13) rfl ?_); refine goesL_ (some 21) rfl rfl Try.func13 (by kernel_rfl) rfl #[.slice A0 l0.length c0, .slice A1 l1.length c1] rfl (by (try simp only [List.map_toArray, List.map_cons, List.map_nil]); first | done | rfl | (simp only [List.length_drop, List.length_take]; rfl)) ?_; (with_reducible refine (spec_Rows.calls kj2 _ _ l0 _ _ l1 t217 t220 false _ ?side1 ?side2 ?side3 ?side4 A8.out).mono ?_); (case side1 => repeat (first | exact (Kd.C_below HR0.out HB.out) | (with_reducible refine Kd.C_alloc ?_ _) | (with_reducible refine Kd.C_drewN ?_ _) | (with_reducible refine Kd.C_drew ?_))); (case side2 => exact HC0.out); (case side3 => repeat (first | exact (Kd.C_below HR1.out HB.out) | (with_reducible refine Kd.C_alloc ?_ _) | (with_reducible refine Kd.C_drewN ?_ _) | (with_reducible refine Kd.C_drew ?_))); (case side4 => exact HC1.out); rintro e w37 ⟨v218, v221, rfl, ho0, ho1, hb⟩; refine ⟨_, rfl, ?_⟩; have n0_ := Aside0.mk (Kd.V_lower (Kd.V_mono (ok' := fun k_ => some k_ ≠ (v221 : Value).ownBlock) ho0 (fun k_ hk_ => hk_.2)) (below_size (by repeat (first | (with_reducible first | exact HB.out | apply below_alloc | apply pw_below_drewN | apply below_drew1) | exact HB.out)))); have n1_ := Aside0.mk (Kd.N_lower (Kd.N_mono (ok' := fun k_ => True) ho1 (fun k_ hk_ => trivial)) (below_size (by repeat (first | (with_reducible first | exact HB.out | apply below_alloc | apply pw_below_drewN | apply below_drew1) | exact HB.out)))); have n2_ := Aside0.mk (below_step (by repeat (first | (with_reducible first | exact HB.out | apply below_alloc | apply pw_below_drewN | apply below_drew1) | exact HB.out)) hb); clear HB; have HO219 := n0_; have HO222 := n1_; have HB := n2_; clear n0_ n1_ n2_; (try clear hb); (try clear hb2); (try clear hk); (try clear hi); (try clear ho0); (try clear ho1)))
          go_ret
          exact ⟨by first | rfl | (simp [errW_none, errW_some] <;> rfl) | (simp [*, errW_none, errW_some] <;> rfl), by repeat (first | (with_reducible first | exact HB.out | apply below_alloc | apply pw_below_drewN | apply below_drew1) | exact HB.out)⟩

end Go.Proofs.Ytdlnpmbnedmmnaa.QFnRopeRuns
