-- PRINTED BY print.sh 35421559b90ae4d0a3588c463048766b98c2df88dd9212a6774a882060cdf62d: not written by this session
import Derived.Test.YtdhfpgbidlanaaaPFnGlobOpeningx0
namespace Go.Proofs.Ytdhfpgbidlanaaa.PFnGlobOpening
open Go.RowKit Go.Proofs.YtdhfpgbidlanaaaW.PrintWords Go.Proofs.YtdhfpgbidlanaaaW.PrintLast Go.Proofs.YtdhfpgbidlanaaaW.PrintMore
attribute [local go_sem] max2_int min2_int max_two min_two max_three min_three max_four min_four   -- for this text's walks alone
set_option linter.unusedVariables false
set_option linter.unusedSimpArgs false

/-! ### doublestar_indexMatchedOpeningAlt: function 41 -/
mutual
def doublestar_indexMatchedOpeningAlt.l0 : Nat → ByteArray → Int → Int → Option (Int)
  | 0, _, _, _ => none
  | k + 1, x0, x3, x4 => if x4 ≥ 0 then (if 0 ≤ x4 then (if x4 < (x0.size : Int) then (if (bt x0 x4) = 125 then (if x4 = 0 then (doublestar_indexMatchedOpeningAlt.j1 k x0 x3 x4 true) else (if 0 ≤ (wrap64 (x4 - 1)) then (if (wrap64 (x4 - 1)) < (x0.size : Int) then (doublestar_indexMatchedOpeningAlt.j1 k x0 x3 x4 ((bt x0 (wrap64 (x4 - 1))) != 92)) else (none)) else (none))) else (doublestar_indexMatchedOpeningAlt.j1 k x0 x3 x4 false)) else (none)) else (none)) else (some (-1))
def doublestar_indexMatchedOpeningAlt.j1 : Nat → ByteArray → Int → Int → Bool → Option (Int)
  | 0, _, _, _, _ => none
  | k + 1, x0, x3, x4, x26 => if x26 = true then (doublestar_indexMatchedOpeningAlt.l0 k x0 (wrap64 (x3 + 1)) (wrap64 (x4 - 1))) else (if 0 ≤ x4 then (if x4 < (x0.size : Int) then (if (bt x0 x4) = 123 then (if x4 = 0 then (doublestar_indexMatchedOpeningAlt.j2 k x0 x3 x4 true) else (if 0 ≤ (wrap64 (x4 - 1)) then (if (wrap64 (x4 - 1)) < (x0.size : Int) then (doublestar_indexMatchedOpeningAlt.j2 k x0 x3 x4 ((bt x0 (wrap64 (x4 - 1))) != 92)) else (none)) else (none))) else (doublestar_indexMatchedOpeningAlt.j2 k x0 x3 x4 false)) else (none)) else (none))
def doublestar_indexMatchedOpeningAlt.j2 : Nat → ByteArray → Int → Int → Bool → Option (Int)
  | 0, _, _, _, _ => none
  | k + 1, x0, x3, x4, x43 => if x43 = true then (if (wrap64 (x3 - 1)) = 0 then (some x4) else (doublestar_indexMatchedOpeningAlt.l0 k x0 (wrap64 (x3 - 1)) (wrap64 (x4 - 1)))) else (doublestar_indexMatchedOpeningAlt.l0 k x0 x3 (wrap64 (x4 - 1)))
end
def doublestar_indexMatchedOpeningAlt.f (k : Nat) (a0 : ByteArray) : Option (Int) := doublestar_indexMatchedOpeningAlt.l0 k a0 1 (wrap64 ((a0.size : Int) - 1))
theorem doublestar_indexMatchedOpeningAlt.mono_l : ∀ k, (∀ y0 y1 y2, LeO (doublestar_indexMatchedOpeningAlt.l0 k y0 y1 y2) (doublestar_indexMatchedOpeningAlt.l0 (k + 1) y0 y1 y2)) ∧ (∀ y0 y1 y2 y3, LeO (doublestar_indexMatchedOpeningAlt.j1 k y0 y1 y2 y3) (doublestar_indexMatchedOpeningAlt.j1 (k + 1) y0 y1 y2 y3)) ∧ (∀ y0 y1 y2 y3, LeO (doublestar_indexMatchedOpeningAlt.j2 k y0 y1 y2 y3) (doublestar_indexMatchedOpeningAlt.j2 (k + 1) y0 y1 y2 y3))
  | 0 => ⟨fun _ _ _ r h => by simp [doublestar_indexMatchedOpeningAlt.l0] at h, fun _ _ _ _ r h => by simp [doublestar_indexMatchedOpeningAlt.j1] at h, fun _ _ _ _ r h => by simp [doublestar_indexMatchedOpeningAlt.j2] at h⟩
  | k + 1 => by
    obtain ⟨ih0, ih1, ih2⟩ := doublestar_indexMatchedOpeningAlt.mono_l k
    refine ⟨?_, ?_, ?_⟩
    · intro y0 y1 y2
      unfold doublestar_indexMatchedOpeningAlt.l0
      repeat' first
      | (with_reducible exact ih0 _ _ _)
      | (with_reducible exact ih1 _ _ _ _)
      | (with_reducible exact ih2 _ _ _ _)
      | (with_reducible exact LeO.refl _)
      | (with_reducible exact LeO.none _)
      | (with_reducible refine LeO.ite ?_ ?_)
      | (with_reducible refine LeO.bind ?_ (fun _ => ?_))
      | exact ih0 _ _ _
      | exact ih1 _ _ _ _
      | exact ih2 _ _ _ _
      | exact LeO.none _
      | refine LeO.ite ?_ ?_
      | refine LeO.bind ?_ (fun _ => ?_)
    · intro y0 y1 y2 y3
      unfold doublestar_indexMatchedOpeningAlt.j1
      repeat' first
      | (with_reducible exact ih0 _ _ _)
      | (with_reducible exact ih1 _ _ _ _)
      | (with_reducible exact ih2 _ _ _ _)
      | (with_reducible exact LeO.refl _)
      | (with_reducible exact LeO.none _)
      | (with_reducible refine LeO.ite ?_ ?_)
      | (with_reducible refine LeO.bind ?_ (fun _ => ?_))
      | exact ih0 _ _ _
      | exact ih1 _ _ _ _
      | exact ih2 _ _ _ _
      | exact LeO.none _
      | refine LeO.ite ?_ ?_
      | refine LeO.bind ?_ (fun _ => ?_)
    · intro y0 y1 y2 y3
      unfold doublestar_indexMatchedOpeningAlt.j2
      repeat' first
      | (with_reducible exact ih0 _ _ _)
      | (with_reducible exact ih1 _ _ _ _)
      | (with_reducible exact ih2 _ _ _ _)
      | (with_reducible exact LeO.refl _)
      | (with_reducible exact LeO.none _)
      | (with_reducible refine LeO.ite ?_ ?_)
      | (with_reducible refine LeO.bind ?_ (fun _ => ?_))
      | exact ih0 _ _ _
      | exact ih1 _ _ _ _
      | exact ih2 _ _ _ _
      | exact LeO.none _
      | refine LeO.ite ?_ ?_
      | refine LeO.bind ?_ (fun _ => ?_)
theorem doublestar_indexMatchedOpeningAlt.mono : ∀ a0 k, LeO (doublestar_indexMatchedOpeningAlt.f k a0) (doublestar_indexMatchedOpeningAlt.f (k + 1) a0) := by
  intro a0 k
  obtain ⟨ih0, ih1, ih2⟩ := doublestar_indexMatchedOpeningAlt.mono_l k
  unfold doublestar_indexMatchedOpeningAlt.f
  repeat' first
      | (with_reducible exact ih0 _ _ _)
      | (with_reducible exact ih1 _ _ _ _)
      | (with_reducible exact ih2 _ _ _ _)
      | (with_reducible exact LeO.refl _)
      | (with_reducible exact LeO.none _)
      | (with_reducible refine LeO.ite ?_ ?_)
      | (with_reducible refine LeO.bind ?_ (fun _ => ?_))
      | exact ih0 _ _ _
      | exact ih1 _ _ _ _
      | exact ih2 _ _ _ _
      | exact LeO.none _
      | refine LeO.ite ?_ ?_
      | refine LeO.bind ?_ (fun _ => ?_)
set_option maxHeartbeats 8000000 in
set_option maxRecDepth 100000 in
theorem doublestar_indexMatchedOpeningAlt.calls (k : Nat) (a0 : ByteArray) (r : Int) (w : World) (h : doublestar_indexMatchedOpeningAlt.f k a0 = some r) :
    Calls Try.prog 41 #[.string a0] w fun e w' => e = .returned (.int .i64 r) ∧ Drawn0 w w' := by
  have H : (doublestar_indexMatchedOpeningAlt.l0 k a0 1 (wrap64 ((a0.size : Int) - 1))) = some r := h
  clear h
  have H' := Aside0.mk H
  clear H
  go_enter Try.func41, Try.ntmps41
  go_wp2
  go_loopg [3, 4] k (fun kq v3 v4 w' => ∃ (x3_1 : Int) (x4_1 : Int), v3 = .int .i64 x3_1 ∧ v4 = .int .i64 x4_1 ∧ Aside0 (doublestar_indexMatchedOpeningAlt.l0 kq a0 x3_1 x4_1 = some r) ∧ Aside0 (kq ≤ k) ∧ Drawn0 w w')
  case atStart => exact ⟨(1), (wrap64 ((a0.size : Int) - 1)), (by first | rfl | (simp; done) | (simp [*]; done)), (by first | rfl | (simp; done) | (simp [*]; done)), H', ⟨Nat.le_refl _⟩, by repeat (first | exact Drawn0.refl _ | apply Drawn0.step)⟩
  case round =>
    clear H'
    obtain ⟨x3_1, x4_1, rfl, rfl, HA, HK1, ⟨m1, rfl⟩⟩ := hrel
    cases gk with
    | zero => exact absurd HA.out (by simp [doublestar_indexMatchedOpeningAlt.l0])
    | succ k1 =>
      have H := HA.out
      clear HA
      simp only [doublestar_indexMatchedOpeningAlt.l0] at H
      by_cases c2 : x4_1 ≥ 0
      · rw [if_pos c2] at H
        have c2b0 : decide (0 ≤ x4_1) = true := decide_eq_true c2
        clear c2
        have HC3 := Aside0.mk H
        clear H
        go_upto_region 5 with (fail)
        go_cut [26] (fun v26 wc => ∃ (kq : Nat) (x26_2 : Bool), v26 = .bool x26_2 ∧ Aside0 (doublestar_indexMatchedOpeningAlt.j1 kq a0 x3_1 x4_1 x26_2 = some r) ∧ Aside0 (kq ≤ k1) ∧ Drawn0 w wc)
        case first =>
          have H := HC3.out
          clear HC3
          by_cases c4 : 0 ≤ x4_1
          · rw [if_pos c4] at H
            have c4b0 : decide (0 ≤ x4_1) = true := decide_eq_true c4
            clear c4
            (first | rw [c4b0] | (simp only [i64_w, i32_w]; rw [c4b0]) | skip)
            by_cases c5 : x4_1 < (a0.size : Int)
            · rw [if_pos c5] at H
              have c5b0 : decide (x4_1 < (a0.size : Int)) = true := decide_eq_true c5
              clear c5
              by_cases c7 : (bt a0 x4_1) = 125
              · rw [if_pos c7] at H
                have c7b0 : ((bt a0 x4_1) == 125) = true := beq_iff_eq.mpr c7
                have c7b1 : ((bt a0 x4_1) != 125) = false := bne_eq_false_iff_eq.mpr c7
                clear c7
                by_cases c8 : x4_1 = 0
                · rw [if_pos c8] at H
                  have c8b0 : (x4_1 == 0) = true := beq_iff_eq.mpr c8
                  have c8b1 : (x4_1 != 0) = false := bne_eq_false_iff_eq.mpr c8
                  clear c8
                  have H' := Aside0.mk H
                  clear H
                  have p6 : 0 ≤ (x4_1 : Int) := of_decide_eq_true (by first | (with_reducible assumption) | assumption)
                  have q6 : x4_1 < (a0.size : Int) := of_decide_eq_true (by first | (with_reducible assumption) | assumption)
                  have hx6 := bt_at a0 x4_1
                  replace p6 := eq_true p6
                  replace q6 := eq_true q6
                  go_wp2
                  go_meet
                  case rel => exact ⟨_, (true), (by first | rfl | (simp; done) | (simp [*]; done)), H', ⟨by have := HK1.out; first | omega | exact Nat.le_refl _⟩, by repeat (first | exact Drawn0.refl _ | apply Drawn0.step)⟩
                · rw [if_neg c8] at H
                  have c8b0 : (x4_1 == 0) = false := beq_eq_false_iff_ne.mpr c8
                  have c8b1 : (x4_1 != 0) = true := bne_iff_ne.mpr c8
                  obtain ⟨ji9, hji9⟩ : ∃ j_ : Int, (wrap64 (x4_1 - 1)) = j_ := ⟨_, rfl⟩
                  replace H : (if 0 ≤ (ji9) then (if (ji9) < (a0.size : Int) then (doublestar_indexMatchedOpeningAlt.j1 k1 a0 x3_1 x4_1 ((bt a0 (ji9)) != 92)) else (none)) else (none)) = some r := by first | (rw [hji9] at H; exact H) | (simp only [hji9] at H ⊢; exact H)
                  have hji9w : (IntKind.i64.wrap (x4_1 - 1)) = ji9 := (i64_w _).trans hji9
                  by_cases c10 : 0 ≤ (ji9)
                  · rw [if_pos c10] at H
                    have c10b0 : decide (0 ≤ (ji9)) = true := decide_eq_true c10
                    clear c10
                    by_cases c11 : (ji9) < (a0.size : Int)
                    · rw [if_pos c11] at H
                      have c11b0 : decide ((ji9) < (a0.size : Int)) = true := decide_eq_true c11
                      clear c11
                      have H' := Aside0.mk H
                      clear H
                      have p6 : 0 ≤ (x4_1 : Int) := of_decide_eq_true (by first | (with_reducible assumption) | assumption)
                      have q6 : x4_1 < (a0.size : Int) := of_decide_eq_true (by first | (with_reducible assumption) | assumption)
                      have hx6 := bt_at a0 x4_1
                      replace p6 := eq_true p6
                      replace q6 := eq_true q6
                      have p12 : 0 ≤ ((ji9) : Int) := of_decide_eq_true (by first | (with_reducible assumption) | assumption)
                      have q12 : (ji9) < (a0.size : Int) := of_decide_eq_true (by first | (with_reducible assumption) | assumption)
                      have hx12 := bt_at a0 (ji9)
                      replace p12 := eq_true p12
                      replace q12 := eq_true q12
                      go_wp2
                      go_meet
                      case rel => exact ⟨_, (((bt a0 (ji9)) != 92)), (by first | rfl | (simp; done) | (simp only [← hji9] <;> (first | rfl | simp)) | (simp [*]; done)), H', ⟨by have := HK1.out; first | omega | exact Nat.le_refl _⟩, by repeat (first | exact Drawn0.refl _ | apply Drawn0.step)⟩
                    · rw [if_neg c11] at H
                      exact absurd H (by simp)
                  · rw [if_neg c10] at H
                    exact absurd H (by simp)
              · rw [if_neg c7] at H
                have c7b0 : ((bt a0 x4_1) == 125) = false := beq_eq_false_iff_ne.mpr c7
                have c7b1 : ((bt a0 x4_1) != 125) = true := bne_iff_ne.mpr c7
                have H' := Aside0.mk H
                clear H
                have p6 : 0 ≤ (x4_1 : Int) := of_decide_eq_true (by first | (with_reducible assumption) | assumption)
                have q6 : x4_1 < (a0.size : Int) := of_decide_eq_true (by first | (with_reducible assumption) | assumption)
                have hx6 := bt_at a0 x4_1
                replace p6 := eq_true p6
                replace q6 := eq_true q6
                go_wp2
                go_meet
                case rel => exact ⟨_, (false), (by first | rfl | (simp; done) | (simp [*]; done)), H', ⟨by have := HK1.out; first | omega | exact Nat.le_refl _⟩, by repeat (first | exact Drawn0.refl _ | apply Drawn0.step)⟩
            · rw [if_neg c5] at H
              exact absurd H (by simp)
          · rw [if_neg c4] at H
            exact absurd H (by simp)
        case rest =>
          clear HC3
          try clear c1
          try clear p1
          try clear q1
          try clear hx1
          try clear c2
          try clear c2b0
          try clear p2
          try clear c4
          try clear c4b0
          try clear c5
          try clear c5b0
          try clear p6
          try clear q6
          try clear hx6
          try clear c7
          try clear c7b0
          try clear c7b1
          try clear c8
          try clear c8b0
          try clear c8b1
          try clear c10
          try clear c10b0
          try clear c11
          try clear c11b0
          try clear p12
          try clear q12
          try clear hx12
          try clear p12
          try clear p6
          try clear q12
          try clear q6
          obtain ⟨kq, x26_2, rfl, HA, HJ2, ⟨mc2, rfl⟩⟩ := hcut
          cases kq with
          | zero => exact absurd HA.out (by simp [doublestar_indexMatchedOpeningAlt.j1])
          | succ kj2 =>
            have H := HA.out
            clear HA
            simp only [doublestar_indexMatchedOpeningAlt.j1] at H
            by_cases c13 : x26_2 = true
            · subst c13
              have H1 : (doublestar_indexMatchedOpeningAlt.l0 kj2 a0 (wrap64 (x3_1 + 1)) (wrap64 (x4_1 - 1))) = some r := by rw [if_pos rfl] at H; exact H
              clear H
              have H := H1
              clear H1
              have H' := Aside0.mk H
              clear H
              go_wp2
              go_roundg kj2
              case measure => have := HK1.out; have := HJ2.out; omega
              case rel => exact ⟨(wrap64 (x3_1 + 1)), (wrap64 (x4_1 - 1)), (by first | rfl | (simp; done) | (simp [*]; done)), (by first | rfl | (simp; done) | (simp [*]; done)), H', ⟨by have := HK1.out; have := HJ2.out; omega⟩, by repeat (first | exact Drawn0.refl _ | apply Drawn0.step)⟩
            · replace c13 := Bool.eq_false_iff.mpr c13
              subst c13
              have H1 : (if 0 ≤ x4_1 then (if x4_1 < (a0.size : Int) then (if (bt a0 x4_1) = 123 then (if x4_1 = 0 then (doublestar_indexMatchedOpeningAlt.j2 kj2 a0 x3_1 x4_1 true) else (if 0 ≤ (wrap64 (x4_1 - 1)) then (if (wrap64 (x4_1 - 1)) < (a0.size : Int) then (doublestar_indexMatchedOpeningAlt.j2 kj2 a0 x3_1 x4_1 ((bt a0 (wrap64 (x4_1 - 1))) != 92)) else (none)) else (none))) else (doublestar_indexMatchedOpeningAlt.j2 kj2 a0 x3_1 x4_1 false)) else (none)) else (none)) = some r := by rw [if_neg (show ¬ (false = true) by decide)] at H; exact H
              clear H
              have H := H1
              clear H1
              have HC14 := Aside0.mk H
              clear H
              go_upto_region 7 with (fail)
              go_cut [43] (fun v43 wc => ∃ (kq : Nat) (x43_13 : Bool), v43 = .bool x43_13 ∧ Aside0 (doublestar_indexMatchedOpeningAlt.j2 kq a0 x3_1 x4_1 x43_13 = some r) ∧ Aside0 (kq ≤ kj2) ∧ Drawn0 w wc)
              case first =>
                have H := HC14.out
                clear HC14
                by_cases c15 : 0 ≤ x4_1
                · rw [if_pos c15] at H
                  have c15b0 : decide (0 ≤ x4_1) = true := decide_eq_true c15
                  clear c15
                  (first | rw [c15b0] | (simp only [i64_w, i32_w]; rw [c15b0]) | skip)
                  by_cases c16 : x4_1 < (a0.size : Int)
                  · rw [if_pos c16] at H
                    have c16b0 : decide (x4_1 < (a0.size : Int)) = true := decide_eq_true c16
                    clear c16
                    by_cases c18 : (bt a0 x4_1) = 123
                    · rw [if_pos c18] at H
                      have c18b0 : ((bt a0 x4_1) == 123) = true := beq_iff_eq.mpr c18
                      have c18b1 : ((bt a0 x4_1) != 123) = false := bne_eq_false_iff_eq.mpr c18
                      clear c18
                      by_cases c19 : x4_1 = 0
                      · rw [if_pos c19] at H
                        have c19b0 : (x4_1 == 0) = true := beq_iff_eq.mpr c19
                        have c19b1 : (x4_1 != 0) = false := bne_eq_false_iff_eq.mpr c19
                        clear c19
                        have H' := Aside0.mk H
                        clear H
                        have p17 : 0 ≤ (x4_1 : Int) := of_decide_eq_true (by first | (with_reducible assumption) | assumption)
                        have q17 : x4_1 < (a0.size : Int) := of_decide_eq_true (by first | (with_reducible assumption) | assumption)
                        have hx17 := bt_at a0 x4_1
                        replace p17 := eq_true p17
                        replace q17 := eq_true q17
                        go_wp2
                        go_meet
                        case rel => exact ⟨_, (true), (by first | rfl | (simp; done) | (simp [*]; done)), H', ⟨by have := HK1.out; have := HJ2.out; first | omega | exact Nat.le_refl _⟩, by repeat (first | exact Drawn0.refl _ | apply Drawn0.step)⟩
                      · rw [if_neg c19] at H
                        have c19b0 : (x4_1 == 0) = false := beq_eq_false_iff_ne.mpr c19
                        have c19b1 : (x4_1 != 0) = true := bne_iff_ne.mpr c19
                        obtain ⟨ji20, hji20⟩ : ∃ j_ : Int, (wrap64 (x4_1 - 1)) = j_ := ⟨_, rfl⟩
                        replace H : (if 0 ≤ (ji20) then (if (ji20) < (a0.size : Int) then (doublestar_indexMatchedOpeningAlt.j2 kj2 a0 x3_1 x4_1 ((bt a0 (ji20)) != 92)) else (none)) else (none)) = some r := by first | (rw [hji20] at H; exact H) | (simp only [hji20] at H ⊢; exact H)
                        have hji20w : (IntKind.i64.wrap (x4_1 - 1)) = ji20 := (i64_w _).trans hji20
                        by_cases c21 : 0 ≤ (ji20)
                        · rw [if_pos c21] at H
                          have c21b0 : decide (0 ≤ (ji20)) = true := decide_eq_true c21
                          clear c21
                          by_cases c22 : (ji20) < (a0.size : Int)
                          · rw [if_pos c22] at H
                            have c22b0 : decide ((ji20) < (a0.size : Int)) = true := decide_eq_true c22
                            clear c22
                            have H' := Aside0.mk H
                            clear H
                            have p17 : 0 ≤ (x4_1 : Int) := of_decide_eq_true (by first | (with_reducible assumption) | assumption)
                            have q17 : x4_1 < (a0.size : Int) := of_decide_eq_true (by first | (with_reducible assumption) | assumption)
                            have hx17 := bt_at a0 x4_1
                            replace p17 := eq_true p17
                            replace q17 := eq_true q17
                            have p23 : 0 ≤ ((ji20) : Int) := of_decide_eq_true (by first | (with_reducible assumption) | assumption)
                            have q23 : (ji20) < (a0.size : Int) := of_decide_eq_true (by first | (with_reducible assumption) | assumption)
                            have hx23 := bt_at a0 (ji20)
                            replace p23 := eq_true p23
                            replace q23 := eq_true q23
                            go_wp2
                            go_meet
                            case rel => exact ⟨_, (((bt a0 (ji20)) != 92)), (by first | rfl | (simp; done) | (simp only [← hji20] <;> (first | rfl | simp)) | (simp [*]; done)), H', ⟨by have := HK1.out; have := HJ2.out; first | omega | exact Nat.le_refl _⟩, by repeat (first | exact Drawn0.refl _ | apply Drawn0.step)⟩
                          · rw [if_neg c22] at H
                            exact absurd H (by simp)
                        · rw [if_neg c21] at H
                          exact absurd H (by simp)
                    · rw [if_neg c18] at H
                      have c18b0 : ((bt a0 x4_1) == 123) = false := beq_eq_false_iff_ne.mpr c18
                      have c18b1 : ((bt a0 x4_1) != 123) = true := bne_iff_ne.mpr c18
                      have H' := Aside0.mk H
                      clear H
                      have p17 : 0 ≤ (x4_1 : Int) := of_decide_eq_true (by first | (with_reducible assumption) | assumption)
                      have q17 : x4_1 < (a0.size : Int) := of_decide_eq_true (by first | (with_reducible assumption) | assumption)
                      have hx17 := bt_at a0 x4_1
                      replace p17 := eq_true p17
                      replace q17 := eq_true q17
                      go_wp2
                      go_meet
                      case rel => exact ⟨_, (false), (by first | rfl | (simp; done) | (simp [*]; done)), H', ⟨by have := HK1.out; have := HJ2.out; first | omega | exact Nat.le_refl _⟩, by repeat (first | exact Drawn0.refl _ | apply Drawn0.step)⟩
                  · rw [if_neg c16] at H
                    exact absurd H (by simp)
                · rw [if_neg c15] at H
                  exact absurd H (by simp)
              case rest =>
                clear HC14
                try clear c1
                try clear p1
                try clear q1
                try clear hx1
                try clear c2
                try clear c2b0
                try clear p2
                try clear q2
                try clear hx2
                try clear c4
                try clear c4b0
                try clear c5
                try clear c5b0
                try clear p6
                try clear q6
                try clear hx6
                try clear c7
                try clear c7b0
                try clear c7b1
                try clear c8
                try clear c8b0
                try clear c8b1
                try clear c10
                try clear c10b0
                try clear c11
                try clear c11b0
                try clear p12
                try clear q12
                try clear hx12
                try clear c13
                try clear c15
                try clear c15b0
                try clear c16
                try clear c16b0
                try clear p17
                try clear q17
                try clear hx17
                try clear c18
                try clear c18b0
                try clear c18b1
                try clear c19
                try clear c19b0
                try clear c19b1
                try clear c21
                try clear c21b0
                try clear c22
                try clear c22b0
                try clear p23
                try clear q23
                try clear hx23
                try clear p1
                try clear p12
                try clear p17
                try clear p2
                try clear p23
                try clear p6
                try clear q1
                try clear q12
                try clear q17
                try clear q23
                try clear q6
                obtain ⟨kq, x43_13, rfl, HA, HJ13, ⟨mc13, rfl⟩⟩ := hcut
                cases kq with
                | zero => exact absurd HA.out (by simp [doublestar_indexMatchedOpeningAlt.j2])
                | succ kj13 =>
                  have H := HA.out
                  clear HA
                  simp only [doublestar_indexMatchedOpeningAlt.j2] at H
                  by_cases c24 : x43_13 = true
                  · subst c24
                    have H1 : (if (wrap64 (x3_1 - 1)) = 0 then (some x4_1) else (doublestar_indexMatchedOpeningAlt.l0 kj13 a0 (wrap64 (x3_1 - 1)) (wrap64 (x4_1 - 1)))) = some r := by rw [if_pos rfl] at H; exact H
                    clear H
                    have H := H1
                    clear H1
                    by_cases c25 : (wrap64 (x3_1 - 1)) = 0
                    · rw [if_pos c25] at H
                      have c25b0 : ((wrap64 (x3_1 - 1)) == 0) = true := beq_iff_eq.mpr c25
                      have c25b1 : ((wrap64 (x3_1 - 1)) != 0) = false := bne_eq_false_iff_eq.mpr c25
                      clear c25
                      obtain rfl := Option.some.inj H
                      go_wp2
                      go_ret
                      exact ⟨by first | rfl | (simp; done) | (simp [*]; done), by repeat (first | exact Drawn0.refl _ | apply Drawn0.step)⟩
                    · rw [if_neg c25] at H
                      have c25b0 : ((wrap64 (x3_1 - 1)) == 0) = false := beq_eq_false_iff_ne.mpr c25
                      have c25b1 : ((wrap64 (x3_1 - 1)) != 0) = true := bne_iff_ne.mpr c25
                      have H' := Aside0.mk H
                      clear H
                      go_wp2
                      go_roundg kj13
                      case measure => have := HK1.out; have := HJ2.out; have := HJ13.out; omega
                      case rel => exact ⟨(wrap64 (x3_1 - 1)), (wrap64 (x4_1 - 1)), (by first | rfl | (simp; done) | (simp [*]; done)), (by first | rfl | (simp; done) | (simp [*]; done)), H', ⟨by have := HK1.out; have := HJ2.out; have := HJ13.out; omega⟩, by repeat (first | exact Drawn0.refl _ | apply Drawn0.step)⟩
                  · replace c24 := Bool.eq_false_iff.mpr c24
                    subst c24
                    have H1 : (doublestar_indexMatchedOpeningAlt.l0 kj13 a0 x3_1 (wrap64 (x4_1 - 1))) = some r := by rw [if_neg (show ¬ (false = true) by decide)] at H; exact H
                    clear H
                    have H := H1
                    clear H1
                    have H' := Aside0.mk H
                    clear H
                    go_wp2
                    go_roundg kj13
                    case measure => have := HK1.out; have := HJ2.out; have := HJ13.out; omega
                    case rel => exact ⟨(x3_1), (wrap64 (x4_1 - 1)), (by first | rfl | (simp; done) | (simp [*]; done)), (by first | rfl | (simp; done) | (simp [*]; done)), H', ⟨by have := HK1.out; have := HJ2.out; have := HJ13.out; omega⟩, by repeat (first | exact Drawn0.refl _ | apply Drawn0.step)⟩
      · rw [if_neg c2] at H
        have c2b0 : decide (0 ≤ x4_1) = false := decide_eq_false c2
        clear c2
        obtain rfl := Option.some.inj H
        go_wp2
        go_ret
        exact ⟨by first | rfl | (simp; done) | (simp [*]; done), by repeat (first | exact Drawn0.refl _ | apply Drawn0.step)⟩

/-! ### doublestar_ZzOpeningAlt: function 30 -/
def doublestar_ZzOpeningAlt.f (k : Nat) (a0 : ByteArray) : Option (Int) := (doublestar_indexMatchedOpeningAlt.f k a0).bind fun t101 => (some t101)
theorem doublestar_ZzOpeningAlt.mono : ∀ a0 k, LeO (doublestar_ZzOpeningAlt.f k a0) (doublestar_ZzOpeningAlt.f (k + 1) a0) := by
  intro a0 k
  unfold doublestar_ZzOpeningAlt.f
  repeat' first
      | (with_reducible exact doublestar_indexMatchedOpeningAlt.mono _ _)
      | (with_reducible exact LeO.refl _)
      | (with_reducible exact LeO.none _)
      | (with_reducible refine LeO.ite ?_ ?_)
      | (with_reducible refine LeO.bind ?_ (fun _ => ?_))
      | exact doublestar_indexMatchedOpeningAlt.mono _ _
      | exact LeO.none _
      | refine LeO.ite ?_ ?_
      | refine LeO.bind ?_ (fun _ => ?_)
set_option maxHeartbeats 8000000 in
set_option maxRecDepth 100000 in
theorem doublestar_ZzOpeningAlt.calls (k : Nat) (a0 : ByteArray) (r : Int) (w : World) (h : doublestar_ZzOpeningAlt.f k a0 = some r) :
    Calls Try.prog 30 #[.string a0] w fun e w' => e = .returned (.int .i64 r) ∧ Drawn0 w w' := by
  have H : ((doublestar_indexMatchedOpeningAlt.f k a0).bind fun t101 => (some t101)) = some r := h
  clear h
  replace H := Option.bind_eq_some_iff.mp H
  obtain ⟨t101, A20, H⟩ := H
  replace H : (some t101) = some r := H
  have A2 := Aside0.mk A20
  clear A20
  obtain rfl := Option.some.inj H
  go_enter Try.func30, Try.ntmps30
  go_wp2_with (first | ((with_reducible refine gate_callee (f := 41) rfl ?_); refine goesL_ (some 4) rfl rfl Try.func41 (by kernel_rfl) rfl #[.string a0] rfl (by (try simp only [List.map_toArray, List.map_cons, List.map_nil]); first | done | rfl | (simp only [List.length_drop, List.length_take]; rfl)) ?_; (with_reducible refine (doublestar_indexMatchedOpeningAlt.calls k a0 t101 _ A2.out).mono ?_); rintro e w' ⟨rfl, ⟨nd, rfl⟩⟩; refine ⟨_, rfl, ?_⟩))
  go_ret
  exact ⟨by first | rfl | (simp; done) | (simp [*]; done), by repeat (first | exact Drawn0.refl _ | apply Drawn0.step)⟩

/-! ### impl_GlobOpeningAlt: function 12 -/
def impl_GlobOpeningAlt.f (k : Nat) (a0 : ByteArray) : Option (Int) := (doublestar_ZzOpeningAlt.f k a0).bind fun t102 => (some t102)
theorem impl_GlobOpeningAlt.mono : ∀ a0 k, LeO (impl_GlobOpeningAlt.f k a0) (impl_GlobOpeningAlt.f (k + 1) a0) := by
  intro a0 k
  unfold impl_GlobOpeningAlt.f
  repeat' first
      | (with_reducible exact doublestar_ZzOpeningAlt.mono _ _)
      | (with_reducible exact LeO.refl _)
      | (with_reducible exact LeO.none _)
      | (with_reducible refine LeO.ite ?_ ?_)
      | (with_reducible refine LeO.bind ?_ (fun _ => ?_))
      | exact doublestar_ZzOpeningAlt.mono _ _
      | exact LeO.none _
      | refine LeO.ite ?_ ?_
      | refine LeO.bind ?_ (fun _ => ?_)
set_option maxHeartbeats 8000000 in
set_option maxRecDepth 100000 in
theorem impl_GlobOpeningAlt.calls (k : Nat) (a0 : ByteArray) (r : Int) (w : World) (h : impl_GlobOpeningAlt.f k a0 = some r) :
    Calls Try.prog 12 #[.string a0] w fun e w' => e = .returned (.int .i64 r) ∧ Drawn0 w w' := by
  have H : ((doublestar_ZzOpeningAlt.f k a0).bind fun t102 => (some t102)) = some r := h
  clear h
  replace H := Option.bind_eq_some_iff.mp H
  obtain ⟨t102, A20, H⟩ := H
  replace H : (some t102) = some r := H
  have A2 := Aside0.mk A20
  clear A20
  obtain rfl := Option.some.inj H
  go_enter Try.func12, Try.ntmps12
  go_wp2_with (first | ((with_reducible refine gate_callee (f := 30) rfl ?_); refine goesL_ (some 4) rfl rfl Try.func30 (by kernel_rfl) rfl #[.string a0] rfl (by (try simp only [List.map_toArray, List.map_cons, List.map_nil]); first | done | rfl | (simp only [List.length_drop, List.length_take]; rfl)) ?_; (with_reducible refine (doublestar_ZzOpeningAlt.calls k a0 t102 _ A2.out).mono ?_); rintro e w' ⟨rfl, ⟨nd, rfl⟩⟩; refine ⟨_, rfl, ?_⟩))
  go_ret
  exact ⟨by first | rfl | (simp; done) | (simp [*]; done), by repeat (first | exact Drawn0.refl _ | apply Drawn0.step)⟩

/-! ### spec_GlobOpens: function 13 -/
def spec_GlobOpens.l0 : Nat → ByteArray → Int → Int → Option (Int)
  | 0, _, _, _ => none
  | k + 1, x0, x3, x4 => if x4 ≥ 0 then (if 0 ≤ x4 then (if x4 < (x0.size : Int) then (if (bt x0 x4) = 125 then (if (wrap64 (x3 + 1)) = 0 then (some x4) else (spec_GlobOpens.l0 k x0 (wrap64 (x3 + 1)) (wrap64 (x4 - 1)))) else (if (bt x0 x4) = 123 then (if (wrap64 (x3 - 1)) = 0 then (some x4) else (spec_GlobOpens.l0 k x0 (wrap64 (x3 - 1)) (wrap64 (x4 - 1)))) else (if x3 = 0 then (some x4) else (spec_GlobOpens.l0 k x0 x3 (wrap64 (x4 - 1)))))) else (none)) else (none)) else (some (-1))
def spec_GlobOpens.f (k : Nat) (a0 : ByteArray) : Option (Int) := spec_GlobOpens.l0 k a0 1 (wrap64 ((a0.size : Int) - 1))
theorem spec_GlobOpens.mono_l : ∀ k, (∀ y0 y1 y2, LeO (spec_GlobOpens.l0 k y0 y1 y2) (spec_GlobOpens.l0 (k + 1) y0 y1 y2))
  | 0 => fun _ _ _ r h => by simp [spec_GlobOpens.l0] at h
  | k + 1 => by
    have ih0 := spec_GlobOpens.mono_l k
    · intro y0 y1 y2
      unfold spec_GlobOpens.l0
      repeat' first
      | (with_reducible exact ih0 _ _ _)
      | (with_reducible exact LeO.refl _)
      | (with_reducible exact LeO.none _)
      | (with_reducible refine LeO.ite ?_ ?_)
      | (with_reducible refine LeO.bind ?_ (fun _ => ?_))
      | exact ih0 _ _ _
      | exact LeO.none _
      | refine LeO.ite ?_ ?_
      | refine LeO.bind ?_ (fun _ => ?_)
theorem spec_GlobOpens.mono : ∀ a0 k, LeO (spec_GlobOpens.f k a0) (spec_GlobOpens.f (k + 1) a0) := by
  intro a0 k
  have ih0 := spec_GlobOpens.mono_l k
  unfold spec_GlobOpens.f
  repeat' first
      | (with_reducible exact ih0 _ _ _)
      | (with_reducible exact LeO.refl _)
      | (with_reducible exact LeO.none _)
      | (with_reducible refine LeO.ite ?_ ?_)
      | (with_reducible refine LeO.bind ?_ (fun _ => ?_))
      | exact ih0 _ _ _
      | exact LeO.none _
      | refine LeO.ite ?_ ?_
      | refine LeO.bind ?_ (fun _ => ?_)
set_option maxHeartbeats 8000000 in
set_option maxRecDepth 100000 in
theorem spec_GlobOpens.calls (k : Nat) (a0 : ByteArray) (r : Int) (w : World) (h : spec_GlobOpens.f k a0 = some r) :
    Calls Try.prog 13 #[.string a0] w fun e w' => e = .returned (.int .i64 r) ∧ Drawn0 w w' := by
  have H : (spec_GlobOpens.l0 k a0 1 (wrap64 ((a0.size : Int) - 1))) = some r := h
  clear h
  have H' := Aside0.mk H
  clear H
  go_enter Try.func13, Try.ntmps13
  go_wp2
  go_loopg [3, 4] k (fun kq v3 v4 w' => ∃ (x3_1 : Int) (x4_1 : Int), v3 = .int .i64 x3_1 ∧ v4 = .int .i64 x4_1 ∧ Aside0 (spec_GlobOpens.l0 kq a0 x3_1 x4_1 = some r) ∧ Aside0 (kq ≤ k) ∧ Drawn0 w w')
  case atStart => exact ⟨(1), (wrap64 ((a0.size : Int) - 1)), (by first | rfl | (simp; done) | (simp [*]; done)), (by first | rfl | (simp; done) | (simp [*]; done)), H', ⟨Nat.le_refl _⟩, by repeat (first | exact Drawn0.refl _ | apply Drawn0.step)⟩
  case round =>
    clear H'
    try clear c1
    obtain ⟨x3_1, x4_1, rfl, rfl, HA, HK1, ⟨m1, rfl⟩⟩ := hrel
    cases gk with
    | zero => exact absurd HA.out (by simp [spec_GlobOpens.l0])
    | succ k1 =>
      have H := HA.out
      clear HA
      simp only [spec_GlobOpens.l0] at H
      by_cases c2 : x4_1 ≥ 0
      · rw [if_pos c2] at H
        have c2b0 : decide (0 ≤ x4_1) = true := decide_eq_true c2
        clear c2
        by_cases c3 : 0 ≤ x4_1
        · rw [if_pos c3] at H
          have c3b0 : decide (0 ≤ x4_1) = true := decide_eq_true c3
          clear c3
          by_cases c4 : x4_1 < (a0.size : Int)
          · rw [if_pos c4] at H
            have c4b0 : decide (x4_1 < (a0.size : Int)) = true := decide_eq_true c4
            clear c4
            by_cases c6 : (bt a0 x4_1) = 125
            · rw [if_pos c6] at H
              have c6b0 : ((bt a0 x4_1) == 125) = true := beq_iff_eq.mpr c6
              have c6b1 : ((bt a0 x4_1) != 125) = false := bne_eq_false_iff_eq.mpr c6
              clear c6
              by_cases c7 : (wrap64 (x3_1 + 1)) = 0
              · rw [if_pos c7] at H
                have c7b0 : ((wrap64 (x3_1 + 1)) == 0) = true := beq_iff_eq.mpr c7
                have c7b1 : ((wrap64 (x3_1 + 1)) != 0) = false := bne_eq_false_iff_eq.mpr c7
                clear c7
                obtain rfl := Option.some.inj H
                have p5 : 0 ≤ (x4_1 : Int) := of_decide_eq_true (by first | (with_reducible assumption) | assumption)
                have q5 : x4_1 < (a0.size : Int) := of_decide_eq_true (by first | (with_reducible assumption) | assumption)
                have hx5 := bt_at a0 x4_1
                replace p5 := eq_true p5
                replace q5 := eq_true q5
                go_wp2
                go_ret
                exact ⟨by first | rfl | (simp; done) | (simp [*]; done), by repeat (first | exact Drawn0.refl _ | apply Drawn0.step)⟩
              · rw [if_neg c7] at H
                have c7b0 : ((wrap64 (x3_1 + 1)) == 0) = false := beq_eq_false_iff_ne.mpr c7
                have c7b1 : ((wrap64 (x3_1 + 1)) != 0) = true := bne_iff_ne.mpr c7
                have H' := Aside0.mk H
                clear H
                have p5 : 0 ≤ (x4_1 : Int) := of_decide_eq_true (by first | (with_reducible assumption) | assumption)
                have q5 : x4_1 < (a0.size : Int) := of_decide_eq_true (by first | (with_reducible assumption) | assumption)
                have hx5 := bt_at a0 x4_1
                replace p5 := eq_true p5
                replace q5 := eq_true q5
                go_wp2
                go_roundg k1
                case measure => have := HK1.out; omega
                case rel => exact ⟨(wrap64 (x3_1 + 1)), (wrap64 (x4_1 - 1)), (by first | rfl | (simp; done) | (simp [*]; done)), (by first | rfl | (simp; done) | (simp [*]; done)), H', ⟨by have := HK1.out; omega⟩, by repeat (first | exact Drawn0.refl _ | apply Drawn0.step)⟩
            · rw [if_neg c6] at H
              have c6b0 : ((bt a0 x4_1) == 125) = false := beq_eq_false_iff_ne.mpr c6
              have c6b1 : ((bt a0 x4_1) != 125) = true := bne_iff_ne.mpr c6
              by_cases c8 : (bt a0 x4_1) = 123
              · rw [if_pos c8] at H
                have c8b0 : ((bt a0 x4_1) == 123) = true := beq_iff_eq.mpr c8
                have c8b1 : ((bt a0 x4_1) != 123) = false := bne_eq_false_iff_eq.mpr c8
                clear c8
                by_cases c9 : (wrap64 (x3_1 - 1)) = 0
                · rw [if_pos c9] at H
                  have c9b0 : ((wrap64 (x3_1 - 1)) == 0) = true := beq_iff_eq.mpr c9
                  have c9b1 : ((wrap64 (x3_1 - 1)) != 0) = false := bne_eq_false_iff_eq.mpr c9
                  clear c9
                  obtain rfl := Option.some.inj H
                  have p5 : 0 ≤ (x4_1 : Int) := of_decide_eq_true (by first | (with_reducible assumption) | assumption)
                  have q5 : x4_1 < (a0.size : Int) := of_decide_eq_true (by first | (with_reducible assumption) | assumption)
                  have hx5 := bt_at a0 x4_1
                  replace p5 := eq_true p5
                  replace q5 := eq_true q5
                  go_wp2
                  go_ret
                  exact ⟨by first | rfl | (simp; done) | (simp [*]; done), by repeat (first | exact Drawn0.refl _ | apply Drawn0.step)⟩
                · rw [if_neg c9] at H
                  have c9b0 : ((wrap64 (x3_1 - 1)) == 0) = false := beq_eq_false_iff_ne.mpr c9
                  have c9b1 : ((wrap64 (x3_1 - 1)) != 0) = true := bne_iff_ne.mpr c9
                  have H' := Aside0.mk H
                  clear H
                  have p5 : 0 ≤ (x4_1 : Int) := of_decide_eq_true (by first | (with_reducible assumption) | assumption)
                  have q5 : x4_1 < (a0.size : Int) := of_decide_eq_true (by first | (with_reducible assumption) | assumption)
                  have hx5 := bt_at a0 x4_1
                  replace p5 := eq_true p5
                  replace q5 := eq_true q5
                  go_wp2
                  go_roundg k1
                  case measure => have := HK1.out; omega
                  case rel => exact ⟨(wrap64 (x3_1 - 1)), (wrap64 (x4_1 - 1)), (by first | rfl | (simp; done) | (simp [*]; done)), (by first | rfl | (simp; done) | (simp [*]; done)), H', ⟨by have := HK1.out; omega⟩, by repeat (first | exact Drawn0.refl _ | apply Drawn0.step)⟩
              · rw [if_neg c8] at H
                have c8b0 : ((bt a0 x4_1) == 123) = false := beq_eq_false_iff_ne.mpr c8
                have c8b1 : ((bt a0 x4_1) != 123) = true := bne_iff_ne.mpr c8
                by_cases c10 : x3_1 = 0
                · rw [if_pos c10] at H
                  have c10b0 : (x3_1 == 0) = true := beq_iff_eq.mpr c10
                  have c10b1 : (x3_1 != 0) = false := bne_eq_false_iff_eq.mpr c10
                  clear c10
                  obtain rfl := Option.some.inj H
                  have p5 : 0 ≤ (x4_1 : Int) := of_decide_eq_true (by first | (with_reducible assumption) | assumption)
                  have q5 : x4_1 < (a0.size : Int) := of_decide_eq_true (by first | (with_reducible assumption) | assumption)
                  have hx5 := bt_at a0 x4_1
                  replace p5 := eq_true p5
                  replace q5 := eq_true q5
                  go_wp2
                  go_ret
                  exact ⟨by first | rfl | (simp; done) | (simp [*]; done), by repeat (first | exact Drawn0.refl _ | apply Drawn0.step)⟩
                · rw [if_neg c10] at H
                  have c10b0 : (x3_1 == 0) = false := beq_eq_false_iff_ne.mpr c10
                  have c10b1 : (x3_1 != 0) = true := bne_iff_ne.mpr c10
                  have H' := Aside0.mk H
                  clear H
                  have p5 : 0 ≤ (x4_1 : Int) := of_decide_eq_true (by first | (with_reducible assumption) | assumption)
                  have q5 : x4_1 < (a0.size : Int) := of_decide_eq_true (by first | (with_reducible assumption) | assumption)
                  have hx5 := bt_at a0 x4_1
                  replace p5 := eq_true p5
                  replace q5 := eq_true q5
                  go_wp2
                  go_roundg k1
                  case measure => have := HK1.out; omega
                  case rel => exact ⟨(x3_1), (wrap64 (x4_1 - 1)), (by first | rfl | (simp; done) | (simp [*]; done)), (by first | rfl | (simp; done) | (simp [*]; done)), H', ⟨by have := HK1.out; omega⟩, by repeat (first | exact Drawn0.refl _ | apply Drawn0.step)⟩
          · rw [if_neg c4] at H
            exact absurd H (by simp)
        · rw [if_neg c3] at H
          exact absurd H (by simp)
      · rw [if_neg c2] at H
        have c2b0 : decide (0 ≤ x4_1) = false := decide_eq_false c2
        clear c2
        obtain rfl := Option.some.inj H
        go_wp2
        go_ret
        exact ⟨by first | rfl | (simp; done) | (simp [*]; done), by repeat (first | exact Drawn0.refl _ | apply Drawn0.step)⟩

/-! ### laws_FnGlobOpening: function 5 -/
def laws_FnGlobOpening.l0 : Nat → ByteArray → Int → Option (Bool)
  | 0, _, _ => none
  | k + 1, x0, x3 => if x3 < (x0.size : Int) then (if 0 ≤ x3 then (if (bt x0 x3) = 92 then (some true) else (laws_FnGlobOpening.l0 k x0 (wrap64 (x3 + 1)))) else (none)) else ((impl_GlobOpeningAlt.f k x0).bind fun t103 => ((spec_GlobOpens.f k x0).bind fun t104 => (if t103 = t104 then ((impl_GlobOpeningAlt.f k (⟨#[]⟩ : ByteArray)).bind fun t105 => (some (t105 == (-1)))) else (some false))))
def laws_FnGlobOpening.f (k : Nat) (a0 : ByteArray) : Option (Bool) := if (a0.size : Int) > 2147483647 then (some true) else (laws_FnGlobOpening.l0 k a0 0)
theorem laws_FnGlobOpening.mono_l : ∀ k, (∀ y0 y1, LeO (laws_FnGlobOpening.l0 k y0 y1) (laws_FnGlobOpening.l0 (k + 1) y0 y1))
  | 0 => fun _ _ r h => by simp [laws_FnGlobOpening.l0] at h
  | k + 1 => by
    have ih0 := laws_FnGlobOpening.mono_l k
    · intro y0 y1
      unfold laws_FnGlobOpening.l0
      repeat' first
      | (with_reducible exact ih0 _ _)
      | (with_reducible exact impl_GlobOpeningAlt.mono _ _)
      | (with_reducible exact spec_GlobOpens.mono _ _)
      | (with_reducible exact LeO.refl _)
      | (with_reducible exact LeO.none _)
      | (with_reducible refine LeO.ite ?_ ?_)
      | (with_reducible refine LeO.bind ?_ (fun _ => ?_))
      | exact ih0 _ _
      | exact impl_GlobOpeningAlt.mono _ _
      | exact spec_GlobOpens.mono _ _
      | exact LeO.none _
      | refine LeO.ite ?_ ?_
      | refine LeO.bind ?_ (fun _ => ?_)
theorem laws_FnGlobOpening.mono : ∀ a0 k, LeO (laws_FnGlobOpening.f k a0) (laws_FnGlobOpening.f (k + 1) a0) := by
  intro a0 k
  have ih0 := laws_FnGlobOpening.mono_l k
  unfold laws_FnGlobOpening.f
  repeat' first
      | (with_reducible exact ih0 _ _)
      | (with_reducible exact impl_GlobOpeningAlt.mono _ _)
      | (with_reducible exact spec_GlobOpens.mono _ _)
      | (with_reducible exact LeO.refl _)
      | (with_reducible exact LeO.none _)
      | (with_reducible refine LeO.ite ?_ ?_)
      | (with_reducible refine LeO.bind ?_ (fun _ => ?_))
      | exact ih0 _ _
      | exact impl_GlobOpeningAlt.mono _ _
      | exact spec_GlobOpens.mono _ _
      | exact LeO.none _
      | refine LeO.ite ?_ ?_
      | refine LeO.bind ?_ (fun _ => ?_)
set_option maxHeartbeats 8000000 in
set_option maxRecDepth 100000 in
theorem laws_FnGlobOpening.calls (k : Nat) (a0 : ByteArray) (r : Bool) (w : World) (h : laws_FnGlobOpening.f k a0 = some r) :
    Calls Try.prog 5 #[.string a0] w fun e w' => e = .returned (.bool r) ∧ Drawn0 w w' := by
  have H : (if (a0.size : Int) > 2147483647 then (some true) else (laws_FnGlobOpening.l0 k a0 0)) = some r := h
  clear h
  by_cases c2 : (a0.size : Int) > 2147483647
  · rw [if_pos c2] at H
    have c2b0 : decide (2147483647 < (a0.size : Int)) = true := decide_eq_true c2
    have c2b1 : decide (2147483647 < a0.size) = true := decide_eq_true (by omega)
    clear c2
    obtain rfl := Option.some.inj H
    go_enter Try.func5, Try.ntmps5
    go_wp2
    go_ret
    exact ⟨by first | rfl | (simp; done) | (simp [*]; done), by repeat (first | exact Drawn0.refl _ | apply Drawn0.step)⟩
  · rw [if_neg c2] at H
    have c2b0 : decide (2147483647 < (a0.size : Int)) = false := decide_eq_false c2
    have c2b1 : decide (2147483647 < a0.size) = false := decide_eq_false (by omega)
    clear c2
    have H' := Aside0.mk H
    clear H
    go_enter Try.func5, Try.ntmps5
    go_wp2
    go_loopg [3] k (fun kq v3 w' => ∃ (x3_1 : Int), v3 = .int .i64 x3_1 ∧ Aside0 (laws_FnGlobOpening.l0 kq a0 x3_1 = some r) ∧ Aside0 (kq ≤ k) ∧ Drawn0 w w')
    case atStart => exact ⟨(0), (by first | rfl | (simp; done) | (simp [*]; done)), H', ⟨Nat.le_refl _⟩, by repeat (first | exact Drawn0.refl _ | apply Drawn0.step)⟩
    case round =>
      clear H'
      try clear c2
      try clear c2b0
      try clear c2b1
      try clear p2
      obtain ⟨x3_1, rfl, HA, HK1, ⟨m1, rfl⟩⟩ := hrel
      cases gk with
      | zero => exact absurd HA.out (by simp [laws_FnGlobOpening.l0])
      | succ k1 =>
        have H := HA.out
        clear HA
        simp only [laws_FnGlobOpening.l0] at H
        by_cases c3 : x3_1 < (a0.size : Int)
        · rw [if_pos c3] at H
          have c3b0 : decide (x3_1 < (a0.size : Int)) = true := decide_eq_true c3
          clear c3
          by_cases c4 : 0 ≤ x3_1
          · rw [if_pos c4] at H
            have c4b0 : decide (0 ≤ x3_1) = true := decide_eq_true c4
            clear c4
            by_cases c6 : (bt a0 x3_1) = 92
            · rw [if_pos c6] at H
              have c6b0 : ((bt a0 x3_1) == 92) = true := beq_iff_eq.mpr c6
              have c6b1 : ((bt a0 x3_1) != 92) = false := bne_eq_false_iff_eq.mpr c6
              clear c6
              obtain rfl := Option.some.inj H
              have p5 : 0 ≤ (x3_1 : Int) := of_decide_eq_true (by first | (with_reducible assumption) | assumption)
              have q5 : x3_1 < (a0.size : Int) := of_decide_eq_true (by first | (with_reducible assumption) | assumption)
              have hx5 := bt_at a0 x3_1
              replace p5 := eq_true p5
              replace q5 := eq_true q5
              go_wp2
              go_ret
              exact ⟨by first | rfl | (simp; done) | (simp [*]; done), by repeat (first | exact Drawn0.refl _ | apply Drawn0.step)⟩
            · rw [if_neg c6] at H
              have c6b0 : ((bt a0 x3_1) == 92) = false := beq_eq_false_iff_ne.mpr c6
              have c6b1 : ((bt a0 x3_1) != 92) = true := bne_iff_ne.mpr c6
              have H' := Aside0.mk H
              clear H
              have p5 : 0 ≤ (x3_1 : Int) := of_decide_eq_true (by first | (with_reducible assumption) | assumption)
              have q5 : x3_1 < (a0.size : Int) := of_decide_eq_true (by first | (with_reducible assumption) | assumption)
              have hx5 := bt_at a0 x3_1
              replace p5 := eq_true p5
              replace q5 := eq_true q5
              go_wp2
              go_roundg k1
              case measure => have := HK1.out; omega
              case rel => exact ⟨(wrap64 (x3_1 + 1)), (by first | rfl | (simp; done) | (simp [*]; done)), H', ⟨by have := HK1.out; omega⟩, by repeat (first | exact Drawn0.refl _ | apply Drawn0.step)⟩
          · rw [if_neg c4] at H
            exact absurd H (by simp)
        · rw [if_neg c3] at H
          have c3b0 : decide (x3_1 < (a0.size : Int)) = false := decide_eq_false c3
          clear c3
          replace H := Option.bind_eq_some_iff.mp H
          obtain ⟨t103, A70, H⟩ := H
          replace H : ((spec_GlobOpens.f k1 a0).bind fun t104 => (if t103 = t104 then ((impl_GlobOpeningAlt.f k1 (⟨#[]⟩ : ByteArray)).bind fun t105 => (some (t105 == (-1)))) else (some false))) = some r := H
          have A7 := Aside0.mk A70
          clear A70
          replace H := Option.bind_eq_some_iff.mp H
          obtain ⟨t104, A80, H⟩ := H
          replace H : (if t103 = t104 then ((impl_GlobOpeningAlt.f k1 (⟨#[]⟩ : ByteArray)).bind fun t105 => (some (t105 == (-1)))) else (some false)) = some r := H
          have A8 := Aside0.mk A80
          clear A80
          by_cases c9 : t103 = t104
          · rw [if_pos c9] at H
            have c9b0 : (t103 == t104) = true := beq_iff_eq.mpr c9
            have c9b1 : (t103 != t104) = false := bne_eq_false_iff_eq.mpr c9
            clear c9
            replace H := Option.bind_eq_some_iff.mp H
            obtain ⟨t105, A100, H⟩ := H
            replace H : (some (t105 == (-1))) = some r := H
            have A10 := Aside0.mk A100
            clear A100
            obtain rfl := Option.some.inj H
            go_wp2_with (first | ((with_reducible refine gate_callee (f := 12) rfl ?_); refine goesL_ (some 18) rfl rfl Try.func12 (by kernel_rfl) rfl #[.string a0] rfl (by (try simp only [List.map_toArray, List.map_cons, List.map_nil]); first | done | rfl | (simp only [List.length_drop, List.length_take]; rfl)) ?_; (with_reducible refine (impl_GlobOpeningAlt.calls k1 a0 t103 _ A7.out).mono ?_); rintro e w' ⟨rfl, ⟨nd, rfl⟩⟩; refine ⟨_, rfl, ?_⟩) | ((with_reducible refine gate_callee (f := 13) rfl ?_); refine goesL_ (some 20) rfl rfl Try.func13 (by kernel_rfl) rfl #[.string a0] rfl (by (try simp only [List.map_toArray, List.map_cons, List.map_nil]); first | done | rfl | (simp only [List.length_drop, List.length_take]; rfl)) ?_; (with_reducible refine (spec_GlobOpens.calls k1 a0 t104 _ A8.out).mono ?_); rintro e w' ⟨rfl, ⟨nd, rfl⟩⟩; refine ⟨_, rfl, ?_⟩) | (go_at_call 12; (with_reducible refine (impl_GlobOpeningAlt.calls k1 (⟨#[]⟩ : ByteArray) t105 _ A10.out).mono ?_); rintro e w' ⟨rfl, ⟨nd, rfl⟩⟩))
            go_ret
            exact ⟨by first | rfl | (simp; done) | (simp [*]; done), by repeat (first | exact Drawn0.refl _ | apply Drawn0.step)⟩
          · rw [if_neg c9] at H
            have c9b0 : (t103 == t104) = false := beq_eq_false_iff_ne.mpr c9
            have c9b1 : (t103 != t104) = true := bne_iff_ne.mpr c9
            obtain rfl := Option.some.inj H
            go_wp2_with (first | ((with_reducible refine gate_callee (f := 12) rfl ?_); refine goesL_ (some 18) rfl rfl Try.func12 (by kernel_rfl) rfl #[.string a0] rfl (by (try simp only [List.map_toArray, List.map_cons, List.map_nil]); first | done | rfl | (simp only [List.length_drop, List.length_take]; rfl)) ?_; (with_reducible refine (impl_GlobOpeningAlt.calls k1 a0 t103 _ A7.out).mono ?_); rintro e w' ⟨rfl, ⟨nd, rfl⟩⟩; refine ⟨_, rfl, ?_⟩) | ((with_reducible refine gate_callee (f := 13) rfl ?_); refine goesL_ (some 20) rfl rfl Try.func13 (by kernel_rfl) rfl #[.string a0] rfl (by (try simp only [List.map_toArray, List.map_cons, List.map_nil]); first | done | rfl | (simp only [List.length_drop, List.length_take]; rfl)) ?_; (with_reducible refine (spec_GlobOpens.calls k1 a0 t104 _ A8.out).mono ?_); rintro e w' ⟨rfl, ⟨nd, rfl⟩⟩; refine ⟨_, rfl, ?_⟩))
            go_ret
            exact ⟨by first | rfl | (simp; done) | (simp [*]; done), by repeat (first | exact Drawn0.refl _ | apply Drawn0.step)⟩

/-- THE ONE PURE STATEMENT of laws_FnGlobOpening: yours. -/
def laws_FnGlobOpening.Pure : Prop := ∀ (a0 : ByteArray), a0.size ≤ 140737488351232 → ∃ k, laws_FnGlobOpening.f k a0 = some true
theorem laws_FnGlobOpening.walk (P : laws_FnGlobOpening.Pure) (a0 : ByteArray) (w : World) (w0 : a0.size ≤ 140737488351232) :
    Calls Try.prog 5 #[.string a0] w fun e w' => e = .returned (.bool true) ∧ Below w.heap.size w w' := by
  obtain ⟨k, h⟩ := P a0 w0
  refine (laws_FnGlobOpening.calls k a0 true w h).mono ?_
  rintro e w' ⟨rfl, hd⟩
  exact ⟨rfl, hd.below⟩

end Go.Proofs.Ytdhfpgbidlanaaa.PFnGlobOpening
