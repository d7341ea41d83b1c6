/- The machine's side of a law, as the kit's print writes it; of the functions that the print doesn't cover this session's own contracts stand in it: no condition. -/
import Derived.Test.YtmnjkdbopafkfaaIntJ
import Derived.Test.YtmnjkdbopafkfaaQFnOverlapsPartsx0
namespace Go.Proofs.Ytmnjkdbopafkfaa.QFnOverlapsParts
open Go.RowKit Go.Proofs.YtmnjkdbopafkfaaW.PrintWords Go.Proofs.YtmnjkdbopafkfaaW.PrintLast Go.Proofs.YtmnjkdbopafkfaaW.PrintMore
attribute [local go_sem] max2_int min2_int max_two min_two max_three min_three max_four min_four   -- for this text's walks alone
set_option linter.unusedVariables false
set_option linter.unusedSimpArgs false

/-! ### spec_Proper: function 10 -/
def spec_Proper.l0 : Nat → List (S25) → Int → Option (Bool)
  | 0, _, _ => none
  | k + 1, x0, x3 => if x3 < (x0.length : Int) then (if 0 ≤ x3 then (if ((rd_T25 x0 x3).f0) = 0 then (if ((rd_T25 x0 x3).f1) ≥ ((rd_T25 x0 x3).f2) then (some false) else (spec_Proper.l0 k x0 (wrap64 (x3 + 1)))) else (if ((rd_T25 x0 x3).f0) = 1 then (if ((rd_T25 x0 x3).f1) ≥ ((rd_T25 x0 x3).f2) then (some false) else (spec_Proper.l0 k x0 (wrap64 (x3 + 1)))) else (if ((rd_T25 x0 x3).f0) = 4 then (if ((rd_T25 x0 x3).f1) ≥ ((rd_T25 x0 x3).f2) then (some false) else (spec_Proper.l0 k x0 (wrap64 (x3 + 1)))) else (spec_Proper.l0 k x0 (wrap64 (x3 + 1)))))) else (none)) else (some true)
def spec_Proper.f (k : Nat) (l0 : List (S25)) : Option (Bool) := spec_Proper.l0 k l0 0
theorem spec_Proper.mono_l : ∀ k, (∀ y0 y1, LeO (spec_Proper.l0 k y0 y1) (spec_Proper.l0 (k + 1) y0 y1))
  | 0 => fun _ _ r h => by simp [spec_Proper.l0] at h
  | k + 1 => by
    have ih0 := spec_Proper.mono_l k
    · intro y0 y1
      unfold spec_Proper.l0
      repeat' first
      | (with_reducible exact ih0 _ _)
      | (with_reducible exact LeO.refl _)
      | (with_reducible exact LeO.none _)
      | (with_reducible refine LeO.ite ?_ ?_)
      | (with_reducible refine LeO.bind ?_ (fun _ => ?_))
      | exact ih0 _ _
      | exact LeO.none _
      | refine LeO.ite ?_ ?_
      | refine LeO.bind ?_ (fun _ => ?_)
theorem spec_Proper.mono : ∀ a0 k, LeO (spec_Proper.f k a0) (spec_Proper.f (k + 1) a0) := by
  intro a0 k
  have ih0 := spec_Proper.mono_l k
  unfold spec_Proper.f
  repeat' first
      | (with_reducible exact ih0 _ _)
      | (with_reducible exact LeO.refl _)
      | (with_reducible exact LeO.none _)
      | (with_reducible refine LeO.ite ?_ ?_)
      | (with_reducible refine LeO.bind ?_ (fun _ => ?_))
      | exact ih0 _ _
      | exact LeO.none _
      | refine LeO.ite ?_ ?_
      | refine LeO.bind ?_ (fun _ => ?_)
set_option maxHeartbeats 8000000 in
set_option maxRecDepth 100000 in
theorem spec_Proper.calls (k : Nat) (A0 : Option Addr) (c0 : Nat) (l0 : List (S25)) (r : Bool) (w : World) (hr0 : Kd.C k25 w A0 l0.length l0) (hc0 : l0.length ≤ c0) (h : spec_Proper.f k l0 = some r) :
    Calls Try.prog 10 #[.slice A0 l0.length c0] w fun e w' => e = .returned (.bool r) ∧ Drawn0 w w' := by
  have HR0 := Aside0.mk hr0
  have HC0 := Aside0.mk hc0
  clear hr0 hc0
  have H : (spec_Proper.l0 k l0 0) = some r := h
  clear h
  have H' := Aside0.mk H
  clear H
  go_enter Try.func10, Try.ntmps10
  go_wp2
  repeat (go_quiet (fail); try go_wp2)
  go_loopg [3] k (fun kq v3 w' => ∃ (x3_1 : Int), v3 = .int .i64 x3_1 ∧ Aside0 (spec_Proper.l0 kq l0 x3_1 = some r) ∧ Aside0 (kq ≤ k) ∧ Drawn0 w w')
  case atStart => exact ⟨(0), (by first | rfl | (simp; done) | (simp [*]; done)), H', ⟨Nat.le_refl _⟩, by repeat (first | exact Drawn0.refl _ | apply Drawn0.step)⟩
  case round =>
    clear H'
    try clear c1
    obtain ⟨x3_1, rfl, HA, HK1, ⟨m1, rfl⟩⟩ := hrel
    cases gk with
    | zero => exact absurd HA.out (by simp [spec_Proper.l0])
    | succ k1 =>
      have H := HA.out
      clear HA
      simp only [spec_Proper.l0] at H
      by_cases c2 : x3_1 < (l0.length : Int)
      · rw [if_pos c2] at H
        have c2b0 : decide (x3_1 < (l0.length : Int)) = true := decide_eq_true c2
        clear c2
        by_cases c3 : 0 ≤ x3_1
        · rw [if_pos c3] at H
          have c3b0 : decide (0 ≤ x3_1) = true := decide_eq_true c3
          clear c3
          by_cases c4 : ((rd_T25 l0 x3_1).f0) = 0
          · rw [if_pos c4] at H
            have c4b0 : (((rd_T25 l0 x3_1).f0) == 0) = true := beq_iff_eq.mpr c4
            have c4b1 : (((rd_T25 l0 x3_1).f0) != 0) = false := bne_eq_false_iff_eq.mpr c4
            clear c4
            by_cases c5 : ((rd_T25 l0 x3_1).f1) ≥ ((rd_T25 l0 x3_1).f2)
            · rw [if_pos c5] at H
              have c5b0 : decide (((rd_T25 l0 x3_1).f2) ≤ ((rd_T25 l0 x3_1).f1)) = true := decide_eq_true c5
              clear c5
              obtain rfl := Option.some.inj H
              have p101 : 0 ≤ (x3_1 : Int) := of_decide_eq_true (by first | (with_reducible assumption) | assumption)
              have q101 : x3_1 < (l0.length : Int) := of_decide_eq_true (by first | (with_reducible assumption) | assumption)
              obtain ⟨ad101, e101, hx101_0, hx101_1, hx101_2, hx101_3⟩ := at_T25 HR0.out x3_1 p101 q101
              cases e101
              replace p101 := eq_true p101
              replace q101 := eq_true q101
              have p102 : 0 ≤ (x3_1 : Int) := of_decide_eq_true (by first | (with_reducible assumption) | assumption)
              have q102 : x3_1 < (l0.length : Int) := of_decide_eq_true (by first | (with_reducible assumption) | assumption)
              obtain ⟨ad102, e102, hx102_0, hx102_1, hx102_2, hx102_3⟩ := at_T25 HR0.out x3_1 p102 q102
              obtain rfl : ad101 = ad102 := (by injection e102)
              replace p102 := eq_true p102
              replace q102 := eq_true q102
              have p103 : 0 ≤ (x3_1 : Int) := of_decide_eq_true (by first | (with_reducible assumption) | assumption)
              have q103 : x3_1 < (l0.length : Int) := of_decide_eq_true (by first | (with_reducible assumption) | assumption)
              obtain ⟨ad103, e103, hx103_0, hx103_1, hx103_2, hx103_3⟩ := at_T25 HR0.out x3_1 p103 q103
              obtain rfl : ad101 = ad103 := (by injection e103)
              replace p103 := eq_true p103
              replace q103 := eq_true q103
              go_wp2
              repeat (go_quiet (fail); try go_wp2)
              go_ret
              exact ⟨by first | rfl | (simp; done) | (simp [*]; done), by repeat (first | exact Drawn0.refl _ | apply Drawn0.step)⟩
            · rw [if_neg c5] at H
              have c5b0 : decide (((rd_T25 l0 x3_1).f2) ≤ ((rd_T25 l0 x3_1).f1)) = false := decide_eq_false c5
              clear c5
              have H' := Aside0.mk H
              clear H
              have p101 : 0 ≤ (x3_1 : Int) := of_decide_eq_true (by first | (with_reducible assumption) | assumption)
              have q101 : x3_1 < (l0.length : Int) := of_decide_eq_true (by first | (with_reducible assumption) | assumption)
              obtain ⟨ad101, e101, hx101_0, hx101_1, hx101_2, hx101_3⟩ := at_T25 HR0.out x3_1 p101 q101
              cases e101
              replace p101 := eq_true p101
              replace q101 := eq_true q101
              have p102 : 0 ≤ (x3_1 : Int) := of_decide_eq_true (by first | (with_reducible assumption) | assumption)
              have q102 : x3_1 < (l0.length : Int) := of_decide_eq_true (by first | (with_reducible assumption) | assumption)
              obtain ⟨ad102, e102, hx102_0, hx102_1, hx102_2, hx102_3⟩ := at_T25 HR0.out x3_1 p102 q102
              obtain rfl : ad101 = ad102 := (by injection e102)
              replace p102 := eq_true p102
              replace q102 := eq_true q102
              have p103 : 0 ≤ (x3_1 : Int) := of_decide_eq_true (by first | (with_reducible assumption) | assumption)
              have q103 : x3_1 < (l0.length : Int) := of_decide_eq_true (by first | (with_reducible assumption) | assumption)
              obtain ⟨ad103, e103, hx103_0, hx103_1, hx103_2, hx103_3⟩ := at_T25 HR0.out x3_1 p103 q103
              obtain rfl : ad101 = ad103 := (by injection e103)
              replace p103 := eq_true p103
              replace q103 := eq_true q103
              go_wp2
              repeat (go_quiet (fail); try go_wp2)
              go_roundg k1
              case measure => have := HK1.out; omega
              case rel => exact ⟨(wrap64 (x3_1 + 1)), (by first | rfl | (simp; done) | (simp [*]; done)), H', ⟨by have := HK1.out; omega⟩, by repeat (first | exact Drawn0.refl _ | apply Drawn0.step)⟩
          · rw [if_neg c4] at H
            have c4b0 : (((rd_T25 l0 x3_1).f0) == 0) = false := beq_eq_false_iff_ne.mpr c4
            have c4b1 : (((rd_T25 l0 x3_1).f0) != 0) = true := bne_iff_ne.mpr c4
            by_cases c6 : ((rd_T25 l0 x3_1).f0) = 1
            · rw [if_pos c6] at H
              have c6b0 : (((rd_T25 l0 x3_1).f0) == 1) = true := beq_iff_eq.mpr c6
              have c6b1 : (((rd_T25 l0 x3_1).f0) != 1) = false := bne_eq_false_iff_eq.mpr c6
              clear c6
              by_cases c7 : ((rd_T25 l0 x3_1).f1) ≥ ((rd_T25 l0 x3_1).f2)
              · rw [if_pos c7] at H
                have c7b0 : decide (((rd_T25 l0 x3_1).f2) ≤ ((rd_T25 l0 x3_1).f1)) = true := decide_eq_true c7
                clear c7
                obtain rfl := Option.some.inj H
                have p101 : 0 ≤ (x3_1 : Int) := of_decide_eq_true (by first | (with_reducible assumption) | assumption)
                have q101 : x3_1 < (l0.length : Int) := of_decide_eq_true (by first | (with_reducible assumption) | assumption)
                obtain ⟨ad101, e101, hx101_0, hx101_1, hx101_2, hx101_3⟩ := at_T25 HR0.out x3_1 p101 q101
                cases e101
                replace p101 := eq_true p101
                replace q101 := eq_true q101
                have p104 : 0 ≤ (x3_1 : Int) := of_decide_eq_true (by first | (with_reducible assumption) | assumption)
                have q104 : x3_1 < (l0.length : Int) := of_decide_eq_true (by first | (with_reducible assumption) | assumption)
                obtain ⟨ad104, e104, hx104_0, hx104_1, hx104_2, hx104_3⟩ := at_T25 HR0.out x3_1 p104 q104
                obtain rfl : ad101 = ad104 := (by injection e104)
                replace p104 := eq_true p104
                replace q104 := eq_true q104
                have p105 : 0 ≤ (x3_1 : Int) := of_decide_eq_true (by first | (with_reducible assumption) | assumption)
                have q105 : x3_1 < (l0.length : Int) := of_decide_eq_true (by first | (with_reducible assumption) | assumption)
                obtain ⟨ad105, e105, hx105_0, hx105_1, hx105_2, hx105_3⟩ := at_T25 HR0.out x3_1 p105 q105
                obtain rfl : ad101 = ad105 := (by injection e105)
                replace p105 := eq_true p105
                replace q105 := eq_true q105
                have p106 : 0 ≤ (x3_1 : Int) := of_decide_eq_true (by first | (with_reducible assumption) | assumption)
                have q106 : x3_1 < (l0.length : Int) := of_decide_eq_true (by first | (with_reducible assumption) | assumption)
                obtain ⟨ad106, e106, hx106_0, hx106_1, hx106_2, hx106_3⟩ := at_T25 HR0.out x3_1 p106 q106
                obtain rfl : ad101 = ad106 := (by injection e106)
                replace p106 := eq_true p106
                replace q106 := eq_true q106
                go_wp2
                repeat (go_quiet (fail); try go_wp2)
                go_ret
                exact ⟨by first | rfl | (simp; done) | (simp [*]; done), by repeat (first | exact Drawn0.refl _ | apply Drawn0.step)⟩
              · rw [if_neg c7] at H
                have c7b0 : decide (((rd_T25 l0 x3_1).f2) ≤ ((rd_T25 l0 x3_1).f1)) = false := decide_eq_false c7
                clear c7
                have H' := Aside0.mk H
                clear H
                have p101 : 0 ≤ (x3_1 : Int) := of_decide_eq_true (by first | (with_reducible assumption) | assumption)
                have q101 : x3_1 < (l0.length : Int) := of_decide_eq_true (by first | (with_reducible assumption) | assumption)
                obtain ⟨ad101, e101, hx101_0, hx101_1, hx101_2, hx101_3⟩ := at_T25 HR0.out x3_1 p101 q101
                cases e101
                replace p101 := eq_true p101
                replace q101 := eq_true q101
                have p104 : 0 ≤ (x3_1 : Int) := of_decide_eq_true (by first | (with_reducible assumption) | assumption)
                have q104 : x3_1 < (l0.length : Int) := of_decide_eq_true (by first | (with_reducible assumption) | assumption)
                obtain ⟨ad104, e104, hx104_0, hx104_1, hx104_2, hx104_3⟩ := at_T25 HR0.out x3_1 p104 q104
                obtain rfl : ad101 = ad104 := (by injection e104)
                replace p104 := eq_true p104
                replace q104 := eq_true q104
                have p105 : 0 ≤ (x3_1 : Int) := of_decide_eq_true (by first | (with_reducible assumption) | assumption)
                have q105 : x3_1 < (l0.length : Int) := of_decide_eq_true (by first | (with_reducible assumption) | assumption)
                obtain ⟨ad105, e105, hx105_0, hx105_1, hx105_2, hx105_3⟩ := at_T25 HR0.out x3_1 p105 q105
                obtain rfl : ad101 = ad105 := (by injection e105)
                replace p105 := eq_true p105
                replace q105 := eq_true q105
                have p106 : 0 ≤ (x3_1 : Int) := of_decide_eq_true (by first | (with_reducible assumption) | assumption)
                have q106 : x3_1 < (l0.length : Int) := of_decide_eq_true (by first | (with_reducible assumption) | assumption)
                obtain ⟨ad106, e106, hx106_0, hx106_1, hx106_2, hx106_3⟩ := at_T25 HR0.out x3_1 p106 q106
                obtain rfl : ad101 = ad106 := (by injection e106)
                replace p106 := eq_true p106
                replace q106 := eq_true q106
                go_wp2
                repeat (go_quiet (fail); try go_wp2)
                go_roundg k1
                case measure => have := HK1.out; omega
                case rel => exact ⟨(wrap64 (x3_1 + 1)), (by first | rfl | (simp; done) | (simp [*]; done)), H', ⟨by have := HK1.out; omega⟩, by repeat (first | exact Drawn0.refl _ | apply Drawn0.step)⟩
            · rw [if_neg c6] at H
              have c6b0 : (((rd_T25 l0 x3_1).f0) == 1) = false := beq_eq_false_iff_ne.mpr c6
              have c6b1 : (((rd_T25 l0 x3_1).f0) != 1) = true := bne_iff_ne.mpr c6
              by_cases c8 : ((rd_T25 l0 x3_1).f0) = 4
              · rw [if_pos c8] at H
                have c8b0 : (((rd_T25 l0 x3_1).f0) == 4) = true := beq_iff_eq.mpr c8
                have c8b1 : (((rd_T25 l0 x3_1).f0) != 4) = false := bne_eq_false_iff_eq.mpr c8
                clear c8
                by_cases c9 : ((rd_T25 l0 x3_1).f1) ≥ ((rd_T25 l0 x3_1).f2)
                · rw [if_pos c9] at H
                  have c9b0 : decide (((rd_T25 l0 x3_1).f2) ≤ ((rd_T25 l0 x3_1).f1)) = true := decide_eq_true c9
                  clear c9
                  obtain rfl := Option.some.inj H
                  have p101 : 0 ≤ (x3_1 : Int) := of_decide_eq_true (by first | (with_reducible assumption) | assumption)
                  have q101 : x3_1 < (l0.length : Int) := of_decide_eq_true (by first | (with_reducible assumption) | assumption)
                  obtain ⟨ad101, e101, hx101_0, hx101_1, hx101_2, hx101_3⟩ := at_T25 HR0.out x3_1 p101 q101
                  cases e101
                  replace p101 := eq_true p101
                  replace q101 := eq_true q101
                  have p104 : 0 ≤ (x3_1 : Int) := of_decide_eq_true (by first | (with_reducible assumption) | assumption)
                  have q104 : x3_1 < (l0.length : Int) := of_decide_eq_true (by first | (with_reducible assumption) | assumption)
                  obtain ⟨ad104, e104, hx104_0, hx104_1, hx104_2, hx104_3⟩ := at_T25 HR0.out x3_1 p104 q104
                  obtain rfl : ad101 = ad104 := (by injection e104)
                  replace p104 := eq_true p104
                  replace q104 := eq_true q104
                  have p107 : 0 ≤ (x3_1 : Int) := of_decide_eq_true (by first | (with_reducible assumption) | assumption)
                  have q107 : x3_1 < (l0.length : Int) := of_decide_eq_true (by first | (with_reducible assumption) | assumption)
                  obtain ⟨ad107, e107, hx107_0, hx107_1, hx107_2, hx107_3⟩ := at_T25 HR0.out x3_1 p107 q107
                  obtain rfl : ad101 = ad107 := (by injection e107)
                  replace p107 := eq_true p107
                  replace q107 := eq_true q107
                  have p108 : 0 ≤ (x3_1 : Int) := of_decide_eq_true (by first | (with_reducible assumption) | assumption)
                  have q108 : x3_1 < (l0.length : Int) := of_decide_eq_true (by first | (with_reducible assumption) | assumption)
                  obtain ⟨ad108, e108, hx108_0, hx108_1, hx108_2, hx108_3⟩ := at_T25 HR0.out x3_1 p108 q108
                  obtain rfl : ad101 = ad108 := (by injection e108)
                  replace p108 := eq_true p108
                  replace q108 := eq_true q108
                  have p109 : 0 ≤ (x3_1 : Int) := of_decide_eq_true (by first | (with_reducible assumption) | assumption)
                  have q109 : x3_1 < (l0.length : Int) := of_decide_eq_true (by first | (with_reducible assumption) | assumption)
                  obtain ⟨ad109, e109, hx109_0, hx109_1, hx109_2, hx109_3⟩ := at_T25 HR0.out x3_1 p109 q109
                  obtain rfl : ad101 = ad109 := (by injection e109)
                  replace p109 := eq_true p109
                  replace q109 := eq_true q109
                  go_wp2
                  repeat (go_quiet (fail); try go_wp2)
                  go_ret
                  exact ⟨by first | rfl | (simp; done) | (simp [*]; done), by repeat (first | exact Drawn0.refl _ | apply Drawn0.step)⟩
                · rw [if_neg c9] at H
                  have c9b0 : decide (((rd_T25 l0 x3_1).f2) ≤ ((rd_T25 l0 x3_1).f1)) = false := decide_eq_false c9
                  clear c9
                  have H' := Aside0.mk H
                  clear H
                  have p101 : 0 ≤ (x3_1 : Int) := of_decide_eq_true (by first | (with_reducible assumption) | assumption)
                  have q101 : x3_1 < (l0.length : Int) := of_decide_eq_true (by first | (with_reducible assumption) | assumption)
                  obtain ⟨ad101, e101, hx101_0, hx101_1, hx101_2, hx101_3⟩ := at_T25 HR0.out x3_1 p101 q101
                  cases e101
                  replace p101 := eq_true p101
                  replace q101 := eq_true q101
                  have p104 : 0 ≤ (x3_1 : Int) := of_decide_eq_true (by first | (with_reducible assumption) | assumption)
                  have q104 : x3_1 < (l0.length : Int) := of_decide_eq_true (by first | (with_reducible assumption) | assumption)
                  obtain ⟨ad104, e104, hx104_0, hx104_1, hx104_2, hx104_3⟩ := at_T25 HR0.out x3_1 p104 q104
                  obtain rfl : ad101 = ad104 := (by injection e104)
                  replace p104 := eq_true p104
                  replace q104 := eq_true q104
                  have p107 : 0 ≤ (x3_1 : Int) := of_decide_eq_true (by first | (with_reducible assumption) | assumption)
                  have q107 : x3_1 < (l0.length : Int) := of_decide_eq_true (by first | (with_reducible assumption) | assumption)
                  obtain ⟨ad107, e107, hx107_0, hx107_1, hx107_2, hx107_3⟩ := at_T25 HR0.out x3_1 p107 q107
                  obtain rfl : ad101 = ad107 := (by injection e107)
                  replace p107 := eq_true p107
                  replace q107 := eq_true q107
                  have p108 : 0 ≤ (x3_1 : Int) := of_decide_eq_true (by first | (with_reducible assumption) | assumption)
                  have q108 : x3_1 < (l0.length : Int) := of_decide_eq_true (by first | (with_reducible assumption) | assumption)
                  obtain ⟨ad108, e108, hx108_0, hx108_1, hx108_2, hx108_3⟩ := at_T25 HR0.out x3_1 p108 q108
                  obtain rfl : ad101 = ad108 := (by injection e108)
                  replace p108 := eq_true p108
                  replace q108 := eq_true q108
                  have p109 : 0 ≤ (x3_1 : Int) := of_decide_eq_true (by first | (with_reducible assumption) | assumption)
                  have q109 : x3_1 < (l0.length : Int) := of_decide_eq_true (by first | (with_reducible assumption) | assumption)
                  obtain ⟨ad109, e109, hx109_0, hx109_1, hx109_2, hx109_3⟩ := at_T25 HR0.out x3_1 p109 q109
                  obtain rfl : ad101 = ad109 := (by injection e109)
                  replace p109 := eq_true p109
                  replace q109 := eq_true q109
                  go_wp2
                  repeat (go_quiet (fail); try go_wp2)
                  go_roundg k1
                  case measure => have := HK1.out; omega
                  case rel => exact ⟨(wrap64 (x3_1 + 1)), (by first | rfl | (simp; done) | (simp [*]; done)), H', ⟨by have := HK1.out; omega⟩, by repeat (first | exact Drawn0.refl _ | apply Drawn0.step)⟩
              · rw [if_neg c8] at H
                have c8b0 : (((rd_T25 l0 x3_1).f0) == 4) = false := beq_eq_false_iff_ne.mpr c8
                have c8b1 : (((rd_T25 l0 x3_1).f0) != 4) = true := bne_iff_ne.mpr c8
                have H' := Aside0.mk H
                clear H
                have p101 : 0 ≤ (x3_1 : Int) := of_decide_eq_true (by first | (with_reducible assumption) | assumption)
                have q101 : x3_1 < (l0.length : Int) := of_decide_eq_true (by first | (with_reducible assumption) | assumption)
                obtain ⟨ad101, e101, hx101_0, hx101_1, hx101_2, hx101_3⟩ := at_T25 HR0.out x3_1 p101 q101
                cases e101
                replace p101 := eq_true p101
                replace q101 := eq_true q101
                have p104 : 0 ≤ (x3_1 : Int) := of_decide_eq_true (by first | (with_reducible assumption) | assumption)
                have q104 : x3_1 < (l0.length : Int) := of_decide_eq_true (by first | (with_reducible assumption) | assumption)
                obtain ⟨ad104, e104, hx104_0, hx104_1, hx104_2, hx104_3⟩ := at_T25 HR0.out x3_1 p104 q104
                obtain rfl : ad101 = ad104 := (by injection e104)
                replace p104 := eq_true p104
                replace q104 := eq_true q104
                have p107 : 0 ≤ (x3_1 : Int) := of_decide_eq_true (by first | (with_reducible assumption) | assumption)
                have q107 : x3_1 < (l0.length : Int) := of_decide_eq_true (by first | (with_reducible assumption) | assumption)
                obtain ⟨ad107, e107, hx107_0, hx107_1, hx107_2, hx107_3⟩ := at_T25 HR0.out x3_1 p107 q107
                obtain rfl : ad101 = ad107 := (by injection e107)
                replace p107 := eq_true p107
                replace q107 := eq_true q107
                go_wp2
                repeat (go_quiet (fail); try go_wp2)
                go_roundg k1
                case measure => have := HK1.out; omega
                case rel => exact ⟨(wrap64 (x3_1 + 1)), (by first | rfl | (simp; done) | (simp [*]; done)), H', ⟨by have := HK1.out; omega⟩, by repeat (first | exact Drawn0.refl _ | apply Drawn0.step)⟩
        · rw [if_neg c3] at H
          exact absurd H (by simp)
      · rw [if_neg c2] at H
        have c2b0 : decide (x3_1 < (l0.length : Int)) = false := decide_eq_false c2
        clear c2
        obtain rfl := Option.some.inj H
        go_wp2
        repeat (go_quiet (fail); try go_wp2)
        go_ret
        exact ⟨by first | rfl | (simp; done) | (simp [*]; done), by repeat (first | exact Drawn0.refl _ | apply Drawn0.step)⟩

-- NOT PRINTED: function 54 (interval_newKV_int_int)

-- NOT PRINTED: function 58 (interval_node_int_int_getHeight)

/-! ### zgeneric_Max_int: function 70 -/
def zgeneric_Max_int.f (a0 : Int) (a1 : Int) : Option (Int) := if a0 > a1 then (some a0) else (some a1)
set_option maxHeartbeats 8000000 in
set_option maxRecDepth 100000 in
theorem zgeneric_Max_int.calls (a0 : Int) (a1 : Int) (r : Int) (w : World) (h : zgeneric_Max_int.f a0 a1 = some r) :
    Calls Try.prog 70 #[.int .i64 a0, .int .i64 a1] w fun e w' => e = .returned (.int .i64 r) ∧ Drawn0 w w' := by
  have H : (if a0 > a1 then (some a0) else (some a1)) = some r := h
  clear h
  by_cases c3 : a0 > a1
  · rw [if_pos c3] at H
    have c3b0 : decide (a1 < a0) = true := decide_eq_true c3
    clear c3
    obtain rfl := Option.some.inj H
    go_enter Try.func70, Try.ntmps70
    go_wp2
    go_ret
    exact ⟨by first | rfl | (simp; done) | (simp [*]; done), by repeat (first | exact Drawn0.refl _ | apply Drawn0.step)⟩
  · rw [if_neg c3] at H
    have c3b0 : decide (a1 < a0) = false := decide_eq_false c3
    clear c3
    obtain rfl := Option.some.inj H
    go_enter Try.func70, Try.ntmps70
    go_wp2
    go_ret
    exact ⟨by first | rfl | (simp; done) | (simp [*]; done), by repeat (first | exact Drawn0.refl _ | apply Drawn0.step)⟩

-- NOT PRINTED: function 65 (interval_node_int_int_recalculateHeight)

-- NOT PRINTED: function 66 (interval_node_int_int_updateMax)

-- NOT PRINTED: function 67 (interval_node_int_int_rotateRight)

-- NOT PRINTED: function 68 (interval_node_int_int_rotateLeft)

-- NOT PRINTED: function 62 (interval_node_int_int_rebalanceTree)

-- NOT PRINTED: function 50 (interval_node_int_int_insert)

-- NOT PRINTED: function 51 (interval_newIntrvl_int)

-- NOT PRINTED: function 34 (interval_Tree_int_int_Put)

-- NOT PRINTED: function 35 (interval_Tree_int_int_Add)

-- NOT PRINTED: function 69 (interval_node_int_int_findSmallest)

-- NOT PRINTED: function 63 (interval_node_int_int_removeThis)

-- NOT PRINTED: function 52 (interval_node_int_int_remove)

-- NOT PRINTED: function 36 (interval_Tree_int_int_Remove)

-- NOT PRINTED: function 53 (interval_node_int_int_search)

-- NOT PRINTED: function 37 (interval_Tree_int_int_Get)

/-! ### interval_overlaps_int: function 64 -/
def interval_overlaps_int.f (a0_0 : Int) (a0_1 : Int) (a1_0 : Int) (a1_1 : Int) : Option (Bool) := if a0_0 < a1_1 then (some (decide (a0_1 > a1_0))) else (some false)
set_option maxHeartbeats 8000000 in
set_option maxRecDepth 100000 in
theorem interval_overlaps_int.calls (a0_0 : Int) (a0_1 : Int) (a1_0 : Int) (a1_1 : Int) (r : Bool) (w : World) (h : interval_overlaps_int.f a0_0 a0_1 a1_0 a1_1 = some r) :
    Calls Try.prog 64 #[.agg #[.int .i64 a0_0, .int .i64 a0_1], .agg #[.int .i64 a1_0, .int .i64 a1_1]] w fun e w' => e = .returned (.bool r) ∧ Below w.heap.size w w' := by
  have hu100 := Try.underlying100
  have HB := Aside0.mk (Below.refl w.heap.size w)
  have H : (if a0_0 < a1_1 then (some (decide (a0_1 > a1_0))) else (some false)) = some r := h
  clear h
  by_cases c3 : a0_0 < a1_1
  · rw [if_pos c3] at H
    have c3b0 : decide (a0_0 < a1_1) = true := decide_eq_true c3
    clear c3
    obtain rfl := Option.some.inj H
    go_enter Try.func64, Try.ntmps64
    go_wp2_with (first | ((with_reducible refine gate_dst (N := 2) rfl ?_); refine box_event ?hg (N := 2) ?hd (cs := #[.int .i64 a0_0, .int .i64 a0_1]) (t := 100) ?hr ?_; (case hd => rfl); (case hg => rfl); (case hr => first | (go_simp; done) | (go_simp; rfl)); intro gb111 hg w4 hbox hb; have n0_ := Aside0.mk (below_step (by repeat (first | (with_reducible first | exact HB.out | apply below_alloc | apply pw_below_drewN | apply below_drew1) | exact HB.out)) hb); have n1_ := Aside0.mk (hbox); have n2_ := Aside0.mk ((by rw [hg]; exact (below_size (by repeat (first | (with_reducible first | exact HB.out | apply below_alloc | apply pw_below_drewN | apply below_drew1) | exact HB.out))) : w.heap.size ≤ gb111)); have n3_ := Aside0.mk ((by rw [hg]; exact (below_size (by repeat (first | (with_reducible first | exact HB.out | apply below_alloc | apply pw_below_drewN | apply below_drew1) | exact HB.out))) : w.heap.size ≤ gb111)); clear HB; have HB := n0_; have BK111 := n1_; have GW111 := n2_; have GE111 := n3_; clear n0_ n1_ n2_ n3_; clear hb hbox hg) | ((with_reducible refine gate_dst (N := 3) rfl ?_); refine box_event ?hg (N := 3) ?hd (cs := #[.int .i64 a1_0, .int .i64 a1_1]) (t := 100) ?hr ?_; (case hd => rfl); (case hg => rfl); (case hr => first | (go_simp; done) | (go_simp; rfl)); intro gb112 hg w5 hbox hb; have n0_ := Aside0.mk (blk_below (g := gb111) (o := .cells #[.int .i64 a0_0, .int .i64 a0_1] 100 (0, 0)) (by (with_reducible repeat (first | refine blk_drewN ?_ _ | refine blk_drew ?_ | refine blk_alloc ?_ _)); exact BK111.out) hb); have n1_ := Aside0.mk (below_step (by repeat (first | (with_reducible first | exact HB.out | apply below_alloc | apply pw_below_drewN | apply below_drew1 | refine below_set ?_ GE111.out) | exact HB.out)) hb); have n2_ := Aside0.mk (hbox); have n3_ := Aside0.mk ((by rw [hg]; exact (below_size (by repeat (first | (with_reducible first | exact HB.out | apply below_alloc | apply pw_below_drewN | apply below_drew1 | refine below_set ?_ GE111.out) | exact HB.out))) : w.heap.size ≤ gb112)); have n4_ := Aside0.mk ((by rw [hg]; exact (below_size (by repeat (first | (with_reducible first | exact HB.out | apply below_alloc | apply pw_below_drewN | apply below_drew1 | refine below_set ?_ GE111.out) | exact HB.out))) : w.heap.size ≤ gb112)); have n5_ := Aside0.mk ((by rw [hg]; exact Nat.ne_of_lt (blk_lt (g := gb111) (o := .cells #[.int .i64 a0_0, .int .i64 a0_1] 100 (0, 0)) (by (with_reducible repeat (first | refine blk_drewN ?_ _ | refine blk_drew ?_ | refine blk_alloc ?_ _)); exact BK111.out)) : gb111 ≠ gb112)); have n6_ := Aside0.mk ((by rw [hg]; exact Nat.ne_of_gt (blk_lt (g := gb111) (o := .cells #[.int .i64 a0_0, .int .i64 a0_1] 100 (0, 0)) (by (with_reducible repeat (first | refine blk_drewN ?_ _ | refine blk_drew ?_ | refine blk_alloc ?_ _)); exact BK111.out)) : gb112 ≠ gb111)); clear BK111; clear HB; have BK111 := n0_; have HB := n1_; have BK112 := n2_; have GW112 := n3_; have GE112 := n4_; have NB111_112 := n5_; have NB112_111 := n6_; clear n0_ n1_ n2_ n3_ n4_ n5_ n6_; clear hb hbox hg; have hnb6 := NB111_112.out; have hnc6 := NB112_111.out; have hcz7_0 : w5.cell? ⟨gb111, 0, none⟩ = some (.int .i64 a0_0) := (blk_cell BK111.out 0).trans rfl; have hcz7_1 : w5.cell? ⟨gb111, 1, none⟩ = some (.int .i64 a0_1) := (blk_cell BK111.out 1).trans rfl; have hfz7_0 := blk_frozen BK111.out 0; have hfz7_1 := blk_frozen BK111.out 1; have hcz8_0 : w5.cell? ⟨gb112, 0, none⟩ = some (.int .i64 a1_0) := (blk_cell BK112.out 0).trans rfl; have hcz8_1 : w5.cell? ⟨gb112, 1, none⟩ = some (.int .i64 a1_1) := (blk_cell BK112.out 1).trans rfl; have hfz8_0 := blk_frozen BK112.out 0; have hfz8_1 := blk_frozen BK112.out 1))
    go_ret
    exact ⟨by first | rfl | (simp [errW_none, errW_some] <;> rfl) | (simp [*, errW_none, errW_some] <;> rfl), by repeat (first | (with_reducible first | exact HB.out | apply below_alloc | apply pw_below_drewN | apply below_drew1 | refine below_set ?_ GE111.out | refine below_set ?_ GE112.out) | exact HB.out)⟩
  · rw [if_neg c3] at H
    have c3b0 : decide (a0_0 < a1_1) = false := decide_eq_false c3
    clear c3
    obtain rfl := Option.some.inj H
    go_enter Try.func64, Try.ntmps64
    go_wp2_with (first | ((with_reducible refine gate_dst (N := 2) rfl ?_); refine box_event ?hg (N := 2) ?hd (cs := #[.int .i64 a0_0, .int .i64 a0_1]) (t := 100) ?hr ?_; (case hd => rfl); (case hg => rfl); (case hr => first | (go_simp; done) | (go_simp; rfl)); intro gb111 hg w9 hbox hb; have n0_ := Aside0.mk (below_step (by repeat (first | (with_reducible first | exact HB.out | apply below_alloc | apply pw_below_drewN | apply below_drew1) | exact HB.out)) hb); have n1_ := Aside0.mk (hbox); have n2_ := Aside0.mk ((by rw [hg]; exact (below_size (by repeat (first | (with_reducible first | exact HB.out | apply below_alloc | apply pw_below_drewN | apply below_drew1) | exact HB.out))) : w.heap.size ≤ gb111)); have n3_ := Aside0.mk ((by rw [hg]; exact (below_size (by repeat (first | (with_reducible first | exact HB.out | apply below_alloc | apply pw_below_drewN | apply below_drew1) | exact HB.out))) : w.heap.size ≤ gb111)); clear HB; have HB := n0_; have BK111 := n1_; have GW111 := n2_; have GE111 := n3_; clear n0_ n1_ n2_ n3_; clear hb hbox hg) | ((with_reducible refine gate_dst (N := 3) rfl ?_); refine box_event ?hg (N := 3) ?hd (cs := #[.int .i64 a1_0, .int .i64 a1_1]) (t := 100) ?hr ?_; (case hd => rfl); (case hg => rfl); (case hr => first | (go_simp; done) | (go_simp; rfl)); intro gb112 hg w10 hbox hb; have n0_ := Aside0.mk (blk_below (g := gb111) (o := .cells #[.int .i64 a0_0, .int .i64 a0_1] 100 (0, 0)) (by (with_reducible repeat (first | refine blk_drewN ?_ _ | refine blk_drew ?_ | refine blk_alloc ?_ _)); exact BK111.out) hb); have n1_ := Aside0.mk (below_step (by repeat (first | (with_reducible first | exact HB.out | apply below_alloc | apply pw_below_drewN | apply below_drew1 | refine below_set ?_ GE111.out) | exact HB.out)) hb); have n2_ := Aside0.mk (hbox); have n3_ := Aside0.mk ((by rw [hg]; exact (below_size (by repeat (first | (with_reducible first | exact HB.out | apply below_alloc | apply pw_below_drewN | apply below_drew1 | refine below_set ?_ GE111.out) | exact HB.out))) : w.heap.size ≤ gb112)); have n4_ := Aside0.mk ((by rw [hg]; exact (below_size (by repeat (first | (with_reducible first | exact HB.out | apply below_alloc | apply pw_below_drewN | apply below_drew1 | refine below_set ?_ GE111.out) | exact HB.out))) : w.heap.size ≤ gb112)); have n5_ := Aside0.mk ((by rw [hg]; exact Nat.ne_of_lt (blk_lt (g := gb111) (o := .cells #[.int .i64 a0_0, .int .i64 a0_1] 100 (0, 0)) (by (with_reducible repeat (first | refine blk_drewN ?_ _ | refine blk_drew ?_ | refine blk_alloc ?_ _)); exact BK111.out)) : gb111 ≠ gb112)); have n6_ := Aside0.mk ((by rw [hg]; exact Nat.ne_of_gt (blk_lt (g := gb111) (o := .cells #[.int .i64 a0_0, .int .i64 a0_1] 100 (0, 0)) (by (with_reducible repeat (first | refine blk_drewN ?_ _ | refine blk_drew ?_ | refine blk_alloc ?_ _)); exact BK111.out)) : gb112 ≠ gb111)); clear BK111; clear HB; have BK111 := n0_; have HB := n1_; have BK112 := n2_; have GW112 := n3_; have GE112 := n4_; have NB111_112 := n5_; have NB112_111 := n6_; clear n0_ n1_ n2_ n3_ n4_ n5_ n6_; clear hb hbox hg; have hnb11 := NB111_112.out; have hnc11 := NB112_111.out; have hcz12_0 : w10.cell? ⟨gb111, 0, none⟩ = some (.int .i64 a0_0) := (blk_cell BK111.out 0).trans rfl; have hcz12_1 : w10.cell? ⟨gb111, 1, none⟩ = some (.int .i64 a0_1) := (blk_cell BK111.out 1).trans rfl; have hfz12_0 := blk_frozen BK111.out 0; have hfz12_1 := blk_frozen BK111.out 1; have hcz13_0 : w10.cell? ⟨gb112, 0, none⟩ = some (.int .i64 a1_0) := (blk_cell BK112.out 0).trans rfl; have hcz13_1 : w10.cell? ⟨gb112, 1, none⟩ = some (.int .i64 a1_1) := (blk_cell BK112.out 1).trans rfl; have hfz13_0 := blk_frozen BK112.out 0; have hfz13_1 := blk_frozen BK112.out 1))
    go_ret
    exact ⟨by first | rfl | (simp [errW_none, errW_some] <;> rfl) | (simp [*, errW_none, errW_some] <;> rfl), by repeat (first | (with_reducible first | exact HB.out | apply below_alloc | apply pw_below_drewN | apply below_drew1 | refine below_set ?_ GE111.out | refine below_set ?_ GE112.out) | exact HB.out)⟩

-- NOT PRINTED: function 55 (interval_node_int_int_overlaps)

-- NOT PRINTED: function 38 (interval_Tree_int_int_Overlaps)

/-! ### impl_span: function 39 -/
def impl_span.f (a0_0 : Int) (a0_1 : Int) (a0_2 : Int) : Option (Int × Int × Int) := some (a0_0, a0_1, a0_2)
set_option maxHeartbeats 8000000 in
set_option maxRecDepth 100000 in
theorem impl_span.calls (a0_0 : Int) (a0_1 : Int) (a0_2 : Int) (r1 : Int) (r2 : Int) (r3 : Int) (w : World) (h : impl_span.f a0_0 a0_1 a0_2 = some (r1, r2, r3)) :
    Calls Try.prog 39 #[.agg #[.int .i64 a0_0, .int .i64 a0_1, .int .i64 a0_2]] w fun e w' => e = .returned (.agg #[.int .i64 r1, .int .i64 r2, .int .i64 r3]) ∧ Below w.heap.size w w' := by
  have hu74 := Try.underlying74
  have hu29 := Try.underlying29
  have HB := Aside0.mk (Below.refl w.heap.size w)
  have H : (some (a0_0, a0_1, a0_2)) = some (r1, r2, r3) := h
  clear h
  simp only [Option.some.injEq, Prod.mk.injEq] at H
  obtain ⟨rfl, rfl, rfl⟩ := H
  go_enter Try.func39, Try.ntmps39
  go_wp2_with (first | ((with_reducible refine gate_dst (N := 1) rfl ?_); refine box_event ?hg (N := 1) ?hd (cs := #[.int .i64 a0_0, .int .i64 a0_1, .int .i64 a0_2]) (t := 74) ?hr ?_; (case hd => rfl); (case hg => rfl); (case hr => first | (go_simp; done) | (go_simp; rfl)); intro gb113 hg w2 hbox hb; have n0_ := Aside0.mk (below_step (by repeat (first | (with_reducible first | exact HB.out | apply below_alloc | apply pw_below_drewN | apply below_drew1) | exact HB.out)) hb); have n1_ := Aside0.mk (hbox); have n2_ := Aside0.mk ((by rw [hg]; exact (below_size (by repeat (first | (with_reducible first | exact HB.out | apply below_alloc | apply pw_below_drewN | apply below_drew1) | exact HB.out))) : w.heap.size ≤ gb113)); have n3_ := Aside0.mk ((by rw [hg]; exact (below_size (by repeat (first | (with_reducible first | exact HB.out | apply below_alloc | apply pw_below_drewN | apply below_drew1) | exact HB.out))) : w.heap.size ≤ gb113)); clear HB; have HB := n0_; have BK113 := n1_; have GW113 := n2_; have GE113 := n3_; clear n0_ n1_ n2_ n3_; clear hb hbox hg) | ((with_reducible refine gate_dst (N := 2) rfl ?_); refine box_event ?hg (N := 2) ?hd (cs := #[.int .i64 0, .int .i64 0, .int .i64 0]) (t := 29) ?hr ?_; (case hd => rfl); (case hg => rfl); (case hr => first | (go_simp; done) | (go_simp; rfl)); intro gb114 hg w3 hbox hb; have n0_ := Aside0.mk (blk_below (g := gb113) (o := .cells #[.int .i64 a0_0, .int .i64 a0_1, .int .i64 a0_2] 74 (0, 0)) (by (with_reducible repeat (first | refine blk_drewN ?_ _ | refine blk_drew ?_ | refine blk_alloc ?_ _)); exact BK113.out) hb); have n1_ := Aside0.mk (below_step (by repeat (first | (with_reducible first | exact HB.out | apply below_alloc | apply pw_below_drewN | apply below_drew1 | refine below_set ?_ GE113.out) | exact HB.out)) hb); have n2_ := Aside0.mk (hbox); have n3_ := Aside0.mk ((by rw [hg]; exact (below_size (by repeat (first | (with_reducible first | exact HB.out | apply below_alloc | apply pw_below_drewN | apply below_drew1 | refine below_set ?_ GE113.out) | exact HB.out))) : w.heap.size ≤ gb114)); have n4_ := Aside0.mk ((by rw [hg]; exact (below_size (by repeat (first | (with_reducible first | exact HB.out | apply below_alloc | apply pw_below_drewN | apply below_drew1 | refine below_set ?_ GE113.out) | exact HB.out))) : w.heap.size ≤ gb114)); have n5_ := Aside0.mk ((by rw [hg]; exact Nat.ne_of_lt (blk_lt (g := gb113) (o := .cells #[.int .i64 a0_0, .int .i64 a0_1, .int .i64 a0_2] 74 (0, 0)) (by (with_reducible repeat (first | refine blk_drewN ?_ _ | refine blk_drew ?_ | refine blk_alloc ?_ _)); exact BK113.out)) : gb113 ≠ gb114)); have n6_ := Aside0.mk ((by rw [hg]; exact Nat.ne_of_gt (blk_lt (g := gb113) (o := .cells #[.int .i64 a0_0, .int .i64 a0_1, .int .i64 a0_2] 74 (0, 0)) (by (with_reducible repeat (first | refine blk_drewN ?_ _ | refine blk_drew ?_ | refine blk_alloc ?_ _)); exact BK113.out)) : gb114 ≠ gb113)); clear BK113; clear HB; have BK113 := n0_; have HB := n1_; have BK114 := n2_; have GW114 := n3_; have GE114 := n4_; have NB113_114 := n5_; have NB114_113 := n6_; clear n0_ n1_ n2_ n3_ n4_ n5_ n6_; clear hb hbox hg; have hnb4 := NB113_114.out; have hnc4 := NB114_113.out; have hcz5_0 : w3.cell? ⟨gb113, 0, none⟩ = some (.int .i64 a0_0) := (blk_cell BK113.out 0).trans rfl; have hcz5_1 : w3.cell? ⟨gb113, 1, none⟩ = some (.int .i64 a0_1) := (blk_cell BK113.out 1).trans rfl; have hcz5_2 : w3.cell? ⟨gb113, 2, none⟩ = some (.int .i64 a0_2) := (blk_cell BK113.out 2).trans rfl; have hfz5_0 := blk_frozen BK113.out 0; have hfz5_1 := blk_frozen BK113.out 1; have hfz5_2 := blk_frozen BK113.out 2; have hcz6_0 : w3.cell? ⟨gb114, 0, none⟩ = some (.int .i64 0) := (blk_cell BK114.out 0).trans rfl; have hcz6_1 : w3.cell? ⟨gb114, 1, none⟩ = some (.int .i64 0) := (blk_cell BK114.out 1).trans rfl; have hcz6_2 : w3.cell? ⟨gb114, 2, none⟩ = some (.int .i64 0) := (blk_cell BK114.out 2).trans rfl; have hfz6_0 := blk_frozen BK114.out 0; have hfz6_1 := blk_frozen BK114.out 1; have hfz6_2 := blk_frozen BK114.out 2))
  refine bodyPost_ret (results_cell_row rfl _ _ gb114 29 #[.int .i64 a0_0, .int .i64 a0_1, .int .i64 a0_2] (0, 0) _ rfl (by (with_reducible repeat (first | refine blk_drewN ?_ _ | refine blk_drew ?_ | refine blk_alloc ?_ _)); refine blk_put (cs := #[.int .i64 a0_0, .int .i64 a0_1, .int .i64 0]) ?_ 2 _ rfl; (with_reducible repeat (first | refine blk_drewN ?_ _ | refine blk_drew ?_ | refine blk_alloc ?_ _)); refine blk_put (cs := #[.int .i64 a0_0, .int .i64 0, .int .i64 0]) ?_ 1 _ rfl; (with_reducible repeat (first | refine blk_drewN ?_ _ | refine blk_drew ?_ | refine blk_alloc ?_ _)); refine blk_put (cs := #[.int .i64 0, .int .i64 0, .int .i64 0]) ?_ 0 _ rfl; (with_reducible repeat (first | refine blk_drewN ?_ _ | refine blk_drew ?_ | refine blk_alloc ?_ _)); exact BK114.out) Try.underlying29 rfl (by kernel_rfl)) rfl ?_
  exact ⟨by first | rfl | (simp [errW_none, errW_some] <;> rfl) | (simp [*, errW_none, errW_some] <;> rfl), by repeat (first | (with_reducible first | exact HB.out | apply below_alloc | apply pw_below_drewN | apply below_drew1 | refine below_set ?_ GE113.out | refine below_set ?_ GE114.out) | exact HB.out)⟩

-- NOT PRINTED: function 56 (interval_node_int_int_each)

-- NOT PRINTED: function 40 (interval_Tree_int_int_Each)

-- NOT PRINTED: function 57 (interval_node_int_int_size)

-- NOT PRINTED: function 42 (interval_Tree_int_int_Size)

-- NOT PRINTED: function 43 (interval_Tree_int_int_Height)

-- NOT PRINTED: function 24 (impl_intervalDo)

-- NOT PRINTED: function 25 (interval_New_int_int)

/-! ### impl_IntervalRun: function 11 -/
section
variable {α β : Type} {d : Kd α} {d' : Kd β} {g : α → β}
theorem R_map (hs : d.sz = d'.sz) (hM : ∀ w base ok x cs, d.M w base ok x cs → d'.M w base ok (g x) cs) {e : Nat} {w : World} {base : Nat} {ok : Nat → Prop} {v : Value} {xs : List α} (h : d.R e w base ok v xs) : d'.R e w base ok v (xs.map g) := by
  obtain ⟨h0, inner, ho, hr⟩ := h
  refine ⟨h0, inner, by rw [List.length_map, ← hs]; exact ho, ?_⟩
  refine ⟨by rw [List.length_map, ← hs]; exact hr.1, fun j p hj => ?_⟩
  rw [List.getElem?_map] at hj
  obtain ⟨q, hq, rfl⟩ := Option.map_eq_some_iff.1 hj
  have := hr.2 j q hq
  rw [← hs]
  exact hM _ _ _ _ _ this
theorem S_map (hs : d.sz = d'.sz) (hM : ∀ w base ok x cs, d.M w base ok x cs → d'.M w base ok (g x) cs) {e : Nat} {w : World} {base : Nat} {ok : Nat → Prop} {v : Value} {xs : List α} (h : Kd.S d e w base ok v xs) : Kd.S d' e w base ok v (xs.map g) := by
  obtain ⟨f, h⟩ := h
  refine ⟨f, ?_⟩
  have e1 : (xs.map g).zipIdx = xs.zipIdx.map (fun p => (g p.1, p.2)) := by
    apply List.ext_getElem?
    intro j
    simp only [List.getElem?_zipIdx, List.getElem?_map]
    cases xs[j]? <;> rfl
  rw [e1]
  exact R_map (d := Kd.tag f d) (d' := Kd.tag f d') (g := fun p => (g p.1, p.2)) hs (fun w base ok x cs hx => hM w base _ x.1 cs hx) h
end
def span_of (p : Int × Int × Int) : S29 := ⟨p.1, p.2.1, p.2.2⟩
def found_of (p : Int.Fd) : S32 := ⟨span_of p.1, p.2.1, p.2.2.1.map span_of, p.2.2.2⟩
def mk_of (x : S25) : Int.Mk := (x.f0, x.f1, x.f2, x.f3)
theorem found_map : ∀ (w : World) (base : Nat) (ok : Nat → Prop) (x : Int.Fd) (cs : List Value), Int.foundK.M w base ok x cs → k32.M w base ok (found_of x) cs := by
  intro w base ok x cs h
  obtain ⟨c1, c2, rfl, h1, c3, c4, rfl, h2, c5, c6, rfl, ⟨v, rfl, h3⟩, h4⟩ := h
  exact ⟨c1, _, rfl, h1, c3, _, rfl, h2, [v], c6, rfl, ⟨v, rfl, R_map (d := Int.spK) (d' := k29) (g := span_of) rfl (fun _ _ _ _ _ q => q) h3⟩, h4⟩
def fitB (l : List Int.Mk) : Bool := l.all fun a => !(a.1 == 0 || a.1 == 1 || a.1 == 4) || decide (a.2.1 ≤ a.2.2.1)
theorem fit_of {l : List Int.Mk} (h : fitB l = true) : Int.Fit l := by
  intro a ha hd
  have := List.all_eq_true.1 h a ha
  simp only [Bool.or_eq_true, Bool.not_eq_true', Bool.or_eq_false_iff, beq_eq_false_iff_ne, decide_eq_true_eq] at this
  rcases this with q | q
  · rcases hd with e | e | e
    · exact absurd e q.1.1
    · exact absurd e q.1.2
    · exact absurd e q.2
  · exact q
def impl_IntervalRun.f (l0 : List (S25)) : Option (List (S32)) :=
  if l0.length ≤ 1099511627776 then (if fitB (l0.map mk_of) = true then some ((Int.toldT .nil (l0.map mk_of)).map found_of) else none) else none
theorem impl_IntervalRun.calls (A0 : Option Addr) (c0 : Nat) (l0 : List (S25)) (r : List (S32)) (w : World) (hr0 : Kd.C k25 w A0 l0.length l0) (hc0 : l0.length ≤ c0) (h : impl_IntervalRun.f l0 = some r) :
    Calls Try.prog 11 #[.slice A0 l0.length c0] w fun e w' => ∃ v0_ : Value, e = .returned (v0_) ∧ Kd.S k32 32 w' w.heap.size (fun _ => True) v0_ r ∧ Below w.heap.size w w' := by
  unfold impl_IntervalRun.f at h
  by_cases q1 : l0.length ≤ 1099511627776
  · rw [if_pos q1] at h
    by_cases q2 : fitB (l0.map mk_of) = true
    · rw [if_pos q2] at h
      obtain rfl := Option.some.inj h
      have hl : (l0.map mk_of).length = l0.length := List.length_map ..
      have hC : Kd.C Int.markK w A0 (l0.map mk_of).length (l0.map mk_of) := by rw [hl]; exact Row.C_iso hr0
      have H := Int.IntervalRun_any A0 c0 (l0.map mk_of) w hC (by rw [hl]; exact q1) (fit_of q2)
      rw [hl] at H
      refine H.mono ?_
      rintro e w' ⟨v, he, hS, hB⟩
      exact ⟨v, he, S_map (d := Int.foundK) (d' := k32) (g := found_of) rfl found_map hS, hB⟩
    · rw [if_neg q2] at h; cases h
  · rw [if_neg q1] at h; cases h

/-! ### laws_spanLast: function 15 -/
def laws_spanLast.f (l0 : List (S25)) (l1 : List (S25)) : Option (Int × Int × Int × Bool × (List (S29)) × Int × Bool) := (some (([] : List (S25)) : List (S25))).bind fun y119 => (if y119.length + l0.length < 4398046511104 then ((some (y119 ++ l0 : List (S25))).bind fun y122 => (if y122.length + l1.length < 4398046511104 then ((some (y122 ++ l1 : List (S25))).bind fun y125 => ((impl_IntervalRun.f y125).bind fun t128 => (if (t128.length : Int) = (y125.length : Int) then (if (t128.length : Int) = 0 then (some (0, 0, 0, false, ([] : List (S29)), 0, false)) else (if 0 ≤ (wrap64 ((t128.length : Int) - 1)) then (if (wrap64 ((t128.length : Int) - 1)) < (t128.length : Int) then (some ((rd_T32 t128 (wrap64 ((t128.length : Int) - 1))).f0.f0, (rd_T32 t128 (wrap64 ((t128.length : Int) - 1))).f0.f1, (rd_T32 t128 (wrap64 ((t128.length : Int) - 1))).f0.f2, (rd_T32 t128 (wrap64 ((t128.length : Int) - 1))).f1, (rd_T32 t128 (wrap64 ((t128.length : Int) - 1))).f2, (rd_T32 t128 (wrap64 ((t128.length : Int) - 1))).f3, true)) else (none)) else (none))) else (some (0, 0, 0, false, ([] : List (S29)), 0, false))))) else (none))) else (none))
set_option maxHeartbeats 8000000 in
set_option maxRecDepth 100000 in
theorem laws_spanLast.calls (A0 : Option Addr) (c0 : Nat) (l0 : List (S25)) (A1 : Option Addr) (c1 : Nat) (l1 : List (S25)) (r1 : Int) (r2 : Int) (r3 : Int) (r4 : Bool) (r5 : List (S29)) (r6 : Int) (r7 : Bool) (w : World) (hr0 : Kd.C k25 w A0 l0.length l0) (hc0 : l0.length ≤ c0) (hr1 : Kd.C k25 w A1 l1.length l1) (hc1 : l1.length ≤ c1) (h : laws_spanLast.f l0 l1 = some (r1, r2, r3, r4, r5, r6, r7)) :
    Calls Try.prog 15 #[.slice A0 l0.length c0, .slice A1 l1.length c1] w fun e w' => ∃ v4_ : Value, e = .returned (.tuple #[.agg #[.int .i64 r1, .int .i64 r2, .int .i64 r3, .bool r4, v4_, .int .i64 r6], .bool r7]) ∧ Kd.R k29 29 w' w.heap.size (fun _ => True) v4_ r5 ∧ Below w.heap.size w w' := by
  have hu32 := Try.underlying32
  have HR0 := Aside0.mk hr0
  have HC0 := Aside0.mk hc0
  clear hr0 hc0
  have HR1 := Aside0.mk hr1
  have HC1 := Aside0.mk hc1
  clear hr1 hc1
  have HB := Aside0.mk (Below.refl w.heap.size w)
  have H : ((some (([] : List (S25)) : List (S25))).bind fun y119 => (if y119.length + l0.length < 4398046511104 then ((some (y119 ++ l0 : List (S25))).bind fun y122 => (if y122.length + l1.length < 4398046511104 then ((some (y122 ++ l1 : List (S25))).bind fun y125 => ((impl_IntervalRun.f y125).bind fun t128 => (if (t128.length : Int) = (y125.length : Int) then (if (t128.length : Int) = 0 then (some (0, 0, 0, false, ([] : List (S29)), 0, false)) else (if 0 ≤ (wrap64 ((t128.length : Int) - 1)) then (if (wrap64 ((t128.length : Int) - 1)) < (t128.length : Int) then (some ((rd_T32 t128 (wrap64 ((t128.length : Int) - 1))).f0.f0, (rd_T32 t128 (wrap64 ((t128.length : Int) - 1))).f0.f1, (rd_T32 t128 (wrap64 ((t128.length : Int) - 1))).f0.f2, (rd_T32 t128 (wrap64 ((t128.length : Int) - 1))).f1, (rd_T32 t128 (wrap64 ((t128.length : Int) - 1))).f2, (rd_T32 t128 (wrap64 ((t128.length : Int) - 1))).f3, true)) else (none)) else (none))) else (some (0, 0, 0, false, ([] : List (S29)), 0, false))))) else (none))) else (none))) = some (r1, r2, r3, r4, r5, r6, r7) := h
  clear h
  obtain ⟨y119, hy119⟩ : ∃ y_ : List (S25), y_ = (([] : List (S25))) := ⟨_, rfl⟩
  replace H : (if y119.length + l0.length < 4398046511104 then ((some (y119 ++ l0 : List (S25))).bind fun y122 => (if y122.length + l1.length < 4398046511104 then ((some (y122 ++ l1 : List (S25))).bind fun y125 => ((impl_IntervalRun.f y125).bind fun t128 => (if (t128.length : Int) = (y125.length : Int) then (if (t128.length : Int) = 0 then (some (0, 0, 0, false, ([] : List (S29)), 0, false)) else (if 0 ≤ (wrap64 ((t128.length : Int) - 1)) then (if (wrap64 ((t128.length : Int) - 1)) < (t128.length : Int) then (some ((rd_T32 t128 (wrap64 ((t128.length : Int) - 1))).f0.f0, (rd_T32 t128 (wrap64 ((t128.length : Int) - 1))).f0.f1, (rd_T32 t128 (wrap64 ((t128.length : Int) - 1))).f0.f2, (rd_T32 t128 (wrap64 ((t128.length : Int) - 1))).f1, (rd_T32 t128 (wrap64 ((t128.length : Int) - 1))).f2, (rd_T32 t128 (wrap64 ((t128.length : Int) - 1))).f3, true)) else (none)) else (none))) else (some (0, 0, 0, false, ([] : List (S29)), 0, false))))) else (none))) else (none)) = some (r1, r2, r3, r4, r5, r6, r7) := by first | (rw [hy119]; with_reducible exact H) | (have H2_ := (Option.bind_some _ _).symm.trans H; rw [hy119]; with_reducible exact H2_) | (have H2_ := (Option.bind_some _ _).symm.trans H; with_reducible exact H2_) | with_reducible exact H | (rw [hy119]; exact H) | exact H
  have Ny119 := Aside0.mk hy119
  clear hy119
  by_cases c3 : y119.length + l0.length < 4398046511104
  · rw [if_pos c3] at H
    have LMc3 := Aside0.mk c3
    clear c3
    obtain ⟨y122, hy122⟩ : ∃ y_ : List (S25), y_ = (y119 ++ l0) := ⟨_, rfl⟩
    replace H : (if y122.length + l1.length < 4398046511104 then ((some (y122 ++ l1 : List (S25))).bind fun y125 => ((impl_IntervalRun.f y125).bind fun t128 => (if (t128.length : Int) = (y125.length : Int) then (if (t128.length : Int) = 0 then (some (0, 0, 0, false, ([] : List (S29)), 0, false)) else (if 0 ≤ (wrap64 ((t128.length : Int) - 1)) then (if (wrap64 ((t128.length : Int) - 1)) < (t128.length : Int) then (some ((rd_T32 t128 (wrap64 ((t128.length : Int) - 1))).f0.f0, (rd_T32 t128 (wrap64 ((t128.length : Int) - 1))).f0.f1, (rd_T32 t128 (wrap64 ((t128.length : Int) - 1))).f0.f2, (rd_T32 t128 (wrap64 ((t128.length : Int) - 1))).f1, (rd_T32 t128 (wrap64 ((t128.length : Int) - 1))).f2, (rd_T32 t128 (wrap64 ((t128.length : Int) - 1))).f3, true)) else (none)) else (none))) else (some (0, 0, 0, false, ([] : List (S29)), 0, false))))) else (none)) = some (r1, r2, r3, r4, r5, r6, r7) := by first | (rw [hy122]; with_reducible exact H) | (have H2_ := (Option.bind_some _ _).symm.trans H; rw [hy122]; with_reducible exact H2_) | (have H2_ := (Option.bind_some _ _).symm.trans H; with_reducible exact H2_) | with_reducible exact H | (rw [hy122]; exact H) | exact H
    have Ny122 := Aside0.mk hy122
    clear hy122
    by_cases c4 : y122.length + l1.length < 4398046511104
    · rw [if_pos c4] at H
      have LMc4 := Aside0.mk c4
      clear c4
      obtain ⟨y125, hy125⟩ : ∃ y_ : List (S25), y_ = (y122 ++ l1) := ⟨_, rfl⟩
      replace H : ((impl_IntervalRun.f y125).bind fun t128 => (if (t128.length : Int) = (y125.length : Int) then (if (t128.length : Int) = 0 then (some (0, 0, 0, false, ([] : List (S29)), 0, false)) else (if 0 ≤ (wrap64 ((t128.length : Int) - 1)) then (if (wrap64 ((t128.length : Int) - 1)) < (t128.length : Int) then (some ((rd_T32 t128 (wrap64 ((t128.length : Int) - 1))).f0.f0, (rd_T32 t128 (wrap64 ((t128.length : Int) - 1))).f0.f1, (rd_T32 t128 (wrap64 ((t128.length : Int) - 1))).f0.f2, (rd_T32 t128 (wrap64 ((t128.length : Int) - 1))).f1, (rd_T32 t128 (wrap64 ((t128.length : Int) - 1))).f2, (rd_T32 t128 (wrap64 ((t128.length : Int) - 1))).f3, true)) else (none)) else (none))) else (some (0, 0, 0, false, ([] : List (S29)), 0, false)))) = some (r1, r2, r3, r4, r5, r6, r7) := by first | (rw [hy125]; with_reducible exact H) | (have H2_ := (Option.bind_some _ _).symm.trans H; rw [hy125]; with_reducible exact H2_) | (have H2_ := (Option.bind_some _ _).symm.trans H; with_reducible exact H2_) | with_reducible exact H | (rw [hy125]; exact H) | exact H
      have Ny125 := Aside0.mk hy125
      clear hy125
      replace H := Option.bind_eq_some_iff.mp H
      obtain ⟨t128, A50, H⟩ := H
      replace H : (if (t128.length : Int) = (y125.length : Int) then (if (t128.length : Int) = 0 then (some (0, 0, 0, false, ([] : List (S29)), 0, false)) else (if 0 ≤ (wrap64 ((t128.length : Int) - 1)) then (if (wrap64 ((t128.length : Int) - 1)) < (t128.length : Int) then (some ((rd_T32 t128 (wrap64 ((t128.length : Int) - 1))).f0.f0, (rd_T32 t128 (wrap64 ((t128.length : Int) - 1))).f0.f1, (rd_T32 t128 (wrap64 ((t128.length : Int) - 1))).f0.f2, (rd_T32 t128 (wrap64 ((t128.length : Int) - 1))).f1, (rd_T32 t128 (wrap64 ((t128.length : Int) - 1))).f2, (rd_T32 t128 (wrap64 ((t128.length : Int) - 1))).f3, true)) else (none)) else (none))) else (some (0, 0, 0, false, ([] : List (S29)), 0, false))) = some (r1, r2, r3, r4, r5, r6, r7) := H
      have A5 := Aside0.mk A50
      clear A50
      by_cases c6 : (t128.length : Int) = (y125.length : Int)
      · rw [if_pos c6] at H
        have c6b0 : ((t128.length : Int) == (y125.length : Int)) = true := beq_iff_eq.mpr c6
        have c6b1 : ((t128.length : Int) != (y125.length : Int)) = false := bne_eq_false_iff_eq.mpr c6
        have c6b2 : (t128.length == y125.length) = true := by first | simpa using c6 | (simp at c6 ⊢; omega)
        clear c6
        by_cases c7 : (t128.length : Int) = 0
        · rw [if_pos c7] at H
          have c7b0 : ((t128.length : Int) == 0) = true := beq_iff_eq.mpr c7
          have c7b1 : ((t128.length : Int) != 0) = false := bne_eq_false_iff_eq.mpr c7
          clear c7
          simp only [Option.some.injEq, Prod.mk.injEq] at H
          obtain ⟨rfl, rfl, rfl, rfl, rfl, rfl, rfl⟩ := H
          go_enter Try.func15, Try.ntmps15
          go_wp2_with (first | ((with_reducible refine gate_dst (N := 4) rfl ?_); (try (refine gate_guard (by rfl) ?_; dsimp only)); refine box_event ?hg (N := 4) ?hd (cs := #[.int .i64 0, .int .i64 0, .int .i64 0, .bool false, .slice none 0 0, .int .i64 0]) (t := 32) ?hr ?_; (case hd => rfl); (case hg => rfl); (case hr => first | (go_simp; done) | (go_simp; rfl)); intro gb118 hg w8 hbox hb; have n0_ := Aside0.mk (below_step (by repeat (first | (with_reducible first | exact HB.out | apply below_alloc | apply pw_below_drewN | apply below_drew1) | exact HB.out)) hb); have n1_ := Aside0.mk (hbox); have n2_ := Aside0.mk ((by rw [hg]; exact (below_size (by repeat (first | (with_reducible first | exact HB.out | apply below_alloc | apply pw_below_drewN | apply below_drew1) | exact HB.out))) : w.heap.size ≤ gb118)); have n3_ := Aside0.mk ((by rw [hg]; exact (below_size (by repeat (first | (with_reducible first | exact HB.out | apply below_alloc | apply pw_below_drewN | apply below_drew1) | exact HB.out))) : w.heap.size ≤ gb118)); clear HB; have HB := n0_; have BK118 := n1_; have GW118 := n2_; have GE118 := n3_; clear n0_ n1_ n2_ n3_; clear hb hbox hg) | ((with_reducible refine gate_dst (N := 8) rfl ?_); (try (refine gate_guard (by rfl) ?_; dsimp only)); refine Kd.R_lit k25 _ 25 ?hg (N := 8) ?hd (xs := ([] : List (S25))) (inner := []) (ok := fun _ => True) (okp := fun _ => True) ?hr ?hp (fun _ hk => hk) trivial (Below.refl _ _) (Nat.le_refl _) (by simp) ?_; (case hd => rfl); (case hg => rfl); (case hr => first | (go_simp; done) | (go_simp; rfl)); (case hp => exact (Reps.none _ _)); intro v120 w9 ho10 hb hg_ hnew_; clear hg_ hnew_; (first | rw [← Ny119.out] at ho10 | (simp only [Int.reduceToNat] at ho10; rw [← Ny119.out] at ho10)); have n0_ := Aside0.mk (Kd.R_lower ho10 (below_size (by repeat (first | (with_reducible first | exact HB.out | apply below_alloc | apply pw_below_drewN | apply below_drew1 | refine below_set ?_ GE118.out) | exact HB.out)))); have n1_ := Aside0.mk (blk_below (g := gb118) (o := .cells #[.int .i64 0, .int .i64 0, .int .i64 0, .bool false, .slice none 0 0, .int .i64 0] 32 (0, 0)) (by (with_reducible repeat (first | refine blk_drewN ?_ _ | refine blk_drew ?_ | refine blk_alloc ?_ _)); exact BK118.out) hb); have n2_ := Aside0.mk (below_step (by repeat (first | (with_reducible first | exact HB.out | apply below_alloc | apply pw_below_drewN | apply below_drew1 | refine below_set ?_ GE118.out) | exact HB.out)) hb); clear BK118; clear HB; have HO121 := n0_; have BK118 := n1_; have HB := n2_; clear n0_ n1_ n2_; clear hb ho10) | ((with_reducible refine gate_builtin (b := .append) (xs := #[.tmp 8, .tmp 9]) rfl ?_); (try (refine gate_guard (by rfl) ?_; dsimp only)); at_builtin; refine Kd.R_append_rows k25 (w0 := w) w.heap.size rfl (.tmp 8) (.tmp 9) 22 25 (.agg #[(.int .i64 0), (.int .i64 0), (.int .i64 0), (.int .i64 0)]) 32 rfl Try.underlying22 info25 rfl (by decide) (by omega) v120 y119 l0 _ _ _ (fun _ => True) (fun _ => False) rfl rfl ?aO ?aR (fun _ _ h => h) (fun _ h => h.elim) ?aF ?aB ?aS ?aL ?_; (case aR => repeat (first | exact (Kd.C_below HR0.out HB.out) | (with_reducible refine Kd.C_alloc ?_ _) | (with_reducible refine Kd.C_drewN ?_ _) | (with_reducible refine Kd.C_drew ?_))); (case aB => exact (by repeat (first | (with_reducible first | exact HB.out | apply below_alloc | apply pw_below_drewN | apply below_drew1 | refine below_set ?_ GE118.out) | exact HB.out))); (case aF => exact (fun _ _ => trivial)); (case aO => exact (by (with_reducible repeat (first | apply Kd.R_alloc | apply Kd.R_drewN | apply Kd.R_drew)); exact HO121.out)); (case aS => exact (below_size (by repeat (first | (with_reducible first | exact HB.out | apply below_alloc | apply pw_below_drewN | apply below_drew1 | refine below_set ?_ GE118.out) | exact HB.out)))); (case aL => have := LMc3.out; omega); intro v123 w11 ho hb hg hat; rw [← Ny122.out] at ho; have n0_ := Aside0.mk (blk_grown (g := gb118) (o := .cells #[.int .i64 0, .int .i64 0, .int .i64 0, .bool false, .slice none 0 0, .int .i64 0] 32 (0, 0)) (by (with_reducible repeat (first | refine blk_drewN ?_ _ | refine blk_drew ?_ | refine blk_alloc ?_ _)); exact BK118.out) hg (Kd.R_ne HO121.out BK118.out (by decide))); have n1_ := Aside0.mk (hb); have n2_ := Aside0.mk (ho); clear BK118; clear HB; clear HO121; have BK118 := n0_; have HB := n1_; have HO124 := n2_; clear n0_ n1_ n2_; clear ho hb hg hat) | ((with_reducible refine gate_builtin (b := .append) (xs := #[.tmp 10, .tmp 11]) rfl ?_); (try (refine gate_guard (by rfl) ?_; dsimp only)); at_builtin; refine Kd.R_append_rows k25 (w0 := w) w.heap.size rfl (.tmp 10) (.tmp 11) 22 25 (.agg #[(.int .i64 0), (.int .i64 0), (.int .i64 0), (.int .i64 0)]) 32 rfl Try.underlying22 info25 rfl (by decide) (by omega) v123 y122 l1 _ _ _ (fun _ => True) (fun _ => False) rfl rfl ?aO ?aR (fun _ _ h => h) (fun _ h => h.elim) ?aF ?aB ?aS ?aL ?_; (case aR => repeat (first | exact (Kd.C_below HR1.out HB.out) | (with_reducible refine Kd.C_alloc ?_ _) | (with_reducible refine Kd.C_drewN ?_ _) | (with_reducible refine Kd.C_drew ?_))); (case aB => exact (by repeat (first | (with_reducible first | exact HB.out | apply below_alloc | apply pw_below_drewN | apply below_drew1 | refine below_set ?_ GE118.out) | exact HB.out))); (case aF => exact (fun _ _ => trivial)); (case aO => exact (by (with_reducible repeat (first | apply Kd.R_alloc | apply Kd.R_drewN | apply Kd.R_drew)); exact HO124.out)); (case aS => exact (below_size (by repeat (first | (with_reducible first | exact HB.out | apply below_alloc | apply pw_below_drewN | apply below_drew1 | refine below_set ?_ GE118.out) | exact HB.out)))); (case aL => have := LMc4.out; omega); intro v126 w12 ho hb hg hat; rw [← Ny125.out] at ho; have n0_ := Aside0.mk (blk_grown (g := gb118) (o := .cells #[.int .i64 0, .int .i64 0, .int .i64 0, .bool false, .slice none 0 0, .int .i64 0] 32 (0, 0)) (by (with_reducible repeat (first | refine blk_drewN ?_ _ | refine blk_drew ?_ | refine blk_alloc ?_ _)); exact BK118.out) hg (Kd.R_ne HO124.out BK118.out (by decide))); have n1_ := Aside0.mk (hb); have n2_ := Aside0.mk (ho); clear BK118; clear HB; clear HO124; have BK118 := n0_; have HB := n1_; have HO127 := n2_; clear n0_ n1_ n2_; clear ho hb hg hat; obtain ⟨Ao13, co13, eo13⟩ := Kd.R_slice HO127.out; subst eo13) | ((with_reducible refine gate_callee (f := 11) rfl ?_); refine goesL_ (some 14) rfl rfl Try.func11 (by kernel_rfl) rfl #[.slice Ao13 y125.length co13] rfl (by (try simp only [List.map_toArray, List.map_cons, List.map_nil]); first | done | rfl | (simp only [List.length_drop, List.length_take]; rfl)) ?_; (with_reducible refine (impl_IntervalRun.calls _ _ y125 t128 _ ?side1 ?side2 A5.out).mono ?_); (case side1 => repeat (first | exact (Kd.R_reads' HO127.out).2.2 | (with_reducible refine Kd.C_alloc ?_ _) | (with_reducible refine Kd.C_drewN ?_ _) | (with_reducible refine Kd.C_drew ?_))); (case side2 => exact (Kd.R_reads' HO127.out).2.1); rintro e w14 ⟨v129, rfl, ho0, hb⟩; refine ⟨_, rfl, ?_⟩; have n0_ := Aside0.mk (Kd.R_below (by (with_reducible repeat (first | apply Kd.R_alloc | apply Kd.R_drewN | apply Kd.R_drew)); exact HO127.out) hb); have n1_ := Aside0.mk (Kd.S_lower (Kd.S_newB ho0 (g := gb118) (o := .cells #[.int .i64 0, .int .i64 0, .int .i64 0, .bool false, .slice none 0 0, .int .i64 0] 32 (0, 0)) (by (with_reducible repeat (first | refine blk_drewN ?_ _ | refine blk_drew ?_ | refine blk_alloc ?_ _)); exact BK118.out)) (below_size (by repeat (first | (with_reducible first | exact HB.out | apply below_alloc | apply pw_below_drewN | apply below_drew1 | refine below_set ?_ GE118.out) | exact HB.out)))); have n2_ := Aside0.mk (blk_below (g := gb118) (o := .cells #[.int .i64 0, .int .i64 0, .int .i64 0, .bool false, .slice none 0 0, .int .i64 0] 32 (0, 0)) (by (with_reducible repeat (first | refine blk_drewN ?_ _ | refine blk_drew ?_ | refine blk_alloc ?_ _)); exact BK118.out) hb); have n3_ := Aside0.mk (below_step (by repeat (first | (with_reducible first | exact HB.out | apply below_alloc | apply pw_below_drewN | apply below_drew1 | refine below_set ?_ GE118.out) | exact HB.out)) hb); clear HO127; clear BK118; clear HB; have HO127 := n0_; have HO130 := n1_; have BK118 := n2_; have HB := n3_; clear n0_ n1_ n2_ n3_; (try clear hb); (try clear hb2); (try clear hk); (try clear hi); (try clear ho0); obtain ⟨Ao15, co15, eo15⟩ := Kd.S_slice HO130.out; subst eo15; have hcz16_0 : w14.cell? ⟨gb118, 0, none⟩ = some (.int .i64 0) := (blk_cell BK118.out 0).trans rfl; have hcz16_1 : w14.cell? ⟨gb118, 1, none⟩ = some (.int .i64 0) := (blk_cell BK118.out 1).trans rfl; have hcz16_2 : w14.cell? ⟨gb118, 2, none⟩ = some (.int .i64 0) := (blk_cell BK118.out 2).trans rfl; have hcz16_3 : w14.cell? ⟨gb118, 3, none⟩ = some (.bool false) := (blk_cell BK118.out 3).trans rfl; have hcz16_4 : w14.cell? ⟨gb118, 4, none⟩ = some (.slice none 0 0) := (blk_cell BK118.out 4).trans rfl; have hcz16_5 : w14.cell? ⟨gb118, 5, none⟩ = some (.int .i64 0) := (blk_cell BK118.out 5).trans rfl; have hfz16_0 := blk_frozen BK118.out 0; have hfz16_1 := blk_frozen BK118.out 1; have hfz16_2 := blk_frozen BK118.out 2; have hfz16_3 := blk_frozen BK118.out 3; have hfz16_4 := blk_frozen BK118.out 4; have hfz16_5 := blk_frozen BK118.out 5))
          refine bodyPost_ret (results_ct rfl _ _ gb118 32 #[.int .i64 0, .int .i64 0, .int .i64 0, .bool false, .slice none 0 0, .int .i64 0] (0, 0) _ rfl (by (with_reducible repeat (first | refine blk_drewN ?_ _ | refine blk_drew ?_ | refine blk_alloc ?_ _)); refine blk_put (cs := #[.int .i64 0, .int .i64 0, .int .i64 0, .bool false, .slice none 0 0, .int .i64 0]) ?_ 5 _ rfl; (with_reducible repeat (first | refine blk_drewN ?_ _ | refine blk_drew ?_ | refine blk_alloc ?_ _)); refine blk_put (cs := #[.int .i64 0, .int .i64 0, .int .i64 0, .bool false, .slice none 0 0, .int .i64 0]) ?_ 4 _ rfl; (with_reducible repeat (first | refine blk_drewN ?_ _ | refine blk_drew ?_ | refine blk_alloc ?_ _)); refine blk_put (cs := #[.int .i64 0, .int .i64 0, .int .i64 0, .bool false, .slice none 0 0, .int .i64 0]) ?_ 3 _ rfl; (with_reducible repeat (first | refine blk_drewN ?_ _ | refine blk_drew ?_ | refine blk_alloc ?_ _)); refine blk_put (cs := #[.int .i64 0, .int .i64 0, .int .i64 0, .bool false, .slice none 0 0, .int .i64 0]) ?_ 2 _ rfl; (with_reducible repeat (first | refine blk_drewN ?_ _ | refine blk_drew ?_ | refine blk_alloc ?_ _)); refine blk_put (cs := #[.int .i64 0, .int .i64 0, .int .i64 0, .bool false, .slice none 0 0, .int .i64 0]) ?_ 1 _ rfl; (with_reducible repeat (first | refine blk_drewN ?_ _ | refine blk_drew ?_ | refine blk_alloc ?_ _)); refine blk_put (cs := #[.int .i64 0, .int .i64 0, .int .i64 0, .bool false, .slice none 0 0, .int .i64 0]) ?_ 0 _ rfl; (with_reducible repeat (first | refine blk_drewN ?_ _ | refine blk_drew ?_ | refine blk_alloc ?_ _)); exact BK118.out) Try.underlying32 rfl (by kernel_rfl)) rfl ?_
          exact ⟨_, by first | rfl | (simp [errW_none, errW_some] <;> rfl) | (simp [*, errW_none, errW_some] <;> rfl), by first | exact Kd.R_nil _ _ _ _ _ | exact Kd.N_nil _ _ _ _ _ | exact Kd.V_nil _ _ _ _ _ | exact Kd.Q_nil _ _ _ _ _ | exact Kd.S_nil _ _ _ _ _, by repeat (first | (with_reducible first | exact HB.out | apply below_alloc | apply pw_below_drewN | apply below_drew1 | refine below_set ?_ GE118.out) | exact HB.out)⟩
        · rw [if_neg c7] at H
          have c7b0 : ((t128.length : Int) == 0) = false := beq_eq_false_iff_ne.mpr c7
          have c7b1 : ((t128.length : Int) != 0) = true := bne_iff_ne.mpr c7
          have c7b2 : ¬ (t128 = []) := fun h_ => c7 (by rw [h_]; rfl)
          obtain ⟨ji17, hji17⟩ : ∃ j_ : Int, (wrap64 ((t128.length : Int) - 1)) = j_ := ⟨_, rfl⟩
          replace H : (if 0 ≤ (ji17) then (if (ji17) < (t128.length : Int) then (some ((rd_T32 t128 (ji17)).f0.f0, (rd_T32 t128 (ji17)).f0.f1, (rd_T32 t128 (ji17)).f0.f2, (rd_T32 t128 (ji17)).f1, (rd_T32 t128 (ji17)).f2, (rd_T32 t128 (ji17)).f3, true)) else (none)) else (none)) = some (r1, r2, r3, r4, r5, r6, r7) := by first | (rw [hji17] at H; exact H) | (simp only [hji17] at H ⊢; exact H)
          (try rw [hji17] at A5)
          have hji17w : (IntKind.i64.wrap ((t128.length : Int) - 1)) = ji17 := (i64_w _).trans hji17
          by_cases c18 : 0 ≤ (ji17)
          · rw [if_pos c18] at H
            have c18b0 : decide (0 ≤ (ji17)) = true := decide_eq_true c18
            clear c18
            by_cases c19 : (ji17) < (t128.length : Int)
            · rw [if_pos c19] at H
              have c19b0 : decide ((ji17) < (t128.length : Int)) = true := decide_eq_true c19
              clear c19
              simp only [Option.some.injEq, Prod.mk.injEq] at H
              obtain ⟨rfl, rfl, rfl, rfl, rfl, rfl, rfl⟩ := H
              go_enter Try.func15, Try.ntmps15
              go_wp2_with (first | ((with_reducible refine gate_dst (N := 4) rfl ?_); (try (refine gate_guard (by rfl) ?_; dsimp only)); refine box_event ?hg (N := 4) ?hd (cs := #[.int .i64 0, .int .i64 0, .int .i64 0, .bool false, .slice none 0 0, .int .i64 0]) (t := 32) ?hr ?_; (case hd => rfl); (case hg => rfl); (case hr => first | (go_simp; done) | (go_simp; rfl)); intro gb118 hg w20 hbox hb; have n0_ := Aside0.mk (below_step (by repeat (first | (with_reducible first | exact HB.out | apply below_alloc | apply pw_below_drewN | apply below_drew1) | exact HB.out)) hb); have n1_ := Aside0.mk (hbox); have n2_ := Aside0.mk ((by rw [hg]; exact (below_size (by repeat (first | (with_reducible first | exact HB.out | apply below_alloc | apply pw_below_drewN | apply below_drew1) | exact HB.out))) : w.heap.size ≤ gb118)); have n3_ := Aside0.mk ((by rw [hg]; exact (below_size (by repeat (first | (with_reducible first | exact HB.out | apply below_alloc | apply pw_below_drewN | apply below_drew1) | exact HB.out))) : w.heap.size ≤ gb118)); clear HB; have HB := n0_; have BK118 := n1_; have GW118 := n2_; have GE118 := n3_; clear n0_ n1_ n2_ n3_; clear hb hbox hg) | ((with_reducible refine gate_dst (N := 8) rfl ?_); (try (refine gate_guard (by rfl) ?_; dsimp only)); refine Kd.R_lit k25 _ 25 ?hg (N := 8) ?hd (xs := ([] : List (S25))) (inner := []) (ok := fun _ => True) (okp := fun _ => True) ?hr ?hp (fun _ hk => hk) trivial (Below.refl _ _) (Nat.le_refl _) (by simp) ?_; (case hd => rfl); (case hg => rfl); (case hr => first | (go_simp; done) | (go_simp; rfl)); (case hp => exact (Reps.none _ _)); intro v120 w21 ho22 hb hg_ hnew_; clear hg_ hnew_; (first | rw [← Ny119.out] at ho22 | (simp only [Int.reduceToNat] at ho22; rw [← Ny119.out] at ho22)); have n0_ := Aside0.mk (Kd.R_lower ho22 (below_size (by repeat (first | (with_reducible first | exact HB.out | apply below_alloc | apply pw_below_drewN | apply below_drew1 | refine below_set ?_ GE118.out) | exact HB.out)))); have n1_ := Aside0.mk (blk_below (g := gb118) (o := .cells #[.int .i64 0, .int .i64 0, .int .i64 0, .bool false, .slice none 0 0, .int .i64 0] 32 (0, 0)) (by (with_reducible repeat (first | refine blk_drewN ?_ _ | refine blk_drew ?_ | refine blk_alloc ?_ _)); exact BK118.out) hb); have n2_ := Aside0.mk (below_step (by repeat (first | (with_reducible first | exact HB.out | apply below_alloc | apply pw_below_drewN | apply below_drew1 | refine below_set ?_ GE118.out) | exact HB.out)) hb); clear BK118; clear HB; have HO121 := n0_; have BK118 := n1_; have HB := n2_; clear n0_ n1_ n2_; clear hb ho22) | ((with_reducible refine gate_builtin (b := .append) (xs := #[.tmp 8, .tmp 9]) rfl ?_); (try (refine gate_guard (by rfl) ?_; dsimp only)); at_builtin; refine Kd.R_append_rows k25 (w0 := w) w.heap.size rfl (.tmp 8) (.tmp 9) 22 25 (.agg #[(.int .i64 0), (.int .i64 0), (.int .i64 0), (.int .i64 0)]) 32 rfl Try.underlying22 info25 rfl (by decide) (by omega) v120 y119 l0 _ _ _ (fun _ => True) (fun _ => False) rfl rfl ?aO ?aR (fun _ _ h => h) (fun _ h => h.elim) ?aF ?aB ?aS ?aL ?_; (case aR => repeat (first | exact (Kd.C_below HR0.out HB.out) | (with_reducible refine Kd.C_alloc ?_ _) | (with_reducible refine Kd.C_drewN ?_ _) | (with_reducible refine Kd.C_drew ?_))); (case aB => exact (by repeat (first | (with_reducible first | exact HB.out | apply below_alloc | apply pw_below_drewN | apply below_drew1 | refine below_set ?_ GE118.out) | exact HB.out))); (case aF => exact (fun _ _ => trivial)); (case aO => exact (by (with_reducible repeat (first | apply Kd.R_alloc | apply Kd.R_drewN | apply Kd.R_drew)); exact HO121.out)); (case aS => exact (below_size (by repeat (first | (with_reducible first | exact HB.out | apply below_alloc | apply pw_below_drewN | apply below_drew1 | refine below_set ?_ GE118.out) | exact HB.out)))); (case aL => have := LMc3.out; omega); intro v123 w23 ho hb hg hat; rw [← Ny122.out] at ho; have n0_ := Aside0.mk (blk_grown (g := gb118) (o := .cells #[.int .i64 0, .int .i64 0, .int .i64 0, .bool false, .slice none 0 0, .int .i64 0] 32 (0, 0)) (by (with_reducible repeat (first | refine blk_drewN ?_ _ | refine blk_drew ?_ | refine blk_alloc ?_ _)); exact BK118.out) hg (Kd.R_ne HO121.out BK118.out (by decide))); have n1_ := Aside0.mk (hb); have n2_ := Aside0.mk (ho); clear BK118; clear HB; clear HO121; have BK118 := n0_; have HB := n1_; have HO124 := n2_; clear n0_ n1_ n2_; clear ho hb hg hat) | ((with_reducible refine gate_builtin (b := .append) (xs := #[.tmp 10, .tmp 11]) rfl ?_); (try (refine gate_guard (by rfl) ?_; dsimp only)); at_builtin; refine Kd.R_append_rows k25 (w0 := w) w.heap.size rfl (.tmp 10) (.tmp 11) 22 25 (.agg #[(.int .i64 0), (.int .i64 0), (.int .i64 0), (.int .i64 0)]) 32 rfl Try.underlying22 info25 rfl (by decide) (by omega) v123 y122 l1 _ _ _ (fun _ => True) (fun _ => False) rfl rfl ?aO ?aR (fun _ _ h => h) (fun _ h => h.elim) ?aF ?aB ?aS ?aL ?_; (case aR => repeat (first | exact (Kd.C_below HR1.out HB.out) | (with_reducible refine Kd.C_alloc ?_ _) | (with_reducible refine Kd.C_drewN ?_ _) | (with_reducible refine Kd.C_drew ?_))); (case aB => exact (by repeat (first | (with_reducible first | exact HB.out | apply below_alloc | apply pw_below_drewN | apply below_drew1 | refine below_set ?_ GE118.out) | exact HB.out))); (case aF => exact (fun _ _ => trivial)); (case aO => exact (by (with_reducible repeat (first | apply Kd.R_alloc | apply Kd.R_drewN | apply Kd.R_drew)); exact HO124.out)); (case aS => exact (below_size (by repeat (first | (with_reducible first | exact HB.out | apply below_alloc | apply pw_below_drewN | apply below_drew1 | refine below_set ?_ GE118.out) | exact HB.out)))); (case aL => have := LMc4.out; omega); intro v126 w24 ho hb hg hat; rw [← Ny125.out] at ho; have n0_ := Aside0.mk (blk_grown (g := gb118) (o := .cells #[.int .i64 0, .int .i64 0, .int .i64 0, .bool false, .slice none 0 0, .int .i64 0] 32 (0, 0)) (by (with_reducible repeat (first | refine blk_drewN ?_ _ | refine blk_drew ?_ | refine blk_alloc ?_ _)); exact BK118.out) hg (Kd.R_ne HO124.out BK118.out (by decide))); have n1_ := Aside0.mk (hb); have n2_ := Aside0.mk (ho); clear BK118; clear HB; clear HO124; have BK118 := n0_; have HB := n1_; have HO127 := n2_; clear n0_ n1_ n2_; clear ho hb hg hat; obtain ⟨Ao25, co25, eo25⟩ := Kd.R_slice HO127.out; subst eo25) | ((with_reducible refine gate_callee (f := 11) rfl ?_); refine goesL_ (some 14) rfl rfl Try.func11 (by kernel_rfl) rfl #[.slice Ao25 y125.length co25] rfl (by (try simp only [List.map_toArray, List.map_cons, List.map_nil]); first | done | rfl | (simp only [List.length_drop, List.length_take]; rfl)) ?_; (with_reducible refine (impl_IntervalRun.calls _ _ y125 t128 _ ?side1 ?side2 A5.out).mono ?_); (case side1 => repeat (first | exact (Kd.R_reads' HO127.out).2.2 | (with_reducible refine Kd.C_alloc ?_ _) | (with_reducible refine Kd.C_drewN ?_ _) | (with_reducible refine Kd.C_drew ?_))); (case side2 => exact (Kd.R_reads' HO127.out).2.1); rintro e w26 ⟨v129, rfl, ho0, hb⟩; refine ⟨_, rfl, ?_⟩; have n0_ := Aside0.mk (Kd.R_below (by (with_reducible repeat (first | apply Kd.R_alloc | apply Kd.R_drewN | apply Kd.R_drew)); exact HO127.out) hb); have n1_ := Aside0.mk (Kd.S_lower (Kd.S_newB ho0 (g := gb118) (o := .cells #[.int .i64 0, .int .i64 0, .int .i64 0, .bool false, .slice none 0 0, .int .i64 0] 32 (0, 0)) (by (with_reducible repeat (first | refine blk_drewN ?_ _ | refine blk_drew ?_ | refine blk_alloc ?_ _)); exact BK118.out)) (below_size (by repeat (first | (with_reducible first | exact HB.out | apply below_alloc | apply pw_below_drewN | apply below_drew1 | refine below_set ?_ GE118.out) | exact HB.out)))); have n2_ := Aside0.mk (blk_below (g := gb118) (o := .cells #[.int .i64 0, .int .i64 0, .int .i64 0, .bool false, .slice none 0 0, .int .i64 0] 32 (0, 0)) (by (with_reducible repeat (first | refine blk_drewN ?_ _ | refine blk_drew ?_ | refine blk_alloc ?_ _)); exact BK118.out) hb); have n3_ := Aside0.mk (below_step (by repeat (first | (with_reducible first | exact HB.out | apply below_alloc | apply pw_below_drewN | apply below_drew1 | refine below_set ?_ GE118.out) | exact HB.out)) hb); clear HO127; clear BK118; clear HB; have HO127 := n0_; have HO130 := n1_; have BK118 := n2_; have HB := n3_; clear n0_ n1_ n2_ n3_; (try clear hb); (try clear hb2); (try clear hk); (try clear hi); (try clear ho0); obtain ⟨Ao27, co27, eo27⟩ := Kd.S_slice HO130.out; subst eo27; have p131 : 0 ≤ ((ji17) : Int) := of_decide_eq_true (by first | (with_reducible assumption) | assumption); have q131 : (ji17) < (t128.length : Int) := of_decide_eq_true (by first | (with_reducible assumption) | assumption); obtain ⟨ad131, A131_4, c131_4, e131, hx131_0, hx131_1, hx131_2, hx131_3, hx131_4, hx131_5, hl131_4, hi131_4⟩ := at_T32 (Kd.S_reads' HO130.out).2.2 (ji17) p131 q131; cases e131; obtain ⟨ce131, hce131, hMe131, hcc131⟩ := Kd.S_get HO130.out z32 (ji17) p131 (by first | exact q131 | exact of_decide_eq_true (by first | (with_reducible assumption) | assumption) | (have e_ := (Kd.S_reads' HO130.out).1; omega)); obtain ⟨ve131_4, rfl, ge131_4⟩ := k32_openM hMe131; have hv131_4 := hcc131 4 _ rfl; rw [add_field _ _ 4 (by omega)] at hv131_4; replace hv131_4 := Option.some.inj (hv131_4.symm.trans hx131_4); rw [hv131_4] at ge131_4; have HL131_4 := Aside0.mk (show Kd.R k29 29 _ _ _ _ ((rd_T32 t128 (ji17)).f2) from ge131_4); clear hv131_4 ge131_4; clear hcc131 hce131; have HR131_4 := Aside0.mk hi131_4; have HC131_4 := Aside0.mk hl131_4; clear hi131_4 hl131_4; replace p131 := eq_true p131; replace q131 := eq_true q131; have hcz28_0 : w26.cell? ⟨gb118, 0, none⟩ = some (.int .i64 0) := (blk_cell BK118.out 0).trans rfl; have hcz28_1 : w26.cell? ⟨gb118, 1, none⟩ = some (.int .i64 0) := (blk_cell BK118.out 1).trans rfl; have hcz28_2 : w26.cell? ⟨gb118, 2, none⟩ = some (.int .i64 0) := (blk_cell BK118.out 2).trans rfl; have hcz28_3 : w26.cell? ⟨gb118, 3, none⟩ = some (.bool false) := (blk_cell BK118.out 3).trans rfl; have hcz28_4 : w26.cell? ⟨gb118, 4, none⟩ = some (.slice none 0 0) := (blk_cell BK118.out 4).trans rfl; have hcz28_5 : w26.cell? ⟨gb118, 5, none⟩ = some (.int .i64 0) := (blk_cell BK118.out 5).trans rfl; have hfz28_0 := blk_frozen BK118.out 0; have hfz28_1 := blk_frozen BK118.out 1; have hfz28_2 := blk_frozen BK118.out 2; have hfz28_3 := blk_frozen BK118.out 3; have hfz28_4 := blk_frozen BK118.out 4; have hfz28_5 := blk_frozen BK118.out 5))
              refine bodyPost_ret (results_ct rfl _ _ gb118 32 #[.int .i64 ((rd_T32 t128 (ji17)).f0.f0), .int .i64 ((rd_T32 t128 (ji17)).f0.f1), .int .i64 ((rd_T32 t128 (ji17)).f0.f2), .bool ((rd_T32 t128 (ji17)).f1), .slice A131_4 ((rd_T32 t128 (ji17)).f2).length c131_4, .int .i64 ((rd_T32 t128 (ji17)).f3)] (0, 0) _ rfl (by (with_reducible repeat (first | refine blk_drewN ?_ _ | refine blk_drew ?_ | refine blk_alloc ?_ _)); refine blk_put (cs := #[.int .i64 ((rd_T32 t128 (ji17)).f0.f0), .int .i64 ((rd_T32 t128 (ji17)).f0.f1), .int .i64 ((rd_T32 t128 (ji17)).f0.f2), .bool ((rd_T32 t128 (ji17)).f1), .slice A131_4 ((rd_T32 t128 (ji17)).f2).length c131_4, .int .i64 0]) ?_ 5 _ rfl; (with_reducible repeat (first | refine blk_drewN ?_ _ | refine blk_drew ?_ | refine blk_alloc ?_ _)); refine blk_put (cs := #[.int .i64 ((rd_T32 t128 (ji17)).f0.f0), .int .i64 ((rd_T32 t128 (ji17)).f0.f1), .int .i64 ((rd_T32 t128 (ji17)).f0.f2), .bool ((rd_T32 t128 (ji17)).f1), .slice none 0 0, .int .i64 0]) ?_ 4 _ rfl; (with_reducible repeat (first | refine blk_drewN ?_ _ | refine blk_drew ?_ | refine blk_alloc ?_ _)); refine blk_put (cs := #[.int .i64 ((rd_T32 t128 (ji17)).f0.f0), .int .i64 ((rd_T32 t128 (ji17)).f0.f1), .int .i64 ((rd_T32 t128 (ji17)).f0.f2), .bool false, .slice none 0 0, .int .i64 0]) ?_ 3 _ rfl; (with_reducible repeat (first | refine blk_drewN ?_ _ | refine blk_drew ?_ | refine blk_alloc ?_ _)); refine blk_put (cs := #[.int .i64 ((rd_T32 t128 (ji17)).f0.f0), .int .i64 ((rd_T32 t128 (ji17)).f0.f1), .int .i64 0, .bool false, .slice none 0 0, .int .i64 0]) ?_ 2 _ rfl; (with_reducible repeat (first | refine blk_drewN ?_ _ | refine blk_drew ?_ | refine blk_alloc ?_ _)); refine blk_put (cs := #[.int .i64 ((rd_T32 t128 (ji17)).f0.f0), .int .i64 0, .int .i64 0, .bool false, .slice none 0 0, .int .i64 0]) ?_ 1 _ rfl; (with_reducible repeat (first | refine blk_drewN ?_ _ | refine blk_drew ?_ | refine blk_alloc ?_ _)); refine blk_put (cs := #[.int .i64 0, .int .i64 0, .int .i64 0, .bool false, .slice none 0 0, .int .i64 0]) ?_ 0 _ rfl; (with_reducible repeat (first | refine blk_drewN ?_ _ | refine blk_drew ?_ | refine blk_alloc ?_ _)); exact BK118.out) Try.underlying32 rfl (by kernel_rfl)) rfl ?_
              exact ⟨_, by first | rfl | (simp [errW_none, errW_some] <;> rfl) | (simp only [← hji17]; first | rfl | (simp [errW_none, errW_some] <;> rfl)) | (simp [*, errW_none, errW_some] <;> rfl), by (with_reducible repeat (first | apply Kd.R_alloc | apply Kd.R_drewN | apply Kd.R_drew)); exact Kd.R_mono (Kd.R_far (p := ⟨gb118, 5, none⟩) (Kd.R_far (p := ⟨gb118, 4, none⟩) (Kd.R_far (p := ⟨gb118, 3, none⟩) (Kd.R_far (p := ⟨gb118, 2, none⟩) (Kd.R_far (p := ⟨gb118, 1, none⟩) (Kd.R_far (p := ⟨gb118, 0, none⟩) (Kd.R_types HL131_4.out BK118.out (by decide)) (fun _ hk => hk.2) (.int .i64 ((rd_T32 t128 (ji17)).f0.f0))) (fun _ hk => hk.2) (.int .i64 ((rd_T32 t128 (ji17)).f0.f1))) (fun _ hk => hk.2) (.int .i64 ((rd_T32 t128 (ji17)).f0.f2))) (fun _ hk => hk.2) (.bool ((rd_T32 t128 (ji17)).f1))) (fun _ hk => hk.2) (.slice A131_4 ((rd_T32 t128 (ji17)).f2).length c131_4)) (fun _ hk => hk.2) (.int .i64 ((rd_T32 t128 (ji17)).f3))) (fun _ hk => trivial), by repeat (first | (with_reducible first | exact HB.out | apply below_alloc | apply pw_below_drewN | apply below_drew1 | refine below_set ?_ GE118.out) | exact HB.out)⟩
            · rw [if_neg c19] at H
              exact absurd H (by simp)
          · rw [if_neg c18] at H
            exact absurd H (by simp)
      · rw [if_neg c6] at H
        have c6b0 : ((t128.length : Int) == (y125.length : Int)) = false := beq_eq_false_iff_ne.mpr c6
        have c6b1 : ((t128.length : Int) != (y125.length : Int)) = true := bne_iff_ne.mpr c6
        have c6b2 : (t128.length == y125.length) = false := by first | simpa using c6 | (simp at c6 ⊢; omega)
        simp only [Option.some.injEq, Prod.mk.injEq] at H
        obtain ⟨rfl, rfl, rfl, rfl, rfl, rfl, rfl⟩ := H
        go_enter Try.func15, Try.ntmps15
        go_wp2_with (first | ((with_reducible refine gate_dst (N := 4) rfl ?_); (try (refine gate_guard (by rfl) ?_; dsimp only)); refine box_event ?hg (N := 4) ?hd (cs := #[.int .i64 0, .int .i64 0, .int .i64 0, .bool false, .slice none 0 0, .int .i64 0]) (t := 32) ?hr ?_; (case hd => rfl); (case hg => rfl); (case hr => first | (go_simp; done) | (go_simp; rfl)); intro gb118 hg w29 hbox hb; have n0_ := Aside0.mk (below_step (by repeat (first | (with_reducible first | exact HB.out | apply below_alloc | apply pw_below_drewN | apply below_drew1) | exact HB.out)) hb); have n1_ := Aside0.mk (hbox); have n2_ := Aside0.mk ((by rw [hg]; exact (below_size (by repeat (first | (with_reducible first | exact HB.out | apply below_alloc | apply pw_below_drewN | apply below_drew1) | exact HB.out))) : w.heap.size ≤ gb118)); have n3_ := Aside0.mk ((by rw [hg]; exact (below_size (by repeat (first | (with_reducible first | exact HB.out | apply below_alloc | apply pw_below_drewN | apply below_drew1) | exact HB.out))) : w.heap.size ≤ gb118)); clear HB; have HB := n0_; have BK118 := n1_; have GW118 := n2_; have GE118 := n3_; clear n0_ n1_ n2_ n3_; clear hb hbox hg) | ((with_reducible refine gate_dst (N := 8) rfl ?_); (try (refine gate_guard (by rfl) ?_; dsimp only)); refine Kd.R_lit k25 _ 25 ?hg (N := 8) ?hd (xs := ([] : List (S25))) (inner := []) (ok := fun _ => True) (okp := fun _ => True) ?hr ?hp (fun _ hk => hk) trivial (Below.refl _ _) (Nat.le_refl _) (by simp) ?_; (case hd => rfl); (case hg => rfl); (case hr => first | (go_simp; done) | (go_simp; rfl)); (case hp => exact (Reps.none _ _)); intro v120 w30 ho31 hb hg_ hnew_; clear hg_ hnew_; (first | rw [← Ny119.out] at ho31 | (simp only [Int.reduceToNat] at ho31; rw [← Ny119.out] at ho31)); have n0_ := Aside0.mk (Kd.R_lower ho31 (below_size (by repeat (first | (with_reducible first | exact HB.out | apply below_alloc | apply pw_below_drewN | apply below_drew1 | refine below_set ?_ GE118.out) | exact HB.out)))); have n1_ := Aside0.mk (blk_below (g := gb118) (o := .cells #[.int .i64 0, .int .i64 0, .int .i64 0, .bool false, .slice none 0 0, .int .i64 0] 32 (0, 0)) (by (with_reducible repeat (first | refine blk_drewN ?_ _ | refine blk_drew ?_ | refine blk_alloc ?_ _)); exact BK118.out) hb); have n2_ := Aside0.mk (below_step (by repeat (first | (with_reducible first | exact HB.out | apply below_alloc | apply pw_below_drewN | apply below_drew1 | refine below_set ?_ GE118.out) | exact HB.out)) hb); clear BK118; clear HB; have HO121 := n0_; have BK118 := n1_; have HB := n2_; clear n0_ n1_ n2_; clear hb ho31) | ((with_reducible refine gate_builtin (b := .append) (xs := #[.tmp 8, .tmp 9]) rfl ?_); (try (refine gate_guard (by rfl) ?_; dsimp only)); at_builtin; refine Kd.R_append_rows k25 (w0 := w) w.heap.size rfl (.tmp 8) (.tmp 9) 22 25 (.agg #[(.int .i64 0), (.int .i64 0), (.int .i64 0), (.int .i64 0)]) 32 rfl Try.underlying22 info25 rfl (by decide) (by omega) v120 y119 l0 _ _ _ (fun _ => True) (fun _ => False) rfl rfl ?aO ?aR (fun _ _ h => h) (fun _ h => h.elim) ?aF ?aB ?aS ?aL ?_; (case aR => repeat (first | exact (Kd.C_below HR0.out HB.out) | (with_reducible refine Kd.C_alloc ?_ _) | (with_reducible refine Kd.C_drewN ?_ _) | (with_reducible refine Kd.C_drew ?_))); (case aB => exact (by repeat (first | (with_reducible first | exact HB.out | apply below_alloc | apply pw_below_drewN | apply below_drew1 | refine below_set ?_ GE118.out) | exact HB.out))); (case aF => exact (fun _ _ => trivial)); (case aO => exact (by (with_reducible repeat (first | apply Kd.R_alloc | apply Kd.R_drewN | apply Kd.R_drew)); exact HO121.out)); (case aS => exact (below_size (by repeat (first | (with_reducible first | exact HB.out | apply below_alloc | apply pw_below_drewN | apply below_drew1 | refine below_set ?_ GE118.out) | exact HB.out)))); (case aL => have := LMc3.out; omega); intro v123 w32 ho hb hg hat; rw [← Ny122.out] at ho; have n0_ := Aside0.mk (blk_grown (g := gb118) (o := .cells #[.int .i64 0, .int .i64 0, .int .i64 0, .bool false, .slice none 0 0, .int .i64 0] 32 (0, 0)) (by (with_reducible repeat (first | refine blk_drewN ?_ _ | refine blk_drew ?_ | refine blk_alloc ?_ _)); exact BK118.out) hg (Kd.R_ne HO121.out BK118.out (by decide))); have n1_ := Aside0.mk (hb); have n2_ := Aside0.mk (ho); clear BK118; clear HB; clear HO121; have BK118 := n0_; have HB := n1_; have HO124 := n2_; clear n0_ n1_ n2_; clear ho hb hg hat) | ((with_reducible refine gate_builtin (b := .append) (xs := #[.tmp 10, .tmp 11]) rfl ?_); (try (refine gate_guard (by rfl) ?_; dsimp only)); at_builtin; refine Kd.R_append_rows k25 (w0 := w) w.heap.size rfl (.tmp 10) (.tmp 11) 22 25 (.agg #[(.int .i64 0), (.int .i64 0), (.int .i64 0), (.int .i64 0)]) 32 rfl Try.underlying22 info25 rfl (by decide) (by omega) v123 y122 l1 _ _ _ (fun _ => True) (fun _ => False) rfl rfl ?aO ?aR (fun _ _ h => h) (fun _ h => h.elim) ?aF ?aB ?aS ?aL ?_; (case aR => repeat (first | exact (Kd.C_below HR1.out HB.out) | (with_reducible refine Kd.C_alloc ?_ _) | (with_reducible refine Kd.C_drewN ?_ _) | (with_reducible refine Kd.C_drew ?_))); (case aB => exact (by repeat (first | (with_reducible first | exact HB.out | apply below_alloc | apply pw_below_drewN | apply below_drew1 | refine below_set ?_ GE118.out) | exact HB.out))); (case aF => exact (fun _ _ => trivial)); (case aO => exact (by (with_reducible repeat (first | apply Kd.R_alloc | apply Kd.R_drewN | apply Kd.R_drew)); exact HO124.out)); (case aS => exact (below_size (by repeat (first | (with_reducible first | exact HB.out | apply below_alloc | apply pw_below_drewN | apply below_drew1 | refine below_set ?_ GE118.out) | exact HB.out)))); (case aL => have := LMc4.out; omega); intro v126 w33 ho hb hg hat; rw [← Ny125.out] at ho; have n0_ := Aside0.mk (blk_grown (g := gb118) (o := .cells #[.int .i64 0, .int .i64 0, .int .i64 0, .bool false, .slice none 0 0, .int .i64 0] 32 (0, 0)) (by (with_reducible repeat (first | refine blk_drewN ?_ _ | refine blk_drew ?_ | refine blk_alloc ?_ _)); exact BK118.out) hg (Kd.R_ne HO124.out BK118.out (by decide))); have n1_ := Aside0.mk (hb); have n2_ := Aside0.mk (ho); clear BK118; clear HB; clear HO124; have BK118 := n0_; have HB := n1_; have HO127 := n2_; clear n0_ n1_ n2_; clear ho hb hg hat; obtain ⟨Ao34, co34, eo34⟩ := Kd.R_slice HO127.out; subst eo34) | ((with_reducible refine gate_callee (f := 11) rfl ?_); refine goesL_ (some 14) rfl rfl Try.func11 (by kernel_rfl) rfl #[.slice Ao34 y125.length co34] rfl (by (try simp only [List.map_toArray, List.map_cons, List.map_nil]); first | done | rfl | (simp only [List.length_drop, List.length_take]; rfl)) ?_; (with_reducible refine (impl_IntervalRun.calls _ _ y125 t128 _ ?side1 ?side2 A5.out).mono ?_); (case side1 => repeat (first | exact (Kd.R_reads' HO127.out).2.2 | (with_reducible refine Kd.C_alloc ?_ _) | (with_reducible refine Kd.C_drewN ?_ _) | (with_reducible refine Kd.C_drew ?_))); (case side2 => exact (Kd.R_reads' HO127.out).2.1); rintro e w35 ⟨v129, rfl, ho0, hb⟩; refine ⟨_, rfl, ?_⟩; have n0_ := Aside0.mk (Kd.R_below (by (with_reducible repeat (first | apply Kd.R_alloc | apply Kd.R_drewN | apply Kd.R_drew)); exact HO127.out) hb); have n1_ := Aside0.mk (Kd.S_lower (Kd.S_newB ho0 (g := gb118) (o := .cells #[.int .i64 0, .int .i64 0, .int .i64 0, .bool false, .slice none 0 0, .int .i64 0] 32 (0, 0)) (by (with_reducible repeat (first | refine blk_drewN ?_ _ | refine blk_drew ?_ | refine blk_alloc ?_ _)); exact BK118.out)) (below_size (by repeat (first | (with_reducible first | exact HB.out | apply below_alloc | apply pw_below_drewN | apply below_drew1 | refine below_set ?_ GE118.out) | exact HB.out)))); have n2_ := Aside0.mk (blk_below (g := gb118) (o := .cells #[.int .i64 0, .int .i64 0, .int .i64 0, .bool false, .slice none 0 0, .int .i64 0] 32 (0, 0)) (by (with_reducible repeat (first | refine blk_drewN ?_ _ | refine blk_drew ?_ | refine blk_alloc ?_ _)); exact BK118.out) hb); have n3_ := Aside0.mk (below_step (by repeat (first | (with_reducible first | exact HB.out | apply below_alloc | apply pw_below_drewN | apply below_drew1 | refine below_set ?_ GE118.out) | exact HB.out)) hb); clear HO127; clear BK118; clear HB; have HO127 := n0_; have HO130 := n1_; have BK118 := n2_; have HB := n3_; clear n0_ n1_ n2_ n3_; (try clear hb); (try clear hb2); (try clear hk); (try clear hi); (try clear ho0); obtain ⟨Ao36, co36, eo36⟩ := Kd.S_slice HO130.out; subst eo36; have hcz37_0 : w35.cell? ⟨gb118, 0, none⟩ = some (.int .i64 0) := (blk_cell BK118.out 0).trans rfl; have hcz37_1 : w35.cell? ⟨gb118, 1, none⟩ = some (.int .i64 0) := (blk_cell BK118.out 1).trans rfl; have hcz37_2 : w35.cell? ⟨gb118, 2, none⟩ = some (.int .i64 0) := (blk_cell BK118.out 2).trans rfl; have hcz37_3 : w35.cell? ⟨gb118, 3, none⟩ = some (.bool false) := (blk_cell BK118.out 3).trans rfl; have hcz37_4 : w35.cell? ⟨gb118, 4, none⟩ = some (.slice none 0 0) := (blk_cell BK118.out 4).trans rfl; have hcz37_5 : w35.cell? ⟨gb118, 5, none⟩ = some (.int .i64 0) := (blk_cell BK118.out 5).trans rfl; have hfz37_0 := blk_frozen BK118.out 0; have hfz37_1 := blk_frozen BK118.out 1; have hfz37_2 := blk_frozen BK118.out 2; have hfz37_3 := blk_frozen BK118.out 3; have hfz37_4 := blk_frozen BK118.out 4; have hfz37_5 := blk_frozen BK118.out 5))
        refine bodyPost_ret (results_ct rfl _ _ gb118 32 #[.int .i64 0, .int .i64 0, .int .i64 0, .bool false, .slice none 0 0, .int .i64 0] (0, 0) _ rfl (by (with_reducible repeat (first | refine blk_drewN ?_ _ | refine blk_drew ?_ | refine blk_alloc ?_ _)); refine blk_put (cs := #[.int .i64 0, .int .i64 0, .int .i64 0, .bool false, .slice none 0 0, .int .i64 0]) ?_ 5 _ rfl; (with_reducible repeat (first | refine blk_drewN ?_ _ | refine blk_drew ?_ | refine blk_alloc ?_ _)); refine blk_put (cs := #[.int .i64 0, .int .i64 0, .int .i64 0, .bool false, .slice none 0 0, .int .i64 0]) ?_ 4 _ rfl; (with_reducible repeat (first | refine blk_drewN ?_ _ | refine blk_drew ?_ | refine blk_alloc ?_ _)); refine blk_put (cs := #[.int .i64 0, .int .i64 0, .int .i64 0, .bool false, .slice none 0 0, .int .i64 0]) ?_ 3 _ rfl; (with_reducible repeat (first | refine blk_drewN ?_ _ | refine blk_drew ?_ | refine blk_alloc ?_ _)); refine blk_put (cs := #[.int .i64 0, .int .i64 0, .int .i64 0, .bool false, .slice none 0 0, .int .i64 0]) ?_ 2 _ rfl; (with_reducible repeat (first | refine blk_drewN ?_ _ | refine blk_drew ?_ | refine blk_alloc ?_ _)); refine blk_put (cs := #[.int .i64 0, .int .i64 0, .int .i64 0, .bool false, .slice none 0 0, .int .i64 0]) ?_ 1 _ rfl; (with_reducible repeat (first | refine blk_drewN ?_ _ | refine blk_drew ?_ | refine blk_alloc ?_ _)); refine blk_put (cs := #[.int .i64 0, .int .i64 0, .int .i64 0, .bool false, .slice none 0 0, .int .i64 0]) ?_ 0 _ rfl; (with_reducible repeat (first | refine blk_drewN ?_ _ | refine blk_drew ?_ | refine blk_alloc ?_ _)); exact BK118.out) Try.underlying32 rfl (by kernel_rfl)) rfl ?_
        exact ⟨_, by first | rfl | (simp [errW_none, errW_some] <;> rfl) | (simp [*, errW_none, errW_some] <;> rfl), by first | exact Kd.R_nil _ _ _ _ _ | exact Kd.N_nil _ _ _ _ _ | exact Kd.V_nil _ _ _ _ _ | exact Kd.Q_nil _ _ _ _ _ | exact Kd.S_nil _ _ _ _ _, by repeat (first | (with_reducible first | exact HB.out | apply below_alloc | apply pw_below_drewN | apply below_drew1 | refine below_set ?_ GE118.out) | exact HB.out)⟩
    · rw [if_neg c4] at H
      exact absurd H (by simp)
  · rw [if_neg c3] at H
    exact absurd H (by simp)

end Go.Proofs.Ytmnjkdbopafkfaa.QFnOverlapsParts
