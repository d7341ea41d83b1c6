-- PRINTED BY print.sh 35421559b90ae4d0a3588c463048766b98c2df88dd9212a6774a882060cdf62d: not written by this session
import Derived.Test.YtdhfpgbidlanaaaPFnGlobIndexx0
namespace Go.Proofs.Ytdhfpgbidlanaaa.PFnGlobIndex
open Go.RowKit Go.Proofs.YtdhfpgbidlanaaaW.PrintWords Go.Proofs.YtdhfpgbidlanaaaW.PrintLast Go.Proofs.YtdhfpgbidlanaaaW.PrintMore
attribute [local go_sem] max2_int min2_int max_two min_two max_three min_three max_four min_four   -- for this text's walks alone
set_option linter.unusedVariables false
set_option linter.unusedSimpArgs false

/-! ### doublestar_indexUnescapedByte: function 40 -/
mutual
def doublestar_indexUnescapedByte.l0 : Nat → ByteArray → Int → Bool → Int → Int → Option (Int)
  | 0, _, _, _, _, _ => none
  | k + 1, x0, x1, x2, x7, x8 => if x8 < x7 then (if x2 = true then (if 0 ≤ x8 then (if x8 < (x0.size : Int) then (doublestar_indexUnescapedByte.j1 k x0 x1 x2 x7 x8 ((bt x0 x8) == 92)) else (none)) else (none)) else (doublestar_indexUnescapedByte.j1 k x0 x1 x2 x7 x8 false)) else (some (-1))
def doublestar_indexUnescapedByte.j1 : Nat → ByteArray → Int → Bool → Int → Int → Bool → Option (Int)
  | 0, _, _, _, _, _, _ => none
  | k + 1, x0, x1, x2, x7, x8, x22 => if x22 = true then (doublestar_indexUnescapedByte.l0 k x0 x1 x2 x7 (wrap64 ((wrap64 (x8 + 1)) + 1))) else (if 0 ≤ x8 then (if x8 < (x0.size : Int) then (if (bt x0 x8) = x1 then (some x8) else (doublestar_indexUnescapedByte.l0 k x0 x1 x2 x7 (wrap64 (x8 + 1)))) else (none)) else (none))
end
def doublestar_indexUnescapedByte.f (k : Nat) (a0 : ByteArray) (a1 : Int) (a2 : Bool) : Option (Int) := doublestar_indexUnescapedByte.l0 k a0 a1 a2 (a0.size : Int) 0
theorem doublestar_indexUnescapedByte.mono_l : ∀ k, (∀ y0 y1 y2 y3 y4, LeO (doublestar_indexUnescapedByte.l0 k y0 y1 y2 y3 y4) (doublestar_indexUnescapedByte.l0 (k + 1) y0 y1 y2 y3 y4)) ∧ (∀ y0 y1 y2 y3 y4 y5, LeO (doublestar_indexUnescapedByte.j1 k y0 y1 y2 y3 y4 y5) (doublestar_indexUnescapedByte.j1 (k + 1) y0 y1 y2 y3 y4 y5))
  | 0 => ⟨fun _ _ _ _ _ r h => by simp [doublestar_indexUnescapedByte.l0] at h, fun _ _ _ _ _ _ r h => by simp [doublestar_indexUnescapedByte.j1] at h⟩
  | k + 1 => by
    obtain ⟨ih0, ih1⟩ := doublestar_indexUnescapedByte.mono_l k
    refine ⟨?_, ?_⟩
    · intro y0 y1 y2 y3 y4
      unfold doublestar_indexUnescapedByte.l0
      repeat' first
      | (with_reducible exact ih0 _ _ _ _ _)
      | (with_reducible exact ih1 _ _ _ _ _ _)
      | (with_reducible exact LeO.refl _)
      | (with_reducible exact LeO.none _)
      | (with_reducible refine LeO.ite ?_ ?_)
      | (with_reducible refine LeO.bind ?_ (fun _ => ?_))
      | exact ih0 _ _ _ _ _
      | exact ih1 _ _ _ _ _ _
      | exact LeO.none _
      | refine LeO.ite ?_ ?_
      | refine LeO.bind ?_ (fun _ => ?_)
    · intro y0 y1 y2 y3 y4 y5
      unfold doublestar_indexUnescapedByte.j1
      repeat' first
      | (with_reducible exact ih0 _ _ _ _ _)
      | (with_reducible exact ih1 _ _ _ _ _ _)
      | (with_reducible exact LeO.refl _)
      | (with_reducible exact LeO.none _)
      | (with_reducible refine LeO.ite ?_ ?_)
      | (with_reducible refine LeO.bind ?_ (fun _ => ?_))
      | exact ih0 _ _ _ _ _
      | exact ih1 _ _ _ _ _ _
      | exact LeO.none _
      | refine LeO.ite ?_ ?_
      | refine LeO.bind ?_ (fun _ => ?_)
theorem doublestar_indexUnescapedByte.mono : ∀ a0 a1 a2 k, LeO (doublestar_indexUnescapedByte.f k a0 a1 a2) (doublestar_indexUnescapedByte.f (k + 1) a0 a1 a2) := by
  intro a0 a1 a2 k
  obtain ⟨ih0, ih1⟩ := doublestar_indexUnescapedByte.mono_l k
  unfold doublestar_indexUnescapedByte.f
  repeat' first
      | (with_reducible exact ih0 _ _ _ _ _)
      | (with_reducible exact ih1 _ _ _ _ _ _)
      | (with_reducible exact LeO.refl _)
      | (with_reducible exact LeO.none _)
      | (with_reducible refine LeO.ite ?_ ?_)
      | (with_reducible refine LeO.bind ?_ (fun _ => ?_))
      | exact ih0 _ _ _ _ _
      | exact ih1 _ _ _ _ _ _
      | exact LeO.none _
      | refine LeO.ite ?_ ?_
      | refine LeO.bind ?_ (fun _ => ?_)
set_option maxHeartbeats 8000000 in
set_option maxRecDepth 100000 in
theorem doublestar_indexUnescapedByte.calls (k : Nat) (a0 : ByteArray) (a1 : Int) (a2 : Bool) (r : Int) (w : World) (h : doublestar_indexUnescapedByte.f k a0 a1 a2 = some r) :
    Calls Try.prog 40 #[.string a0, .int .u8 a1, .bool a2] w fun e w' => e = .returned (.int .i64 r) ∧ Drawn0 w w' := by
  have H : (doublestar_indexUnescapedByte.l0 k a0 a1 a2 (a0.size : Int) 0) = some r := h
  clear h
  have H' := Aside0.mk H
  clear H
  go_enter Try.func40, Try.ntmps40
  go_wp2
  go_loopg [8] k (fun kq v8 w' => ∃ (x8_1 : Int), v8 = .int .i64 x8_1 ∧ Aside0 (doublestar_indexUnescapedByte.l0 kq a0 a1 a2 (a0.size : Int) x8_1 = some r) ∧ Aside0 (kq ≤ k) ∧ Drawn0 w w')
  case atStart => exact ⟨(0), (by first | rfl | (simp; done) | (simp [*]; done)), H', ⟨Nat.le_refl _⟩, by repeat (first | exact Drawn0.refl _ | apply Drawn0.step)⟩
  case round =>
    clear H'
    try clear p2
    obtain ⟨x8_1, rfl, HA, HK1, ⟨m1, rfl⟩⟩ := hrel
    cases gk with
    | zero => exact absurd HA.out (by simp [doublestar_indexUnescapedByte.l0])
    | succ k1 =>
      have H := HA.out
      clear HA
      simp only [doublestar_indexUnescapedByte.l0] at H
      by_cases c4 : x8_1 < (a0.size : Int)
      · rw [if_pos c4] at H
        have c4b0 : decide (x8_1 < (a0.size : Int)) = true := decide_eq_true c4
        clear c4
        have HC5 := Aside0.mk H
        clear H
        go_upto_region 5 with (fail)
        go_cut [22] (fun v22 wc => ∃ (kq : Nat) (x22_4 : Bool), v22 = .bool x22_4 ∧ Aside0 (doublestar_indexUnescapedByte.j1 kq a0 a1 a2 (a0.size : Int) x8_1 x22_4 = some r) ∧ Aside0 (kq ≤ k1) ∧ Drawn0 w wc)
        case first =>
          have H := HC5.out
          clear HC5
          by_cases c6 : a2 = true
          · subst c6
            have H1 : (if 0 ≤ x8_1 then (if x8_1 < (a0.size : Int) then (doublestar_indexUnescapedByte.j1 k1 a0 a1 true (a0.size : Int) x8_1 ((bt a0 x8_1) == 92)) else (none)) else (none)) = some r := by rw [if_pos rfl] at H; exact H
            clear H
            have H := H1
            clear H1
            by_cases c7 : 0 ≤ x8_1
            · rw [if_pos c7] at H
              have c7b0 : decide (0 ≤ x8_1) = true := decide_eq_true c7
              clear c7
              (first | rw [c7b0] | (simp only [i64_w, i32_w]; rw [c7b0]) | skip)
              by_cases c8 : x8_1 < (a0.size : Int)
              · rw [if_pos c8] at H
                have c8b0 : decide (x8_1 < (a0.size : Int)) = true := decide_eq_true c8
                clear c8
                have H' := Aside0.mk H
                clear H
                have p9 : 0 ≤ (x8_1 : Int) := of_decide_eq_true (by first | (with_reducible assumption) | assumption)
                have q9 : x8_1 < (a0.size : Int) := of_decide_eq_true (by first | (with_reducible assumption) | assumption)
                have hx9 := bt_at a0 x8_1
                replace p9 := eq_true p9
                replace q9 := eq_true q9
                go_wp2
                go_meet
                case rel => exact ⟨_, (((bt a0 x8_1) == 92)), (by first | rfl | (simp; done) | (simp [*]; done)), H', ⟨by have := HK1.out; first | omega | exact Nat.le_refl _⟩, by repeat (first | exact Drawn0.refl _ | apply Drawn0.step)⟩
              · rw [if_neg c8] at H
                exact absurd H (by simp)
            · rw [if_neg c7] at H
              exact absurd H (by simp)
          · replace c6 := Bool.eq_false_iff.mpr c6
            subst c6
            have H1 : (doublestar_indexUnescapedByte.j1 k1 a0 a1 false (a0.size : Int) x8_1 false) = some r := by rw [if_neg (show ¬ (false = true) by decide)] at H; exact H
            clear H
            have H := H1
            clear H1
            have H' := Aside0.mk H
            clear H
            go_wp2
            go_meet
            case rel => exact ⟨_, (false), (by first | rfl | (simp; done) | (simp [*]; done)), H', ⟨by have := HK1.out; first | omega | exact Nat.le_refl _⟩, by repeat (first | exact Drawn0.refl _ | apply Drawn0.step)⟩
        case rest =>
          clear HC5
          try clear p2
          try clear c4
          try clear c4b0
          try clear c6
          try clear c7
          try clear c7b0
          try clear c8
          try clear c8b0
          try clear p9
          try clear q9
          try clear hx9
          try clear p2
          try clear p9
          try clear q9
          obtain ⟨kq, x22_4, rfl, HA, HJ4, ⟨mc4, rfl⟩⟩ := hcut
          cases kq with
          | zero => exact absurd HA.out (by simp [doublestar_indexUnescapedByte.j1])
          | succ kj4 =>
            have H := HA.out
            clear HA
            simp only [doublestar_indexUnescapedByte.j1] at H
            by_cases c10 : x22_4 = true
            · subst c10
              have H1 : (doublestar_indexUnescapedByte.l0 kj4 a0 a1 a2 (a0.size : Int) (wrap64 ((wrap64 (x8_1 + 1)) + 1))) = some r := by rw [if_pos rfl] at H; exact H
              clear H
              have H := H1
              clear H1
              have H' := Aside0.mk H
              clear H
              go_wp2
              go_roundg kj4
              case measure => have := HK1.out; have := HJ4.out; omega
              case rel => exact ⟨(wrap64 ((wrap64 (x8_1 + 1)) + 1)), (by first | rfl | (simp; done) | (simp [*]; done)), H', ⟨by have := HK1.out; have := HJ4.out; omega⟩, by repeat (first | exact Drawn0.refl _ | apply Drawn0.step)⟩
            · replace c10 := Bool.eq_false_iff.mpr c10
              subst c10
              have H1 : (if 0 ≤ x8_1 then (if x8_1 < (a0.size : Int) then (if (bt a0 x8_1) = a1 then (some x8_1) else (doublestar_indexUnescapedByte.l0 kj4 a0 a1 a2 (a0.size : Int) (wrap64 (x8_1 + 1)))) else (none)) else (none)) = some r := by rw [if_neg (show ¬ (false = true) by decide)] at H; exact H
              clear H
              have H := H1
              clear H1
              by_cases c11 : 0 ≤ x8_1
              · rw [if_pos c11] at H
                have c11b0 : decide (0 ≤ x8_1) = true := decide_eq_true c11
                clear c11
                by_cases c12 : x8_1 < (a0.size : Int)
                · rw [if_pos c12] at H
                  have c12b0 : decide (x8_1 < (a0.size : Int)) = true := decide_eq_true c12
                  clear c12
                  by_cases c14 : (bt a0 x8_1) = a1
                  · rw [if_pos c14] at H
                    have c14b0 : ((bt a0 x8_1) == a1) = true := beq_iff_eq.mpr c14
                    have c14b1 : ((bt a0 x8_1) != a1) = false := bne_eq_false_iff_eq.mpr c14
                    clear c14
                    obtain rfl := Option.some.inj H
                    have p13 : 0 ≤ (x8_1 : Int) := of_decide_eq_true (by first | (with_reducible assumption) | assumption)
                    have q13 : x8_1 < (a0.size : Int) := of_decide_eq_true (by first | (with_reducible assumption) | assumption)
                    have hx13 := bt_at a0 x8_1
                    replace p13 := eq_true p13
                    replace q13 := eq_true q13
                    go_wp2
                    go_ret
                    exact ⟨by first | rfl | (simp; done) | (simp [*]; done), by repeat (first | exact Drawn0.refl _ | apply Drawn0.step)⟩
                  · rw [if_neg c14] at H
                    have c14b0 : ((bt a0 x8_1) == a1) = false := beq_eq_false_iff_ne.mpr c14
                    have c14b1 : ((bt a0 x8_1) != a1) = true := bne_iff_ne.mpr c14
                    have H' := Aside0.mk H
                    clear H
                    have p13 : 0 ≤ (x8_1 : Int) := of_decide_eq_true (by first | (with_reducible assumption) | assumption)
                    have q13 : x8_1 < (a0.size : Int) := of_decide_eq_true (by first | (with_reducible assumption) | assumption)
                    have hx13 := bt_at a0 x8_1
                    replace p13 := eq_true p13
                    replace q13 := eq_true q13
                    go_wp2
                    go_roundg kj4
                    case measure => have := HK1.out; have := HJ4.out; omega
                    case rel => exact ⟨(wrap64 (x8_1 + 1)), (by first | rfl | (simp; done) | (simp [*]; done)), H', ⟨by have := HK1.out; have := HJ4.out; omega⟩, by repeat (first | exact Drawn0.refl _ | apply Drawn0.step)⟩
                · rw [if_neg c12] at H
                  exact absurd H (by simp)
              · rw [if_neg c11] at H
                exact absurd H (by simp)
      · rw [if_neg c4] at H
        have c4b0 : decide (x8_1 < (a0.size : Int)) = false := decide_eq_false c4
        clear c4
        obtain rfl := Option.some.inj H
        go_wp2
        go_ret
        exact ⟨by first | rfl | (simp; done) | (simp [*]; done), by repeat (first | exact Drawn0.refl _ | apply Drawn0.step)⟩

/-! ### doublestar_ZzIndexUnescaped: function 28 -/
def doublestar_ZzIndexUnescaped.f (k : Nat) (a0 : ByteArray) (a1 : Int) (a2 : Bool) : Option (Int) := (doublestar_indexUnescapedByte.f k a0 a1 a2).bind fun t101 => (some t101)
theorem doublestar_ZzIndexUnescaped.mono : ∀ a0 a1 a2 k, LeO (doublestar_ZzIndexUnescaped.f k a0 a1 a2) (doublestar_ZzIndexUnescaped.f (k + 1) a0 a1 a2) := by
  intro a0 a1 a2 k
  unfold doublestar_ZzIndexUnescaped.f
  repeat' first
      | (with_reducible exact doublestar_indexUnescapedByte.mono _ _ _ _)
      | (with_reducible exact LeO.refl _)
      | (with_reducible exact LeO.none _)
      | (with_reducible refine LeO.ite ?_ ?_)
      | (with_reducible refine LeO.bind ?_ (fun _ => ?_))
      | exact doublestar_indexUnescapedByte.mono _ _ _ _
      | exact LeO.none _
      | refine LeO.ite ?_ ?_
      | refine LeO.bind ?_ (fun _ => ?_)
set_option maxHeartbeats 8000000 in
set_option maxRecDepth 100000 in
theorem doublestar_ZzIndexUnescaped.calls (k : Nat) (a0 : ByteArray) (a1 : Int) (a2 : Bool) (r : Int) (w : World) (h : doublestar_ZzIndexUnescaped.f k a0 a1 a2 = some r) :
    Calls Try.prog 28 #[.string a0, .int .u8 a1, .bool a2] w fun e w' => e = .returned (.int .i64 r) ∧ Drawn0 w w' := by
  have H : ((doublestar_indexUnescapedByte.f k a0 a1 a2).bind fun t101 => (some t101)) = some r := h
  clear h
  replace H := Option.bind_eq_some_iff.mp H
  obtain ⟨t101, A40, H⟩ := H
  replace H : (some t101) = some r := H
  have A4 := Aside0.mk A40
  clear A40
  obtain rfl := Option.some.inj H
  go_enter Try.func28, Try.ntmps28
  go_wp2_with (first | ((with_reducible refine gate_callee (f := 40) rfl ?_); refine goesL_ (some 10) rfl rfl Try.func40 (by kernel_rfl) rfl #[.string a0, .int .u8 a1, .bool a2] rfl (by (try simp only [List.map_toArray, List.map_cons, List.map_nil]); first | done | rfl | (simp only [List.length_drop, List.length_take]; rfl)) ?_; (with_reducible refine (doublestar_indexUnescapedByte.calls k a0 a1 a2 t101 _ A4.out).mono ?_); rintro e w' ⟨rfl, ⟨nd, rfl⟩⟩; refine ⟨_, rfl, ?_⟩))
  go_ret
  exact ⟨by first | rfl | (simp; done) | (simp [*]; done), by repeat (first | exact Drawn0.refl _ | apply Drawn0.step)⟩

/-! ### impl_GlobIndexUnescaped: function 10 -/
def impl_GlobIndexUnescaped.f (k : Nat) (a0 : ByteArray) (a1 : Int) (a2 : Bool) : Option (Int) := (doublestar_ZzIndexUnescaped.f k a0 a1 a2).bind fun t102 => (some t102)
theorem impl_GlobIndexUnescaped.mono : ∀ a0 a1 a2 k, LeO (impl_GlobIndexUnescaped.f k a0 a1 a2) (impl_GlobIndexUnescaped.f (k + 1) a0 a1 a2) := by
  intro a0 a1 a2 k
  unfold impl_GlobIndexUnescaped.f
  repeat' first
      | (with_reducible exact doublestar_ZzIndexUnescaped.mono _ _ _ _)
      | (with_reducible exact LeO.refl _)
      | (with_reducible exact LeO.none _)
      | (with_reducible refine LeO.ite ?_ ?_)
      | (with_reducible refine LeO.bind ?_ (fun _ => ?_))
      | exact doublestar_ZzIndexUnescaped.mono _ _ _ _
      | exact LeO.none _
      | refine LeO.ite ?_ ?_
      | refine LeO.bind ?_ (fun _ => ?_)
set_option maxHeartbeats 8000000 in
set_option maxRecDepth 100000 in
theorem impl_GlobIndexUnescaped.calls (k : Nat) (a0 : ByteArray) (a1 : Int) (a2 : Bool) (r : Int) (w : World) (h : impl_GlobIndexUnescaped.f k a0 a1 a2 = some r) :
    Calls Try.prog 10 #[.string a0, .int .u8 a1, .bool a2] w fun e w' => e = .returned (.int .i64 r) ∧ Drawn0 w w' := by
  have H : ((doublestar_ZzIndexUnescaped.f k a0 a1 a2).bind fun t102 => (some t102)) = some r := h
  clear h
  replace H := Option.bind_eq_some_iff.mp H
  obtain ⟨t102, A40, H⟩ := H
  replace H : (some t102) = some r := H
  have A4 := Aside0.mk A40
  clear A40
  obtain rfl := Option.some.inj H
  go_enter Try.func10, Try.ntmps10
  go_wp2_with (first | ((with_reducible refine gate_callee (f := 28) rfl ?_); refine goesL_ (some 10) rfl rfl Try.func28 (by kernel_rfl) rfl #[.string a0, .int .u8 a1, .bool a2] rfl (by (try simp only [List.map_toArray, List.map_cons, List.map_nil]); first | done | rfl | (simp only [List.length_drop, List.length_take]; rfl)) ?_; (with_reducible refine (doublestar_ZzIndexUnescaped.calls k a0 a1 a2 t102 _ A4.out).mono ?_); rintro e w' ⟨rfl, ⟨nd, rfl⟩⟩; refine ⟨_, rfl, ?_⟩))
  go_ret
  exact ⟨by first | rfl | (simp; done) | (simp [*]; done), by repeat (first | exact Drawn0.refl _ | apply Drawn0.step)⟩

/-! ### spec_globSkip: function 29 -/
def spec_globSkip.f (a0 : ByteArray) (a1 : Int) (a2 : Bool) : Option (Int) := if a2 = true then (if 0 ≤ a1 then (if a1 < (a0.size : Int) then (if (bt a0 a1) = 92 then (some (wrap64 (a1 + 2))) else (some (wrap64 (a1 + 1)))) else (none)) else (none)) else (some (wrap64 (a1 + 1)))
set_option maxHeartbeats 8000000 in
set_option maxRecDepth 100000 in
theorem spec_globSkip.calls (a0 : ByteArray) (a1 : Int) (a2 : Bool) (r : Int) (w : World) (h : spec_globSkip.f a0 a1 a2 = some r) :
    Calls Try.prog 29 #[.string a0, .int .i64 a1, .bool a2] w fun e w' => e = .returned (.int .i64 r) ∧ Drawn0 w w' := by
  have H : (if a2 = true then (if 0 ≤ a1 then (if a1 < (a0.size : Int) then (if (bt a0 a1) = 92 then (some (wrap64 (a1 + 2))) else (some (wrap64 (a1 + 1)))) else (none)) else (none)) else (some (wrap64 (a1 + 1)))) = some r := h
  clear h
  by_cases c4 : a2 = true
  · subst c4
    have H1 : (if 0 ≤ a1 then (if a1 < (a0.size : Int) then (if (bt a0 a1) = 92 then (some (wrap64 (a1 + 2))) else (some (wrap64 (a1 + 1)))) else (none)) else (none)) = some r := by rw [if_pos rfl] at H; exact H
    clear H
    have H := H1
    clear H1
    by_cases c5 : 0 ≤ a1
    · rw [if_pos c5] at H
      have c5b0 : decide (0 ≤ a1) = true := decide_eq_true c5
      clear c5
      by_cases c6 : a1 < (a0.size : Int)
      · rw [if_pos c6] at H
        have c6b0 : decide (a1 < (a0.size : Int)) = true := decide_eq_true c6
        clear c6
        by_cases c8 : (bt a0 a1) = 92
        · rw [if_pos c8] at H
          have c8b0 : ((bt a0 a1) == 92) = true := beq_iff_eq.mpr c8
          have c8b1 : ((bt a0 a1) != 92) = false := bne_eq_false_iff_eq.mpr c8
          clear c8
          obtain rfl := Option.some.inj H
          have p7 : 0 ≤ (a1 : Int) := of_decide_eq_true (by first | (with_reducible assumption) | assumption)
          have q7 : a1 < (a0.size : Int) := of_decide_eq_true (by first | (with_reducible assumption) | assumption)
          have hx7 := bt_at a0 a1
          replace p7 := eq_true p7
          replace q7 := eq_true q7
          go_enter Try.func29, Try.ntmps29
          go_wp2
          go_ret
          exact ⟨by first | rfl | (simp; done) | (simp [*]; done), by repeat (first | exact Drawn0.refl _ | apply Drawn0.step)⟩
        · rw [if_neg c8] at H
          have c8b0 : ((bt a0 a1) == 92) = false := beq_eq_false_iff_ne.mpr c8
          have c8b1 : ((bt a0 a1) != 92) = true := bne_iff_ne.mpr c8
          obtain rfl := Option.some.inj H
          have p7 : 0 ≤ (a1 : Int) := of_decide_eq_true (by first | (with_reducible assumption) | assumption)
          have q7 : a1 < (a0.size : Int) := of_decide_eq_true (by first | (with_reducible assumption) | assumption)
          have hx7 := bt_at a0 a1
          replace p7 := eq_true p7
          replace q7 := eq_true q7
          go_enter Try.func29, Try.ntmps29
          go_wp2
          go_ret
          exact ⟨by first | rfl | (simp; done) | (simp [*]; done), by repeat (first | exact Drawn0.refl _ | apply Drawn0.step)⟩
      · rw [if_neg c6] at H
        exact absurd H (by simp)
    · rw [if_neg c5] at H
      exact absurd H (by simp)
  · replace c4 := Bool.eq_false_iff.mpr c4
    subst c4
    have H1 : (some (wrap64 (a1 + 1))) = some r := by rw [if_neg (show ¬ (false = true) by decide)] at H; exact H
    clear H
    have H := H1
    clear H1
    obtain rfl := Option.some.inj H
    go_enter Try.func29, Try.ntmps29
    go_wp2
    go_ret
    exact ⟨by first | rfl | (simp; done) | (simp [*]; done), by repeat (first | exact Drawn0.refl _ | apply Drawn0.step)⟩

/-! ### spec_GlobAt: function 11 -/
def spec_GlobAt.l0 : Nat → ByteArray → Int → Bool → Int → Option (Int)
  | 0, _, _, _, _ => none
  | k + 1, x0, x1, x2, x7 => if x7 < (x0.size : Int) then (if 0 ≤ x7 then (if (bt x0 x7) = x1 then (some x7) else ((spec_globSkip.f x0 x7 x2).bind fun t103 => (spec_GlobAt.l0 k x0 x1 x2 t103))) else (none)) else (some (-1))
def spec_GlobAt.f (k : Nat) (a0 : ByteArray) (a1 : Int) (a2 : Bool) : Option (Int) := spec_GlobAt.l0 k a0 a1 a2 0
theorem spec_GlobAt.mono_l : ∀ k, (∀ y0 y1 y2 y3, LeO (spec_GlobAt.l0 k y0 y1 y2 y3) (spec_GlobAt.l0 (k + 1) y0 y1 y2 y3))
  | 0 => fun _ _ _ _ r h => by simp [spec_GlobAt.l0] at h
  | k + 1 => by
    have ih0 := spec_GlobAt.mono_l k
    · intro y0 y1 y2 y3
      unfold spec_GlobAt.l0
      repeat' first
      | (with_reducible exact ih0 _ _ _ _)
      | (with_reducible exact LeO.refl _)
      | (with_reducible exact LeO.none _)
      | (with_reducible refine LeO.ite ?_ ?_)
      | (with_reducible refine LeO.bind ?_ (fun _ => ?_))
      | exact ih0 _ _ _ _
      | exact LeO.none _
      | refine LeO.ite ?_ ?_
      | refine LeO.bind ?_ (fun _ => ?_)
theorem spec_GlobAt.mono : ∀ a0 a1 a2 k, LeO (spec_GlobAt.f k a0 a1 a2) (spec_GlobAt.f (k + 1) a0 a1 a2) := by
  intro a0 a1 a2 k
  have ih0 := spec_GlobAt.mono_l k
  unfold spec_GlobAt.f
  repeat' first
      | (with_reducible exact ih0 _ _ _ _)
      | (with_reducible exact LeO.refl _)
      | (with_reducible exact LeO.none _)
      | (with_reducible refine LeO.ite ?_ ?_)
      | (with_reducible refine LeO.bind ?_ (fun _ => ?_))
      | exact ih0 _ _ _ _
      | exact LeO.none _
      | refine LeO.ite ?_ ?_
      | refine LeO.bind ?_ (fun _ => ?_)
set_option maxHeartbeats 8000000 in
set_option maxRecDepth 100000 in
theorem spec_GlobAt.calls (k : Nat) (a0 : ByteArray) (a1 : Int) (a2 : Bool) (r : Int) (w : World) (h : spec_GlobAt.f k a0 a1 a2 = some r) :
    Calls Try.prog 11 #[.string a0, .int .u8 a1, .bool a2] w fun e w' => e = .returned (.int .i64 r) ∧ Drawn0 w w' := by
  have H : (spec_GlobAt.l0 k a0 a1 a2 0) = some r := h
  clear h
  have H' := Aside0.mk H
  clear H
  go_enter Try.func11, Try.ntmps11
  go_wp2
  go_loopg [7] k (fun kq v7 w' => ∃ (x7_1 : Int), v7 = .int .i64 x7_1 ∧ Aside0 (spec_GlobAt.l0 kq a0 a1 a2 x7_1 = some r) ∧ Aside0 (kq ≤ k) ∧ Drawn0 w w')
  case atStart => exact ⟨(0), (by first | rfl | (simp; done) | (simp [*]; done)), H', ⟨Nat.le_refl _⟩, by repeat (first | exact Drawn0.refl _ | apply Drawn0.step)⟩
  case round =>
    clear H'
    try clear c1
    try clear p2
    obtain ⟨x7_1, rfl, HA, HK1, ⟨m1, rfl⟩⟩ := hrel
    cases gk with
    | zero => exact absurd HA.out (by simp [spec_GlobAt.l0])
    | succ k1 =>
      have H := HA.out
      clear HA
      simp only [spec_GlobAt.l0] at H
      by_cases c4 : x7_1 < (a0.size : Int)
      · rw [if_pos c4] at H
        have c4b0 : decide (x7_1 < (a0.size : Int)) = true := decide_eq_true c4
        clear c4
        by_cases c5 : 0 ≤ x7_1
        · rw [if_pos c5] at H
          have c5b0 : decide (0 ≤ x7_1) = true := decide_eq_true c5
          clear c5
          by_cases c7 : (bt a0 x7_1) = a1
          · rw [if_pos c7] at H
            have c7b0 : ((bt a0 x7_1) == a1) = true := beq_iff_eq.mpr c7
            have c7b1 : ((bt a0 x7_1) != a1) = false := bne_eq_false_iff_eq.mpr c7
            clear c7
            obtain rfl := Option.some.inj H
            have p6 : 0 ≤ (x7_1 : Int) := of_decide_eq_true (by first | (with_reducible assumption) | assumption)
            have q6 : x7_1 < (a0.size : Int) := of_decide_eq_true (by first | (with_reducible assumption) | assumption)
            have hx6 := bt_at a0 x7_1
            replace p6 := eq_true p6
            replace q6 := eq_true q6
            go_wp2
            go_ret
            exact ⟨by first | rfl | (simp; done) | (simp [*]; done), by repeat (first | exact Drawn0.refl _ | apply Drawn0.step)⟩
          · rw [if_neg c7] at H
            have c7b0 : ((bt a0 x7_1) == a1) = false := beq_eq_false_iff_ne.mpr c7
            have c7b1 : ((bt a0 x7_1) != a1) = true := bne_iff_ne.mpr c7
            replace H := Option.bind_eq_some_iff.mp H
            obtain ⟨t103, A80, H⟩ := H
            replace H : (spec_GlobAt.l0 k1 a0 a1 a2 t103) = some r := H
            have A8 := Aside0.mk A80
            clear A80
            have H' := Aside0.mk H
            clear H
            have p6 : 0 ≤ (x7_1 : Int) := of_decide_eq_true (by first | (with_reducible assumption) | assumption)
            have q6 : x7_1 < (a0.size : Int) := of_decide_eq_true (by first | (with_reducible assumption) | assumption)
            have hx6 := bt_at a0 x7_1
            replace p6 := eq_true p6
            replace q6 := eq_true q6
            go_wp2_with (first | ((with_reducible refine gate_callee (f := 29) rfl ?_); refine goesL_ (some 15) rfl rfl Try.func29 (by kernel_rfl) rfl #[.string a0, .int .i64 x7_1, .bool a2] rfl (by (try simp only [List.map_toArray, List.map_cons, List.map_nil]); first | done | rfl | (simp only [List.length_drop, List.length_take]; rfl)) ?_; (with_reducible refine (spec_globSkip.calls a0 x7_1 a2 t103 _ A8.out).mono ?_); rintro e w' ⟨rfl, ⟨nd, rfl⟩⟩; refine ⟨_, rfl, ?_⟩))
            go_roundg k1
            case measure => have := HK1.out; omega
            case rel => exact ⟨(t103), (by first | rfl | (simp; done) | (simp [*]; done)), H', ⟨by have := HK1.out; omega⟩, by repeat (first | exact Drawn0.refl _ | apply Drawn0.step)⟩
        · rw [if_neg c5] at H
          exact absurd H (by simp)
      · rw [if_neg c4] at H
        have c4b0 : decide (x7_1 < (a0.size : Int)) = false := decide_eq_false c4
        clear c4
        obtain rfl := Option.some.inj H
        go_wp2
        go_ret
        exact ⟨by first | rfl | (simp; done) | (simp [*]; done), by repeat (first | exact Drawn0.refl _ | apply Drawn0.step)⟩

/-! ### laws_FnGlobIndex: function 4 -/
def laws_FnGlobIndex.j0 : Nat → ByteArray → Int → Bool → Bool → Option (Bool)
  | 0, _, _, _, _ => none
  | k + 1, x0, x1, x2, x14 => if x14 = true then (some true) else ((impl_GlobIndexUnescaped.f k x0 x1 x2).bind fun t104 => ((spec_GlobAt.f k x0 x1 x2).bind fun t105 => (if t104 = t105 then ((impl_GlobIndexUnescaped.f k (⟨#[]⟩ : ByteArray) 97 x2).bind fun t106 => (some (t106 == (-1)))) else (some false))))
def laws_FnGlobIndex.f (k : Nat) (a0 : ByteArray) (a1 : Int) (a2 : Bool) : Option (Bool) := if (a0.size : Int) > 2147483647 then (some true) else (if a1 = 92 then (laws_FnGlobIndex.j0 k a0 a1 a2 a2) else (laws_FnGlobIndex.j0 k a0 a1 a2 false))
theorem laws_FnGlobIndex.mono_l : ∀ k, (∀ y0 y1 y2 y3, LeO (laws_FnGlobIndex.j0 k y0 y1 y2 y3) (laws_FnGlobIndex.j0 (k + 1) y0 y1 y2 y3))
  | 0 => fun _ _ _ _ r h => by simp [laws_FnGlobIndex.j0] at h
  | k + 1 => by
    have ih0 := laws_FnGlobIndex.mono_l k
    · intro y0 y1 y2 y3
      unfold laws_FnGlobIndex.j0
      repeat' first
      | (with_reducible exact ih0 _ _ _ _)
      | (with_reducible exact impl_GlobIndexUnescaped.mono _ _ _ _)
      | (with_reducible exact spec_GlobAt.mono _ _ _ _)
      | (with_reducible exact LeO.refl _)
      | (with_reducible exact LeO.none _)
      | (with_reducible refine LeO.ite ?_ ?_)
      | (with_reducible refine LeO.bind ?_ (fun _ => ?_))
      | exact ih0 _ _ _ _
      | exact impl_GlobIndexUnescaped.mono _ _ _ _
      | exact spec_GlobAt.mono _ _ _ _
      | exact LeO.none _
      | refine LeO.ite ?_ ?_
      | refine LeO.bind ?_ (fun _ => ?_)
theorem laws_FnGlobIndex.mono : ∀ a0 a1 a2 k, LeO (laws_FnGlobIndex.f k a0 a1 a2) (laws_FnGlobIndex.f (k + 1) a0 a1 a2) := by
  intro a0 a1 a2 k
  have ih0 := laws_FnGlobIndex.mono_l k
  unfold laws_FnGlobIndex.f
  repeat' first
      | (with_reducible exact ih0 _ _ _ _)
      | (with_reducible exact impl_GlobIndexUnescaped.mono _ _ _ _)
      | (with_reducible exact spec_GlobAt.mono _ _ _ _)
      | (with_reducible exact LeO.refl _)
      | (with_reducible exact LeO.none _)
      | (with_reducible refine LeO.ite ?_ ?_)
      | (with_reducible refine LeO.bind ?_ (fun _ => ?_))
      | exact ih0 _ _ _ _
      | exact impl_GlobIndexUnescaped.mono _ _ _ _
      | exact spec_GlobAt.mono _ _ _ _
      | exact LeO.none _
      | refine LeO.ite ?_ ?_
      | refine LeO.bind ?_ (fun _ => ?_)
set_option maxHeartbeats 8000000 in
set_option maxRecDepth 100000 in
theorem laws_FnGlobIndex.calls (k : Nat) (a0 : ByteArray) (a1 : Int) (a2 : Bool) (r : Bool) (w : World) (h : laws_FnGlobIndex.f k a0 a1 a2 = some r) :
    Calls Try.prog 4 #[.string a0, .int .u8 a1, .bool a2] w fun e w' => e = .returned (.bool r) ∧ Drawn0 w w' := by
  have H : (if (a0.size : Int) > 2147483647 then (some true) else (if a1 = 92 then (laws_FnGlobIndex.j0 k a0 a1 a2 a2) else (laws_FnGlobIndex.j0 k a0 a1 a2 false))) = some r := h
  clear h
  by_cases c4 : (a0.size : Int) > 2147483647
  · rw [if_pos c4] at H
    have c4b0 : decide (2147483647 < (a0.size : Int)) = true := decide_eq_true c4
    have c4b1 : decide (2147483647 < a0.size) = true := decide_eq_true (by omega)
    clear c4
    obtain rfl := Option.some.inj H
    go_enter Try.func4, Try.ntmps4
    go_wp2
    go_ret
    exact ⟨by first | rfl | (simp; done) | (simp [*]; done), by repeat (first | exact Drawn0.refl _ | apply Drawn0.step)⟩
  · rw [if_neg c4] at H
    have c4b0 : decide (2147483647 < (a0.size : Int)) = false := decide_eq_false c4
    have c4b1 : decide (2147483647 < a0.size) = false := decide_eq_false (by omega)
    clear c4
    have HC5 := Aside0.mk H
    clear H
    go_enter Try.func4, Try.ntmps4
    go_upto_region 3 with (fail)
    go_cut [14] (fun v14 wc => ∃ (kq : Nat) (x14_4 : Bool), v14 = .bool x14_4 ∧ Aside0 (laws_FnGlobIndex.j0 kq a0 a1 a2 x14_4 = some r) ∧ Aside0 (kq ≤ k) ∧ Drawn0 w wc)
    case first =>
      have H := HC5.out
      clear HC5
      by_cases c6 : a1 = 92
      · rw [if_pos c6] at H
        have c6b0 : (a1 == 92) = true := beq_iff_eq.mpr c6
        have c6b1 : (a1 != 92) = false := bne_eq_false_iff_eq.mpr c6
        clear c6
        (first | rw [c6b0] | (simp only [i64_w, i32_w]; rw [c6b0]) | skip)
        have H' := Aside0.mk H
        clear H
        go_wp2
        go_meet
        case rel => exact ⟨_, (a2), (by first | rfl | (simp; done) | (simp [*]; done)), H', ⟨by first | omega | exact Nat.le_refl _⟩, by repeat (first | exact Drawn0.refl _ | apply Drawn0.step)⟩
      · rw [if_neg c6] at H
        have c6b0 : (a1 == 92) = false := beq_eq_false_iff_ne.mpr c6
        have c6b1 : (a1 != 92) = true := bne_iff_ne.mpr c6
        (first | rw [c6b0] | (simp only [i64_w, i32_w]; rw [c6b0]) | skip)
        have H' := Aside0.mk H
        clear H
        go_wp2
        go_meet
        case rel => exact ⟨_, (false), (by first | rfl | (simp; done) | (simp [*]; done)), H', ⟨by first | omega | exact Nat.le_refl _⟩, by repeat (first | exact Drawn0.refl _ | apply Drawn0.step)⟩
    case rest =>
      clear HC5
      try clear p2
      try clear c4
      try clear c4b0
      try clear c4b1
      try clear c6
      try clear c6b0
      try clear c6b1
      obtain ⟨kq, x14_4, rfl, HA, HJ4, ⟨mc4, rfl⟩⟩ := hcut
      cases kq with
      | zero => exact absurd HA.out (by simp [laws_FnGlobIndex.j0])
      | succ kj4 =>
        have H := HA.out
        clear HA
        simp only [laws_FnGlobIndex.j0] at H
        by_cases c7 : x14_4 = true
        · subst c7
          have H1 : (some true) = some r := by rw [if_pos rfl] at H; exact H
          clear H
          have H := H1
          clear H1
          obtain rfl := Option.some.inj H
          go_wp2
          go_ret
          exact ⟨by first | rfl | (simp; done) | (simp [*]; done), by repeat (first | exact Drawn0.refl _ | apply Drawn0.step)⟩
        · replace c7 := Bool.eq_false_iff.mpr c7
          subst c7
          have H1 : ((impl_GlobIndexUnescaped.f kj4 a0 a1 a2).bind fun t104 => ((spec_GlobAt.f kj4 a0 a1 a2).bind fun t105 => (if t104 = t105 then ((impl_GlobIndexUnescaped.f kj4 (⟨#[]⟩ : ByteArray) 97 a2).bind fun t106 => (some (t106 == (-1)))) else (some false)))) = some r := by rw [if_neg (show ¬ (false = true) by decide)] at H; exact H
          clear H
          have H := H1
          clear H1
          replace H := Option.bind_eq_some_iff.mp H
          obtain ⟨t104, A80, H⟩ := H
          replace H : ((spec_GlobAt.f kj4 a0 a1 a2).bind fun t105 => (if t104 = t105 then ((impl_GlobIndexUnescaped.f kj4 (⟨#[]⟩ : ByteArray) 97 a2).bind fun t106 => (some (t106 == (-1)))) else (some false))) = some r := H
          have A8 := Aside0.mk A80
          clear A80
          replace H := Option.bind_eq_some_iff.mp H
          obtain ⟨t105, A90, H⟩ := H
          replace H : (if t104 = t105 then ((impl_GlobIndexUnescaped.f kj4 (⟨#[]⟩ : ByteArray) 97 a2).bind fun t106 => (some (t106 == (-1)))) else (some false)) = some r := H
          have A9 := Aside0.mk A90
          clear A90
          by_cases c10 : t104 = t105
          · rw [if_pos c10] at H
            have c10b0 : (t104 == t105) = true := beq_iff_eq.mpr c10
            have c10b1 : (t104 != t105) = false := bne_eq_false_iff_eq.mpr c10
            clear c10
            replace H := Option.bind_eq_some_iff.mp H
            obtain ⟨t106, A110, H⟩ := H
            replace H : (some (t106 == (-1))) = some r := H
            have A11 := Aside0.mk A110
            clear A110
            obtain rfl := Option.some.inj H
            go_wp2_with (first | ((with_reducible refine gate_callee (f := 10) rfl ?_); refine goesL_ (some 18) rfl rfl Try.func10 (by kernel_rfl) rfl #[.string a0, .int .u8 a1, .bool a2] rfl (by (try simp only [List.map_toArray, List.map_cons, List.map_nil]); first | done | rfl | (simp only [List.length_drop, List.length_take]; rfl)) ?_; (with_reducible refine (impl_GlobIndexUnescaped.calls kj4 a0 a1 a2 t104 _ A8.out).mono ?_); rintro e w' ⟨rfl, ⟨nd, rfl⟩⟩; refine ⟨_, rfl, ?_⟩) | ((with_reducible refine gate_callee (f := 11) rfl ?_); refine goesL_ (some 22) rfl rfl Try.func11 (by kernel_rfl) rfl #[.string a0, .int .u8 a1, .bool a2] rfl (by (try simp only [List.map_toArray, List.map_cons, List.map_nil]); first | done | rfl | (simp only [List.length_drop, List.length_take]; rfl)) ?_; (with_reducible refine (spec_GlobAt.calls kj4 a0 a1 a2 t105 _ A9.out).mono ?_); rintro e w' ⟨rfl, ⟨nd, rfl⟩⟩; refine ⟨_, rfl, ?_⟩) | (go_at_call 10; (with_reducible refine (impl_GlobIndexUnescaped.calls kj4 (⟨#[]⟩ : ByteArray) 97 a2 t106 _ A11.out).mono ?_); rintro e w' ⟨rfl, ⟨nd, rfl⟩⟩))
            go_ret
            exact ⟨by first | rfl | (simp; done) | (simp [*]; done), by repeat (first | exact Drawn0.refl _ | apply Drawn0.step)⟩
          · rw [if_neg c10] at H
            have c10b0 : (t104 == t105) = false := beq_eq_false_iff_ne.mpr c10
            have c10b1 : (t104 != t105) = true := bne_iff_ne.mpr c10
            obtain rfl := Option.some.inj H
            go_wp2_with (first | ((with_reducible refine gate_callee (f := 10) rfl ?_); refine goesL_ (some 18) rfl rfl Try.func10 (by kernel_rfl) rfl #[.string a0, .int .u8 a1, .bool a2] rfl (by (try simp only [List.map_toArray, List.map_cons, List.map_nil]); first | done | rfl | (simp only [List.length_drop, List.length_take]; rfl)) ?_; (with_reducible refine (impl_GlobIndexUnescaped.calls kj4 a0 a1 a2 t104 _ A8.out).mono ?_); rintro e w' ⟨rfl, ⟨nd, rfl⟩⟩; refine ⟨_, rfl, ?_⟩) | ((with_reducible refine gate_callee (f := 11) rfl ?_); refine goesL_ (some 22) rfl rfl Try.func11 (by kernel_rfl) rfl #[.string a0, .int .u8 a1, .bool a2] rfl (by (try simp only [List.map_toArray, List.map_cons, List.map_nil]); first | done | rfl | (simp only [List.length_drop, List.length_take]; rfl)) ?_; (with_reducible refine (spec_GlobAt.calls kj4 a0 a1 a2 t105 _ A9.out).mono ?_); rintro e w' ⟨rfl, ⟨nd, rfl⟩⟩; refine ⟨_, rfl, ?_⟩))
            go_ret
            exact ⟨by first | rfl | (simp; done) | (simp [*]; done), by repeat (first | exact Drawn0.refl _ | apply Drawn0.step)⟩

/-- THE ONE PURE STATEMENT of laws_FnGlobIndex: yours. -/
def laws_FnGlobIndex.Pure : Prop := ∀ (a0 : ByteArray) (a1 : Int) (a2 : Bool), a0.size ≤ 140737488351232 → (Lit.int .u8 a1).wf = true → ∃ k, laws_FnGlobIndex.f k a0 a1 a2 = some true
theorem laws_FnGlobIndex.walk (P : laws_FnGlobIndex.Pure) (a0 : ByteArray) (a1 : Int) (a2 : Bool) (w : World) (w0 : a0.size ≤ 140737488351232) (w1 : (Lit.int .u8 a1).wf = true) :
    Calls Try.prog 4 #[.string a0, .int .u8 a1, .bool a2] w fun e w' => e = .returned (.bool true) ∧ Below w.heap.size w w' := by
  obtain ⟨k, h⟩ := P a0 a1 a2 w0 w1
  refine (laws_FnGlobIndex.calls k a0 a1 a2 true w h).mono ?_
  rintro e w' ⟨rfl, hd⟩
  exact ⟨rfl, hd.below⟩

end Go.Proofs.Ytdhfpgbidlanaaa.PFnGlobIndex
