-- PRINTED BY print.sh 35421559b90ae4d0a3588c463048766b98c2df88dd9212a6774a882060cdf62d: not written by this session
import Derived.Test.YtdhfpgbidlanaaaPFnPow2Ceilx0
namespace Go.Proofs.Ytdhfpgbidlanaaa.PFnPow2Ceil
open Go.RowKit Go.Proofs.YtdhfpgbidlanaaaW.PrintWords Go.Proofs.YtdhfpgbidlanaaaW.PrintLast Go.Proofs.YtdhfpgbidlanaaaW.PrintMore
attribute [local go_sem] max2_int min2_int max_two min_two max_three min_three max_four min_four   -- for this text's walks alone
set_option linter.unusedVariables false
set_option linter.unusedSimpArgs false

/-! ### hashmap_pow2ceil: function 39 -/
def hashmap_pow2ceil.l0 : Nat → Int → Int → Option (Int)
  | 0, _, _ => none
  | k + 1, x0, x3 => if x3 < x0 then (hashmap_pow2ceil.l0 k x0 (IntKind.u64.wrap (x3 * 2))) else (some x3)
def hashmap_pow2ceil.f (k : Nat) (a0 : Int) : Option (Int) := hashmap_pow2ceil.l0 k a0 1
theorem hashmap_pow2ceil.mono_l : ∀ k, (∀ y0 y1, LeO (hashmap_pow2ceil.l0 k y0 y1) (hashmap_pow2ceil.l0 (k + 1) y0 y1))
  | 0 => fun _ _ r h => by simp [hashmap_pow2ceil.l0] at h
  | k + 1 => by
    have ih0 := hashmap_pow2ceil.mono_l k
    · intro y0 y1
      unfold hashmap_pow2ceil.l0
      repeat' first
      | (with_reducible exact ih0 _ _)
      | (with_reducible exact LeO.refl _)
      | (with_reducible exact LeO.none _)
      | (with_reducible refine LeO.ite ?_ ?_)
      | (with_reducible refine LeO.bind ?_ (fun _ => ?_))
      | exact ih0 _ _
      | exact LeO.none _
      | refine LeO.ite ?_ ?_
      | refine LeO.bind ?_ (fun _ => ?_)
theorem hashmap_pow2ceil.mono : ∀ a0 k, LeO (hashmap_pow2ceil.f k a0) (hashmap_pow2ceil.f (k + 1) a0) := by
  intro a0 k
  have ih0 := hashmap_pow2ceil.mono_l k
  unfold hashmap_pow2ceil.f
  repeat' first
      | (with_reducible exact ih0 _ _)
      | (with_reducible exact LeO.refl _)
      | (with_reducible exact LeO.none _)
      | (with_reducible refine LeO.ite ?_ ?_)
      | (with_reducible refine LeO.bind ?_ (fun _ => ?_))
      | exact ih0 _ _
      | exact LeO.none _
      | refine LeO.ite ?_ ?_
      | refine LeO.bind ?_ (fun _ => ?_)
set_option maxHeartbeats 8000000 in
set_option maxRecDepth 100000 in
theorem hashmap_pow2ceil.calls (k : Nat) (a0 : Int) (r : Int) (w : World) (h : hashmap_pow2ceil.f k a0 = some r) :
    Calls Try.prog 39 #[.int .u64 a0] w fun e w' => e = .returned (.int .u64 r) ∧ Drawn0 w w' := by
  have H : (hashmap_pow2ceil.l0 k a0 1) = some r := h
  clear h
  have H' := Aside0.mk H
  clear H
  go_enter Try.func39, Try.ntmps39
  go_wp2
  go_loopg [3] k (fun kq v3 w' => ∃ (x3_1 : Int), v3 = .int .u64 x3_1 ∧ Aside0 (hashmap_pow2ceil.l0 kq a0 x3_1 = some r) ∧ Aside0 (kq ≤ k) ∧ Drawn0 w w')
  case atStart => exact ⟨(1), (by first | rfl | (simp; done) | (simp [*]; done)), H', ⟨Nat.le_refl _⟩, by repeat (first | exact Drawn0.refl _ | apply Drawn0.step)⟩
  case round =>
    clear H'
    obtain ⟨x3_1, rfl, HA, HK1, ⟨m1, rfl⟩⟩ := hrel
    cases gk with
    | zero => exact absurd HA.out (by simp [hashmap_pow2ceil.l0])
    | succ k1 =>
      have H := HA.out
      clear HA
      simp only [hashmap_pow2ceil.l0] at H
      by_cases c2 : x3_1 < a0
      · rw [if_pos c2] at H
        have c2b0 : decide (x3_1 < a0) = true := decide_eq_true c2
        clear c2
        have H' := Aside0.mk H
        clear H
        go_wp2
        go_roundg k1
        case measure => have := HK1.out; omega
        case rel => exact ⟨(IntKind.u64.wrap (x3_1 * 2)), (by first | rfl | (simp; done) | (simp [*]; done)), H', ⟨by have := HK1.out; omega⟩, by repeat (first | exact Drawn0.refl _ | apply Drawn0.step)⟩
      · rw [if_neg c2] at H
        have c2b0 : decide (x3_1 < a0) = false := decide_eq_false c2
        clear c2
        obtain rfl := Option.some.inj H
        go_wp2
        go_ret
        exact ⟨by first | rfl | (simp; done) | (simp [*]; done), by repeat (first | exact Drawn0.refl _ | apply Drawn0.step)⟩

/-! ### hashmap_ZzPow2ceil: function 27 -/
def hashmap_ZzPow2ceil.f (k : Nat) (a0 : Int) : Option (Int) := (hashmap_pow2ceil.f k a0).bind fun t101 => (some t101)
theorem hashmap_ZzPow2ceil.mono : ∀ a0 k, LeO (hashmap_ZzPow2ceil.f k a0) (hashmap_ZzPow2ceil.f (k + 1) a0) := by
  intro a0 k
  unfold hashmap_ZzPow2ceil.f
  repeat' first
      | (with_reducible exact hashmap_pow2ceil.mono _ _)
      | (with_reducible exact LeO.refl _)
      | (with_reducible exact LeO.none _)
      | (with_reducible refine LeO.ite ?_ ?_)
      | (with_reducible refine LeO.bind ?_ (fun _ => ?_))
      | exact hashmap_pow2ceil.mono _ _
      | exact LeO.none _
      | refine LeO.ite ?_ ?_
      | refine LeO.bind ?_ (fun _ => ?_)
set_option maxHeartbeats 8000000 in
set_option maxRecDepth 100000 in
theorem hashmap_ZzPow2ceil.calls (k : Nat) (a0 : Int) (r : Int) (w : World) (h : hashmap_ZzPow2ceil.f k a0 = some r) :
    Calls Try.prog 27 #[.int .u64 a0] w fun e w' => e = .returned (.int .u64 r) ∧ Drawn0 w w' := by
  have H : ((hashmap_pow2ceil.f k a0).bind fun t101 => (some t101)) = some r := h
  clear h
  replace H := Option.bind_eq_some_iff.mp H
  obtain ⟨t101, A20, H⟩ := H
  replace H : (some t101) = some r := H
  have A2 := Aside0.mk A20
  clear A20
  obtain rfl := Option.some.inj H
  go_enter Try.func27, Try.ntmps27
  go_wp2_with (first | ((with_reducible refine gate_callee (f := 39) rfl ?_); refine goesL_ (some 4) rfl rfl Try.func39 (by kernel_rfl) rfl #[.int .u64 a0] rfl (by (try simp only [List.map_toArray, List.map_cons, List.map_nil]); first | done | rfl | (simp only [List.length_drop, List.length_take]; rfl)) ?_; (with_reducible refine (hashmap_pow2ceil.calls k a0 t101 _ A2.out).mono ?_); rintro e w' ⟨rfl, ⟨nd, rfl⟩⟩; refine ⟨_, rfl, ?_⟩))
  go_ret
  exact ⟨by first | rfl | (simp; done) | (simp [*]; done), by repeat (first | exact Drawn0.refl _ | apply Drawn0.step)⟩

/-! ### impl_Pow2Ceil: function 9 -/
def impl_Pow2Ceil.f (k : Nat) (a0 : Int) : Option (Int) := (hashmap_ZzPow2ceil.f k a0).bind fun t102 => (some t102)
theorem impl_Pow2Ceil.mono : ∀ a0 k, LeO (impl_Pow2Ceil.f k a0) (impl_Pow2Ceil.f (k + 1) a0) := by
  intro a0 k
  unfold impl_Pow2Ceil.f
  repeat' first
      | (with_reducible exact hashmap_ZzPow2ceil.mono _ _)
      | (with_reducible exact LeO.refl _)
      | (with_reducible exact LeO.none _)
      | (with_reducible refine LeO.ite ?_ ?_)
      | (with_reducible refine LeO.bind ?_ (fun _ => ?_))
      | exact hashmap_ZzPow2ceil.mono _ _
      | exact LeO.none _
      | refine LeO.ite ?_ ?_
      | refine LeO.bind ?_ (fun _ => ?_)
set_option maxHeartbeats 8000000 in
set_option maxRecDepth 100000 in
theorem impl_Pow2Ceil.calls (k : Nat) (a0 : Int) (r : Int) (w : World) (h : impl_Pow2Ceil.f k a0 = some r) :
    Calls Try.prog 9 #[.int .u64 a0] w fun e w' => e = .returned (.int .u64 r) ∧ Drawn0 w w' := by
  have H : ((hashmap_ZzPow2ceil.f k a0).bind fun t102 => (some t102)) = some r := h
  clear h
  replace H := Option.bind_eq_some_iff.mp H
  obtain ⟨t102, A20, H⟩ := H
  replace H : (some t102) = some r := H
  have A2 := Aside0.mk A20
  clear A20
  obtain rfl := Option.some.inj H
  go_enter Try.func9, Try.ntmps9
  go_wp2_with (first | ((with_reducible refine gate_callee (f := 27) rfl ?_); refine goesL_ (some 4) rfl rfl Try.func27 (by kernel_rfl) rfl #[.int .u64 a0] rfl (by (try simp only [List.map_toArray, List.map_cons, List.map_nil]); first | done | rfl | (simp only [List.length_drop, List.length_take]; rfl)) ?_; (with_reducible refine (hashmap_ZzPow2ceil.calls k a0 t102 _ A2.out).mono ?_); rintro e w' ⟨rfl, ⟨nd, rfl⟩⟩; refine ⟨_, rfl, ?_⟩))
  go_ret
  exact ⟨by first | rfl | (simp; done) | (simp [*]; done), by repeat (first | exact Drawn0.refl _ | apply Drawn0.step)⟩

/-! ### laws_FnPow2Ceil: function 3 -/
mutual
def laws_FnPow2Ceil.j0 : Nat → Int → Bool → Option (Bool)
  | 0, _, _ => none
  | k + 1, x0, x9 => if x9 = true then (some true) else (laws_FnPow2Ceil.l0 k x0 1)
def laws_FnPow2Ceil.l0 : Nat → Int → Int → Option (Bool)
  | 0, _, _ => none
  | k + 1, x0, x3 => if x3 < x0 then (laws_FnPow2Ceil.l0 k x0 (IntKind.u64.wrap (x3 * 2))) else ((impl_Pow2Ceil.f k x0).bind fun t103 => (some (t103 == x3)))
end
def laws_FnPow2Ceil.f (k : Nat) (a0 : Int) : Option (Bool) := if a0 < 1 then (laws_FnPow2Ceil.j0 k a0 true) else (laws_FnPow2Ceil.j0 k a0 (decide (a0 > 9223372036854775808)))
theorem laws_FnPow2Ceil.mono_l : ∀ k, (∀ y0 y1, LeO (laws_FnPow2Ceil.j0 k y0 y1) (laws_FnPow2Ceil.j0 (k + 1) y0 y1)) ∧ (∀ y0 y1, LeO (laws_FnPow2Ceil.l0 k y0 y1) (laws_FnPow2Ceil.l0 (k + 1) y0 y1))
  | 0 => ⟨fun _ _ r h => by simp [laws_FnPow2Ceil.j0] at h, fun _ _ r h => by simp [laws_FnPow2Ceil.l0] at h⟩
  | k + 1 => by
    obtain ⟨ih0, ih1⟩ := laws_FnPow2Ceil.mono_l k
    refine ⟨?_, ?_⟩
    · intro y0 y1
      unfold laws_FnPow2Ceil.j0
      repeat' first
      | (with_reducible exact ih0 _ _)
      | (with_reducible exact ih1 _ _)
      | (with_reducible exact impl_Pow2Ceil.mono _ _)
      | (with_reducible exact LeO.refl _)
      | (with_reducible exact LeO.none _)
      | (with_reducible refine LeO.ite ?_ ?_)
      | (with_reducible refine LeO.bind ?_ (fun _ => ?_))
      | exact ih0 _ _
      | exact ih1 _ _
      | exact impl_Pow2Ceil.mono _ _
      | exact LeO.none _
      | refine LeO.ite ?_ ?_
      | refine LeO.bind ?_ (fun _ => ?_)
    · intro y0 y1
      unfold laws_FnPow2Ceil.l0
      repeat' first
      | (with_reducible exact ih0 _ _)
      | (with_reducible exact ih1 _ _)
      | (with_reducible exact impl_Pow2Ceil.mono _ _)
      | (with_reducible exact LeO.refl _)
      | (with_reducible exact LeO.none _)
      | (with_reducible refine LeO.ite ?_ ?_)
      | (with_reducible refine LeO.bind ?_ (fun _ => ?_))
      | exact ih0 _ _
      | exact ih1 _ _
      | exact impl_Pow2Ceil.mono _ _
      | exact LeO.none _
      | refine LeO.ite ?_ ?_
      | refine LeO.bind ?_ (fun _ => ?_)
theorem laws_FnPow2Ceil.mono : ∀ a0 k, LeO (laws_FnPow2Ceil.f k a0) (laws_FnPow2Ceil.f (k + 1) a0) := by
  intro a0 k
  obtain ⟨ih0, ih1⟩ := laws_FnPow2Ceil.mono_l k
  unfold laws_FnPow2Ceil.f
  repeat' first
      | (with_reducible exact ih0 _ _)
      | (with_reducible exact ih1 _ _)
      | (with_reducible exact impl_Pow2Ceil.mono _ _)
      | (with_reducible exact LeO.refl _)
      | (with_reducible exact LeO.none _)
      | (with_reducible refine LeO.ite ?_ ?_)
      | (with_reducible refine LeO.bind ?_ (fun _ => ?_))
      | exact ih0 _ _
      | exact ih1 _ _
      | exact impl_Pow2Ceil.mono _ _
      | exact LeO.none _
      | refine LeO.ite ?_ ?_
      | refine LeO.bind ?_ (fun _ => ?_)
set_option maxHeartbeats 8000000 in
set_option maxRecDepth 100000 in
theorem laws_FnPow2Ceil.calls (k : Nat) (a0 : Int) (r : Bool) (w : World) (h : laws_FnPow2Ceil.f k a0 = some r) :
    Calls Try.prog 3 #[.int .u64 a0] w fun e w' => e = .returned (.bool r) ∧ Drawn0 w w' := by
  have H : (if a0 < 1 then (laws_FnPow2Ceil.j0 k a0 true) else (laws_FnPow2Ceil.j0 k a0 (decide (a0 > 9223372036854775808)))) = some r := h
  clear h
  have HC2 := Aside0.mk H
  clear H
  go_enter Try.func3, Try.ntmps3
  go_upto_region 1 with (fail)
  go_cut [9] (fun v9 wc => ∃ (kq : Nat) (x9_1 : Bool), v9 = .bool x9_1 ∧ Aside0 (laws_FnPow2Ceil.j0 kq a0 x9_1 = some r) ∧ Aside0 (kq ≤ k) ∧ Drawn0 w wc)
  case first =>
    have H := HC2.out
    clear HC2
    by_cases c3 : a0 < 1
    · rw [if_pos c3] at H
      have c3b0 : decide (a0 < 1) = true := decide_eq_true c3
      clear c3
      (first | rw [c3b0] | (simp only [i64_w, i32_w]; rw [c3b0]) | skip)
      have H' := Aside0.mk H
      clear H
      go_wp2
      go_meet
      case rel => exact ⟨_, (true), (by first | rfl | (simp; done) | (simp [*]; done)), H', ⟨by first | omega | exact Nat.le_refl _⟩, by repeat (first | exact Drawn0.refl _ | apply Drawn0.step)⟩
    · rw [if_neg c3] at H
      have c3b0 : decide (a0 < 1) = false := decide_eq_false c3
      clear c3
      (first | rw [c3b0] | (simp only [i64_w, i32_w]; rw [c3b0]) | skip)
      have H' := Aside0.mk H
      clear H
      go_wp2
      go_meet
      case rel => exact ⟨_, (decide (a0 > 9223372036854775808)), (by first | rfl | (simp; done) | (simp [*]; done)), H', ⟨by first | omega | exact Nat.le_refl _⟩, by repeat (first | exact Drawn0.refl _ | apply Drawn0.step)⟩
  case rest =>
    clear HC2
    try clear p2
    try clear c3
    try clear c3b0
    obtain ⟨kq, x9_1, rfl, HA, HJ1, ⟨mc1, rfl⟩⟩ := hcut
    cases kq with
    | zero => exact absurd HA.out (by simp [laws_FnPow2Ceil.j0])
    | succ kj1 =>
      have H := HA.out
      clear HA
      simp only [laws_FnPow2Ceil.j0] at H
      by_cases c4 : x9_1 = true
      · subst c4
        have H1 : (some true) = some r := by rw [if_pos rfl] at H; exact H
        clear H
        have H := H1
        clear H1
        obtain rfl := Option.some.inj H
        go_wp2
        go_ret
        exact ⟨by first | rfl | (simp; done) | (simp [*]; done), by repeat (first | exact Drawn0.refl _ | apply Drawn0.step)⟩
      · replace c4 := Bool.eq_false_iff.mpr c4
        subst c4
        have H1 : (laws_FnPow2Ceil.l0 kj1 a0 1) = some r := by rw [if_neg (show ¬ (false = true) by decide)] at H; exact H
        clear H
        have H := H1
        clear H1
        have H' := Aside0.mk H
        clear H
        go_wp2
        go_loopg [3] kj1 (fun kq v3 w' => ∃ (x3_2 : Int), v3 = .int .u64 x3_2 ∧ Aside0 (laws_FnPow2Ceil.l0 kq a0 x3_2 = some r) ∧ Aside0 (kq ≤ kj1) ∧ Drawn0 w w')
        case atStart => exact ⟨(1), (by first | rfl | (simp; done) | (simp [*]; done)), H', ⟨Nat.le_refl _⟩, by repeat (first | exact Drawn0.refl _ | apply Drawn0.step)⟩
        case round =>
          clear H'
          try clear c1
          try clear p2
          try clear c3
          try clear c3b0
          try clear c4
          try clear p2
          obtain ⟨x3_2, rfl, HA, HK2, ⟨m2, rfl⟩⟩ := hrel
          cases gk with
          | zero => exact absurd HA.out (by simp [laws_FnPow2Ceil.l0])
          | succ k2 =>
            have H := HA.out
            clear HA
            simp only [laws_FnPow2Ceil.l0] at H
            by_cases c5 : x3_2 < a0
            · rw [if_pos c5] at H
              have c5b0 : decide (x3_2 < a0) = true := decide_eq_true c5
              clear c5
              have H' := Aside0.mk H
              clear H
              go_wp2
              go_roundg k2
              case measure => have := HJ1.out; have := HK2.out; omega
              case rel => exact ⟨(IntKind.u64.wrap (x3_2 * 2)), (by first | rfl | (simp; done) | (simp [*]; done)), H', ⟨by have := HJ1.out; have := HK2.out; omega⟩, by repeat (first | exact Drawn0.refl _ | apply Drawn0.step)⟩
            · rw [if_neg c5] at H
              have c5b0 : decide (x3_2 < a0) = false := decide_eq_false c5
              clear c5
              replace H := Option.bind_eq_some_iff.mp H
              obtain ⟨t103, A60, H⟩ := H
              replace H : (some (t103 == x3_2)) = some r := H
              have A6 := Aside0.mk A60
              clear A60
              obtain rfl := Option.some.inj H
              go_wp2_with (first | ((with_reducible refine gate_callee (f := 9) rfl ?_); refine goesL_ (some 16) rfl rfl Try.func9 (by kernel_rfl) rfl #[.int .u64 a0] rfl (by (try simp only [List.map_toArray, List.map_cons, List.map_nil]); first | done | rfl | (simp only [List.length_drop, List.length_take]; rfl)) ?_; (with_reducible refine (impl_Pow2Ceil.calls k2 a0 t103 _ A6.out).mono ?_); rintro e w' ⟨rfl, ⟨nd, rfl⟩⟩; refine ⟨_, rfl, ?_⟩))
              go_ret
              exact ⟨by first | rfl | (simp; done) | (simp [*]; done), by repeat (first | exact Drawn0.refl _ | apply Drawn0.step)⟩

/-- THE ONE PURE STATEMENT of laws_FnPow2Ceil: yours. -/
def laws_FnPow2Ceil.Pure : Prop := ∀ (a0 : Int), (Lit.int .u64 a0).wf = true → ∃ k, laws_FnPow2Ceil.f k a0 = some true
theorem laws_FnPow2Ceil.walk (P : laws_FnPow2Ceil.Pure) (a0 : Int) (w : World) (w0 : (Lit.int .u64 a0).wf = true) :
    Calls Try.prog 3 #[.int .u64 a0] w fun e w' => e = .returned (.bool true) ∧ Below w.heap.size w w' := by
  obtain ⟨k, h⟩ := P a0 w0
  refine (laws_FnPow2Ceil.calls k a0 true w h).mono ?_
  rintro e w' ⟨rfl, hd⟩
  exact ⟨rfl, hd.below⟩

end Go.Proofs.Ytdhfpgbidlanaaa.PFnPow2Ceil
