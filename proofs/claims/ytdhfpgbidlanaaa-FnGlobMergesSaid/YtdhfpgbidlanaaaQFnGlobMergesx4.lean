/- The machine's side of a law, as the kit's print writes it; of the functions that the print doesn't cover this session's own contracts stand in it: no condition. -/
import Derived.Test.YtdhfpgbidlanaaaQFnGlobMergesx0
import Derived.Test.YtdhfpgbidlanaaaQFnGlobMergesx1
import Derived.Test.YtdhfpgbidlanaaaQFnGlobMergesx2
import Derived.Test.YtdhfpgbidlanaaaQFnGlobMergesx3
namespace Go.Proofs.Ytdhfpgbidlanaaa.QFnGlobMerges
open Go.RowKit Go.Proofs.YtdhfpgbidlanaaaW.PrintWords Go.Proofs.YtdhfpgbidlanaaaW.PrintLast Go.Proofs.YtdhfpgbidlanaaaW.PrintMore
attribute [local go_sem] max2_int min2_int max_two min_two max_three min_three max_four min_four   -- for this text's walks alone
set_option linter.unusedVariables false
set_option linter.unusedSimpArgs false

/-! ### spec_GlobSame: function 20 -/
def spec_GlobSame.l0 : Nat → List ByteArray → List ByteArray → Int → Int → Option (Bool)
  | 0, _, _, _, _ => none
  | k + 1, x0, x1, x12, x13 => if x13 < x12 then (if 0 ≤ x13 then (if x13 < (x0.length : Int) then (if x13 < (x1.length : Int) then (if (rdOf ByteArray.empty x0 x13).toList = (rdOf ByteArray.empty x1 x13).toList then (spec_GlobSame.l0 k x0 x1 x12 (wrap64 (x13 + 1))) else (some false)) else (none)) else (none)) else (none)) else (some true)
def spec_GlobSame.f (k : Nat) (l0 : List ByteArray) (l1 : List ByteArray) : Option (Bool) := if (l0.length : Int) = (l1.length : Int) then (spec_GlobSame.l0 k l0 l1 (l0.length : Int) 0) else (some false)
theorem spec_GlobSame.mono_l : ∀ k, (∀ y0 y1 y2 y3, LeO (spec_GlobSame.l0 k y0 y1 y2 y3) (spec_GlobSame.l0 (k + 1) y0 y1 y2 y3))
  | 0 => fun _ _ _ _ r h => by simp [spec_GlobSame.l0] at h
  | k + 1 => by
    have ih0 := spec_GlobSame.mono_l k
    · intro y0 y1 y2 y3
      unfold spec_GlobSame.l0
      repeat' first
      | (with_reducible exact ih0 _ _ _ _)
      | (with_reducible exact LeO.refl _)
      | (with_reducible exact LeO.none _)
      | (with_reducible refine LeO.ite ?_ ?_)
      | (with_reducible refine LeO.bind ?_ (fun _ => ?_))
      | exact ih0 _ _ _ _
      | exact LeO.none _
      | refine LeO.ite ?_ ?_
      | refine LeO.bind ?_ (fun _ => ?_)
theorem spec_GlobSame.mono : ∀ a0 a1 k, LeO (spec_GlobSame.f k a0 a1) (spec_GlobSame.f (k + 1) a0 a1) := by
  intro a0 a1 k
  have ih0 := spec_GlobSame.mono_l k
  unfold spec_GlobSame.f
  repeat' first
      | (with_reducible exact ih0 _ _ _ _)
      | (with_reducible exact LeO.refl _)
      | (with_reducible exact LeO.none _)
      | (with_reducible refine LeO.ite ?_ ?_)
      | (with_reducible refine LeO.bind ?_ (fun _ => ?_))
      | exact ih0 _ _ _ _
      | exact LeO.none _
      | refine LeO.ite ?_ ?_
      | refine LeO.bind ?_ (fun _ => ?_)
set_option maxHeartbeats 8000000 in
set_option maxRecDepth 100000 in
theorem spec_GlobSame.calls (k : Nat) (A0 : Option Addr) (c0 : Nat) (l0 : List ByteArray) (A1 : Option Addr) (c1 : Nat) (l1 : List ByteArray) (r : Bool) (w : World) (hr0 : Kd.C Kd.string w A0 l0.length l0) (hc0 : l0.length ≤ c0) (hr1 : Kd.C Kd.string w A1 l1.length l1) (hc1 : l1.length ≤ c1) (h : spec_GlobSame.f k l0 l1 = some r) :
    Calls Try.prog 20 #[.slice A0 l0.length c0, .slice A1 l1.length c1] w fun e w' => e = .returned (.bool r) ∧ Drawn0 w w' := by
  have HR0 := Aside0.mk hr0
  have HC0 := Aside0.mk hc0
  clear hr0 hc0
  have HR1 := Aside0.mk hr1
  have HC1 := Aside0.mk hc1
  clear hr1 hc1
  have H : (if (l0.length : Int) = (l1.length : Int) then (spec_GlobSame.l0 k l0 l1 (l0.length : Int) 0) else (some false)) = some r := h
  clear h
  by_cases c3 : (l0.length : Int) = (l1.length : Int)
  · rw [if_pos c3] at H
    have c3b0 : ((l0.length : Int) == (l1.length : Int)) = true := beq_iff_eq.mpr c3
    have c3b1 : ((l0.length : Int) != (l1.length : Int)) = false := bne_eq_false_iff_eq.mpr c3
    have c3b2 : (l0.length == l1.length) = true := by first | simpa using c3 | (simp at c3 ⊢; omega)
    clear c3
    have H' := Aside0.mk H
    clear H
    go_enter Try.func20, Try.ntmps20
    go_wp2
    repeat (go_quiet (fail); try go_wp2)
    go_loopg [13] k (fun kq v13 w' => ∃ (x13_1 : Int), v13 = .int .i64 x13_1 ∧ Aside0 (spec_GlobSame.l0 kq l0 l1 (l0.length : Int) x13_1 = some r) ∧ Aside0 (kq ≤ k) ∧ Drawn0 w w')
    case atStart => exact ⟨(0), (by first | rfl | (simp; done) | (simp [*]; done)), H', ⟨Nat.le_refl _⟩, by repeat (first | exact Drawn0.refl _ | apply Drawn0.step)⟩
    case round =>
      clear H'
      try clear c1
      try clear c2
      try clear p2
      try clear c3
      try clear c3b0
      try clear c3b1
      try clear c3b2
      obtain ⟨x13_1, rfl, HA, HK1, ⟨m1, rfl⟩⟩ := hrel
      cases gk with
      | zero => exact absurd HA.out (by simp [spec_GlobSame.l0])
      | succ k1 =>
        have H := HA.out
        clear HA
        simp only [spec_GlobSame.l0] at H
        by_cases c4 : x13_1 < (l0.length : Int)
        · rw [if_pos c4] at H
          have c4b0 : decide (x13_1 < (l0.length : Int)) = true := decide_eq_true c4
          clear c4
          by_cases c5 : 0 ≤ x13_1
          · rw [if_pos c5] at H
            have c5b0 : decide (0 ≤ x13_1) = true := decide_eq_true c5
            clear c5
            by_cases c6 : x13_1 < (l0.length : Int)
            · rw [if_pos c6] at H
              have c6b0 : decide (x13_1 < (l0.length : Int)) = true := decide_eq_true c6
              clear c6
              by_cases c7 : x13_1 < (l1.length : Int)
              · rw [if_pos c7] at H
                have c7b0 : decide (x13_1 < (l1.length : Int)) = true := decide_eq_true c7
                clear c7
                by_cases c8 : (rdOf ByteArray.empty l0 x13_1).toList = (rdOf ByteArray.empty l1 x13_1).toList
                · rw [if_pos c8] at H
                  have c8b0 : ((rdOf ByteArray.empty l0 x13_1).toList == (rdOf ByteArray.empty l1 x13_1).toList) = true := beq_iff_eq.mpr c8
                  have c8b1 : ((rdOf ByteArray.empty l0 x13_1).toList != (rdOf ByteArray.empty l1 x13_1).toList) = false := bne_eq_false_iff_eq.mpr c8
                  clear c8
                  have H' := Aside0.mk H
                  clear H
                  have p187 : 0 ≤ (x13_1 : Int) := of_decide_eq_true (by first | (with_reducible assumption) | assumption)
                  have q187 : x13_1 < (l0.length : Int) := of_decide_eq_true (by first | (with_reducible assumption) | assumption)
                  obtain ⟨ad187, e187, hx187_0⟩ := Kd.at_string HR0.out x13_1 p187 q187
                  cases e187
                  replace p187 := eq_true p187
                  replace q187 := eq_true q187
                  have p188 : 0 ≤ (x13_1 : Int) := of_decide_eq_true (by first | (with_reducible assumption) | assumption)
                  have q188 : x13_1 < (l1.length : Int) := of_decide_eq_true (by first | (with_reducible assumption) | assumption)
                  obtain ⟨ad188, e188, hx188_0⟩ := Kd.at_string HR1.out x13_1 p188 q188
                  cases e188
                  replace p188 := eq_true p188
                  replace q188 := eq_true q188
                  go_wp2
                  repeat (go_quiet (fail); try go_wp2)
                  go_roundg k1
                  case measure => have := HK1.out; omega
                  case rel => exact ⟨(wrap64 (x13_1 + 1)), (by first | rfl | (simp; done) | (simp [*]; done)), H', ⟨by have := HK1.out; omega⟩, by repeat (first | exact Drawn0.refl _ | apply Drawn0.step)⟩
                · rw [if_neg c8] at H
                  have c8b0 : ((rdOf ByteArray.empty l0 x13_1).toList == (rdOf ByteArray.empty l1 x13_1).toList) = false := beq_eq_false_iff_ne.mpr c8
                  have c8b1 : ((rdOf ByteArray.empty l0 x13_1).toList != (rdOf ByteArray.empty l1 x13_1).toList) = true := bne_iff_ne.mpr c8
                  obtain rfl := Option.some.inj H
                  have p187 : 0 ≤ (x13_1 : Int) := of_decide_eq_true (by first | (with_reducible assumption) | assumption)
                  have q187 : x13_1 < (l0.length : Int) := of_decide_eq_true (by first | (with_reducible assumption) | assumption)
                  obtain ⟨ad187, e187, hx187_0⟩ := Kd.at_string HR0.out x13_1 p187 q187
                  cases e187
                  replace p187 := eq_true p187
                  replace q187 := eq_true q187
                  have p188 : 0 ≤ (x13_1 : Int) := of_decide_eq_true (by first | (with_reducible assumption) | assumption)
                  have q188 : x13_1 < (l1.length : Int) := of_decide_eq_true (by first | (with_reducible assumption) | assumption)
                  obtain ⟨ad188, e188, hx188_0⟩ := Kd.at_string HR1.out x13_1 p188 q188
                  cases e188
                  replace p188 := eq_true p188
                  replace q188 := eq_true q188
                  go_wp2
                  repeat (go_quiet (fail); try go_wp2)
                  go_ret
                  exact ⟨by first | rfl | (simp; done) | (simp [*]; done), by repeat (first | exact Drawn0.refl _ | apply Drawn0.step)⟩
              · rw [if_neg c7] at H
                exact absurd H (by simp)
            · rw [if_neg c6] at H
              exact absurd H (by simp)
          · rw [if_neg c5] at H
            exact absurd H (by simp)
        · rw [if_neg c4] at H
          have c4b0 : decide (x13_1 < (l0.length : Int)) = false := decide_eq_false c4
          clear c4
          obtain rfl := Option.some.inj H
          go_wp2
          repeat (go_quiet (fail); try go_wp2)
          go_ret
          exact ⟨by first | rfl | (simp; done) | (simp [*]; done), by repeat (first | exact Drawn0.refl _ | apply Drawn0.step)⟩
  · rw [if_neg c3] at H
    have c3b0 : ((l0.length : Int) == (l1.length : Int)) = false := beq_eq_false_iff_ne.mpr c3
    have c3b1 : ((l0.length : Int) != (l1.length : Int)) = true := bne_iff_ne.mpr c3
    have c3b2 : (l0.length == l1.length) = false := by first | simpa using c3 | (simp at c3 ⊢; omega)
    obtain rfl := Option.some.inj H
    go_enter Try.func20, Try.ntmps20
    go_wp2
    repeat (go_quiet (fail); try go_wp2)
    go_ret
    exact ⟨by first | rfl | (simp; done) | (simp [*]; done), by repeat (first | exact Drawn0.refl _ | apply Drawn0.step)⟩

/-! ### laws_FnGlobMerges: function 7 -/
mutual
def laws_FnGlobMerges.j0 : Nat → List ByteArray → List ByteArray → List ByteArray → Bool → Option (Bool)
  | 0, _, _, _, _ => none
  | k + 1, x0, x1, x2, x21 => if x21 = true then (some true) else ((spec_GlobRises.f k x1).bind fun t192 => (if t192 = true then ((spec_GlobRises.f k x2).bind fun t193 => (if t193 = true then (if (x2.length : Int) = 0 then (laws_FnGlobMerges.j1 k x0 x1 x2 true) else ((spec_GlobBoth.f k x1 x2).bind fun t194 => (laws_FnGlobMerges.j1 k x0 x1 x2 (decide ((t194.length : Int) < (wrap64 ((x1.length : Int) + (x2.length : Int)))))))) else (laws_FnGlobMerges.j1 k x0 x1 x2 true))) else (laws_FnGlobMerges.j1 k x0 x1 x2 true)))
def laws_FnGlobMerges.j1 : Nat → List ByteArray → List ByteArray → List ByteArray → Bool → Option (Bool)
  | 0, _, _, _, _ => none
  | k + 1, x0, x1, x2, x46 => if x46 = true then (some true) else ((some (([] : List ByteArray) : List ByteArray)).bind fun y197 => (if y197.length + x0.length < 8796093022208 then ((some (y197 ++ x0 : List ByteArray)).bind fun y200 => (if y200.length + x1.length < 8796093022208 then ((some (y200 ++ x1 : List ByteArray)).bind fun y203 => (if y203.length + x2.length < 8796093022208 then ((impl_GlobMergeDups.f k (y203 ++ x2) (x0.length : Int) (wrap64 ((x0.length : Int) + (x1.length : Int)))).bind fun t209 => ((some (([] : List ByteArray) : List ByteArray)).bind fun y212 => (if y212.length + x0.length < 8796093022208 then ((some (y212 ++ x0 : List ByteArray)).bind fun y215 => ((spec_GlobBoth.f k x1 x2).bind fun t218 => (if y215.length + t218.length < 8796093022208 then ((spec_GlobSame.f k t209 (y215 ++ t218)).bind fun t224 => (if t224 = true then ((impl_GlobMergeDups.f k (([(⟨#[98]⟩ : ByteArray), (⟨#[97]⟩ : ByteArray)] : List ByteArray)) 0 1).bind fun t228 => ((spec_GlobSame.f k t228 (([(⟨#[97]⟩ : ByteArray), (⟨#[98]⟩ : ByteArray)] : List ByteArray))).bind fun t234 => (some t234))) else (some false))) else (none)))) else (none)))) else (none))) else (none))) else (none)))
end
def laws_FnGlobMerges.f (k : Nat) (l0 : List ByteArray) (l1 : List ByteArray) (l2 : List ByteArray) : Option (Bool) := (laws_zzFits1.f k l0).bind fun t189 => (if t189 = true then ((laws_zzFits1.f k l1).bind fun t190 => (if t190 = true then ((laws_zzFits1.f k l2).bind fun t191 => (laws_FnGlobMerges.j0 k l0 l1 l2 (!t191))) else (laws_FnGlobMerges.j0 k l0 l1 l2 true))) else (laws_FnGlobMerges.j0 k l0 l1 l2 true))
theorem laws_FnGlobMerges.mono_l : ∀ k, (∀ y0 y1 y2 y3, LeO (laws_FnGlobMerges.j0 k y0 y1 y2 y3) (laws_FnGlobMerges.j0 (k + 1) y0 y1 y2 y3)) ∧ (∀ y0 y1 y2 y3, LeO (laws_FnGlobMerges.j1 k y0 y1 y2 y3) (laws_FnGlobMerges.j1 (k + 1) y0 y1 y2 y3))
  | 0 => ⟨fun _ _ _ _ r h => by simp [laws_FnGlobMerges.j0] at h, fun _ _ _ _ r h => by simp [laws_FnGlobMerges.j1] at h⟩
  | k + 1 => by
    obtain ⟨ih0, ih1⟩ := laws_FnGlobMerges.mono_l k
    refine ⟨?_, ?_⟩
    · intro y0 y1 y2 y3
      unfold laws_FnGlobMerges.j0
      repeat' first
      | (with_reducible exact ih0 _ _ _ _)
      | (with_reducible exact ih1 _ _ _ _)
      | (with_reducible exact impl_GlobMergeDups.mono _ _ _ _)
      | (with_reducible exact laws_zzFits1.mono _ _)
      | (with_reducible exact spec_GlobBoth.mono _ _ _)
      | (with_reducible exact spec_GlobRises.mono _ _)
      | (with_reducible exact spec_GlobSame.mono _ _ _)
      | (with_reducible exact LeO.refl _)
      | (with_reducible exact LeO.none _)
      | (with_reducible refine LeO.ite ?_ ?_)
      | (with_reducible refine LeO.bind ?_ (fun _ => ?_))
      | exact ih0 _ _ _ _
      | exact ih1 _ _ _ _
      | exact impl_GlobMergeDups.mono _ _ _ _
      | exact laws_zzFits1.mono _ _
      | exact spec_GlobBoth.mono _ _ _
      | exact spec_GlobRises.mono _ _
      | exact spec_GlobSame.mono _ _ _
      | exact LeO.none _
      | refine LeO.ite ?_ ?_
      | refine LeO.bind ?_ (fun _ => ?_)
    · intro y0 y1 y2 y3
      unfold laws_FnGlobMerges.j1
      repeat' first
      | (with_reducible exact ih0 _ _ _ _)
      | (with_reducible exact ih1 _ _ _ _)
      | (with_reducible exact impl_GlobMergeDups.mono _ _ _ _)
      | (with_reducible exact laws_zzFits1.mono _ _)
      | (with_reducible exact spec_GlobBoth.mono _ _ _)
      | (with_reducible exact spec_GlobRises.mono _ _)
      | (with_reducible exact spec_GlobSame.mono _ _ _)
      | (with_reducible exact LeO.refl _)
      | (with_reducible exact LeO.none _)
      | (with_reducible refine LeO.ite ?_ ?_)
      | (with_reducible refine LeO.bind ?_ (fun _ => ?_))
      | exact ih0 _ _ _ _
      | exact ih1 _ _ _ _
      | exact impl_GlobMergeDups.mono _ _ _ _
      | exact laws_zzFits1.mono _ _
      | exact spec_GlobBoth.mono _ _ _
      | exact spec_GlobRises.mono _ _
      | exact spec_GlobSame.mono _ _ _
      | exact LeO.none _
      | refine LeO.ite ?_ ?_
      | refine LeO.bind ?_ (fun _ => ?_)
theorem laws_FnGlobMerges.mono : ∀ a0 a1 a2 k, LeO (laws_FnGlobMerges.f k a0 a1 a2) (laws_FnGlobMerges.f (k + 1) a0 a1 a2) := by
  intro a0 a1 a2 k
  obtain ⟨ih0, ih1⟩ := laws_FnGlobMerges.mono_l k
  unfold laws_FnGlobMerges.f
  repeat' first
      | (with_reducible exact ih0 _ _ _ _)
      | (with_reducible exact ih1 _ _ _ _)
      | (with_reducible exact impl_GlobMergeDups.mono _ _ _ _)
      | (with_reducible exact laws_zzFits1.mono _ _)
      | (with_reducible exact spec_GlobBoth.mono _ _ _)
      | (with_reducible exact spec_GlobRises.mono _ _)
      | (with_reducible exact spec_GlobSame.mono _ _ _)
      | (with_reducible exact LeO.refl _)
      | (with_reducible exact LeO.none _)
      | (with_reducible refine LeO.ite ?_ ?_)
      | (with_reducible refine LeO.bind ?_ (fun _ => ?_))
      | exact ih0 _ _ _ _
      | exact ih1 _ _ _ _
      | exact impl_GlobMergeDups.mono _ _ _ _
      | exact laws_zzFits1.mono _ _
      | exact spec_GlobBoth.mono _ _ _
      | exact spec_GlobRises.mono _ _
      | exact spec_GlobSame.mono _ _ _
      | exact LeO.none _
      | refine LeO.ite ?_ ?_
      | refine LeO.bind ?_ (fun _ => ?_)
set_option maxHeartbeats 8000000 in
set_option maxRecDepth 100000 in
theorem laws_FnGlobMerges.calls (k : Nat) (A0 : Option Addr) (c0 : Nat) (l0 : List ByteArray) (A1 : Option Addr) (c1 : Nat) (l1 : List ByteArray) (A2 : Option Addr) (c2 : Nat) (l2 : List ByteArray) (r : Bool) (w : World) (hr0 : Kd.C Kd.string w A0 l0.length l0) (hc0 : l0.length ≤ c0) (hr1 : Kd.C Kd.string w A1 l1.length l1) (hc1 : l1.length ≤ c1) (hr2 : Kd.C Kd.string w A2 l2.length l2) (hc2 : l2.length ≤ c2) (h : laws_FnGlobMerges.f k l0 l1 l2 = some r) :
    Calls Try.prog 7 #[.slice A0 l0.length c0, .slice A1 l1.length c1, .slice A2 l2.length c2] w fun e w' => e = .returned (.bool r) ∧ Below w.heap.size w w' := by
  have HR0 := Aside0.mk hr0
  have HC0 := Aside0.mk hc0
  clear hr0 hc0
  have HR1 := Aside0.mk hr1
  have HC1 := Aside0.mk hc1
  clear hr1 hc1
  have HR2 := Aside0.mk hr2
  have HC2 := Aside0.mk hc2
  clear hr2 hc2
  have HB := Aside0.mk (Below.refl w.heap.size w)
  have H : ((laws_zzFits1.f k l0).bind fun t189 => (if t189 = true then ((laws_zzFits1.f k l1).bind fun t190 => (if t190 = true then ((laws_zzFits1.f k l2).bind fun t191 => (laws_FnGlobMerges.j0 k l0 l1 l2 (!t191))) else (laws_FnGlobMerges.j0 k l0 l1 l2 true))) else (laws_FnGlobMerges.j0 k l0 l1 l2 true))) = some r := h
  clear h
  have HC4 := Aside0.mk H
  clear H
  go_enter Try.func7, Try.ntmps7
  go_upto_region 1 with (fail)
  go_cut [21] (fun v21 wc => ∃ (kq : Nat) (x21_3 : Bool), v21 = .bool x21_3 ∧ Aside0 (laws_FnGlobMerges.j0 kq l0 l1 l2 x21_3 = some r) ∧ Aside0 (kq ≤ k) ∧ Aside0 (Below w.heap.size w wc))
  case first =>
    have H := HC4.out
    clear HC4
    replace H := Option.bind_eq_some_iff.mp H
    obtain ⟨t189, A50, H⟩ := H
    replace H : (if t189 = true then ((laws_zzFits1.f k l1).bind fun t190 => (if t190 = true then ((laws_zzFits1.f k l2).bind fun t191 => (laws_FnGlobMerges.j0 k l0 l1 l2 (!t191))) else (laws_FnGlobMerges.j0 k l0 l1 l2 true))) else (laws_FnGlobMerges.j0 k l0 l1 l2 true)) = some r := H
    have A5 := Aside0.mk A50
    clear A50
    by_cases c6 : t189 = true
    · subst c6
      have H1 : ((laws_zzFits1.f k l1).bind fun t190 => (if t190 = true then ((laws_zzFits1.f k l2).bind fun t191 => (laws_FnGlobMerges.j0 k l0 l1 l2 (!t191))) else (laws_FnGlobMerges.j0 k l0 l1 l2 true))) = some r := by rw [if_pos rfl] at H; exact H
      clear H
      have H := H1
      clear H1
      replace H := Option.bind_eq_some_iff.mp H
      obtain ⟨t190, A70, H⟩ := H
      replace H : (if t190 = true then ((laws_zzFits1.f k l2).bind fun t191 => (laws_FnGlobMerges.j0 k l0 l1 l2 (!t191))) else (laws_FnGlobMerges.j0 k l0 l1 l2 true)) = some r := H
      have A7 := Aside0.mk A70
      clear A70
      by_cases c8 : t190 = true
      · subst c8
        have H1 : ((laws_zzFits1.f k l2).bind fun t191 => (laws_FnGlobMerges.j0 k l0 l1 l2 (!t191))) = some r := by rw [if_pos rfl] at H; exact H
        clear H
        have H := H1
        clear H1
        replace H := Option.bind_eq_some_iff.mp H
        obtain ⟨t191, A90, H⟩ := H
        replace H : (laws_FnGlobMerges.j0 k l0 l1 l2 (!t191)) = some r := H
        have A9 := Aside0.mk A90
        clear A90
        have H' := Aside0.mk H
        clear H
        go_wp2_with (first | ((with_reducible refine gate_callee (f := 16) rfl ?_); refine goesL_ (some 10) rfl rfl Try.func16 (by kernel_rfl) rfl #[.slice A0 l0.length c0] rfl (by (try simp only [List.map_toArray, List.map_cons, List.map_nil]); first | done | rfl | (simp only [List.length_drop, List.length_take]; rfl)) ?_; (with_reducible refine (laws_zzFits1.calls k _ _ l0 true _ ?side1 ?side2 A5.out).mono ?_); (case side1 => repeat (first | exact (Kd.C_below HR0.out HB.out) | (with_reducible refine Kd.C_alloc ?_ _) | (with_reducible refine Kd.C_drewN ?_ _) | (with_reducible refine Kd.C_drew ?_))); (case side2 => exact HC0.out); rintro e w' ⟨rfl, ⟨nd, rfl⟩⟩; refine ⟨_, rfl, ?_⟩) | (go_at_call 16; (with_reducible refine (laws_zzFits1.calls k _ _ l1 true _ ?side1 ?side2 A7.out).mono ?_); (case side1 => repeat (first | exact (Kd.C_below HR1.out (by repeat (first | (with_reducible first | exact HB.out | apply below_alloc | apply pw_below_drewN | apply below_drew1) | exact HB.out))) | (with_reducible refine Kd.C_alloc ?_ _) | (with_reducible refine Kd.C_drewN ?_ _) | (with_reducible refine Kd.C_drew ?_))); (case side2 => exact HC1.out); rintro e w' ⟨rfl, ⟨nd, rfl⟩⟩) | (go_at_call 16; (with_reducible refine (laws_zzFits1.calls k _ _ l2 t191 _ ?side1 ?side2 A9.out).mono ?_); (case side1 => repeat (first | exact (Kd.C_below HR2.out (by repeat (first | (with_reducible first | exact HB.out | apply below_alloc | apply pw_below_drewN | apply below_drew1) | exact HB.out))) | (with_reducible refine Kd.C_alloc ?_ _) | (with_reducible refine Kd.C_drewN ?_ _) | (with_reducible refine Kd.C_drew ?_))); (case side2 => exact HC2.out); rintro e w' ⟨rfl, ⟨nd, rfl⟩⟩))
        go_meet
        case rel => exact ⟨_, (!t191), (by first | rfl | (simp; done) | (simp [*]; done)), H', ⟨by first | omega | exact Nat.le_refl _⟩, ⟨by repeat (first | (with_reducible first | exact HB.out | apply below_alloc | apply pw_below_drewN | apply below_drew1) | exact HB.out)⟩⟩
      · replace c8 := Bool.eq_false_iff.mpr c8
        subst c8
        have H1 : (laws_FnGlobMerges.j0 k l0 l1 l2 true) = some r := by rw [if_neg (show ¬ (false = true) by decide)] at H; exact H
        clear H
        have H := H1
        clear H1
        have H' := Aside0.mk H
        clear H
        go_wp2_with (first | ((with_reducible refine gate_callee (f := 16) rfl ?_); refine goesL_ (some 10) rfl rfl Try.func16 (by kernel_rfl) rfl #[.slice A0 l0.length c0] rfl (by (try simp only [List.map_toArray, List.map_cons, List.map_nil]); first | done | rfl | (simp only [List.length_drop, List.length_take]; rfl)) ?_; (with_reducible refine (laws_zzFits1.calls k _ _ l0 true _ ?side1 ?side2 A5.out).mono ?_); (case side1 => repeat (first | exact (Kd.C_below HR0.out HB.out) | (with_reducible refine Kd.C_alloc ?_ _) | (with_reducible refine Kd.C_drewN ?_ _) | (with_reducible refine Kd.C_drew ?_))); (case side2 => exact HC0.out); rintro e w' ⟨rfl, ⟨nd, rfl⟩⟩; refine ⟨_, rfl, ?_⟩) | (go_at_call 16; (with_reducible refine (laws_zzFits1.calls k _ _ l1 false _ ?side1 ?side2 A7.out).mono ?_); (case side1 => repeat (first | exact (Kd.C_below HR1.out (by repeat (first | (with_reducible first | exact HB.out | apply below_alloc | apply pw_below_drewN | apply below_drew1) | exact HB.out))) | (with_reducible refine Kd.C_alloc ?_ _) | (with_reducible refine Kd.C_drewN ?_ _) | (with_reducible refine Kd.C_drew ?_))); (case side2 => exact HC1.out); rintro e w' ⟨rfl, ⟨nd, rfl⟩⟩))
        go_meet
        case rel => exact ⟨_, (true), (by first | rfl | (simp; done) | (simp [*]; done)), H', ⟨by first | omega | exact Nat.le_refl _⟩, ⟨by repeat (first | (with_reducible first | exact HB.out | apply below_alloc | apply pw_below_drewN | apply below_drew1) | exact HB.out)⟩⟩
    · replace c6 := Bool.eq_false_iff.mpr c6
      subst c6
      have H1 : (laws_FnGlobMerges.j0 k l0 l1 l2 true) = some r := by rw [if_neg (show ¬ (false = true) by decide)] at H; exact H
      clear H
      have H := H1
      clear H1
      have H' := Aside0.mk H
      clear H
      go_wp2_with (first | ((with_reducible refine gate_callee (f := 16) rfl ?_); refine goesL_ (some 10) rfl rfl Try.func16 (by kernel_rfl) rfl #[.slice A0 l0.length c0] rfl (by (try simp only [List.map_toArray, List.map_cons, List.map_nil]); first | done | rfl | (simp only [List.length_drop, List.length_take]; rfl)) ?_; (with_reducible refine (laws_zzFits1.calls k _ _ l0 false _ ?side1 ?side2 A5.out).mono ?_); (case side1 => repeat (first | exact (Kd.C_below HR0.out HB.out) | (with_reducible refine Kd.C_alloc ?_ _) | (with_reducible refine Kd.C_drewN ?_ _) | (with_reducible refine Kd.C_drew ?_))); (case side2 => exact HC0.out); rintro e w' ⟨rfl, ⟨nd, rfl⟩⟩; refine ⟨_, rfl, ?_⟩))
      go_meet
      case rel => exact ⟨_, (true), (by first | rfl | (simp; done) | (simp [*]; done)), H', ⟨by first | omega | exact Nat.le_refl _⟩, ⟨by repeat (first | (with_reducible first | exact HB.out | apply below_alloc | apply pw_below_drewN | apply below_drew1) | exact HB.out)⟩⟩
  case rest =>
    clear HC4
    try clear c1
    try clear c2
    try clear p2
    try clear c6
    try clear c7
    try clear c8
    obtain ⟨kq, x21_3, rfl, HA, HJ3, HB⟩ := hcut
    cases kq with
    | zero => exact absurd HA.out (by simp [laws_FnGlobMerges.j0])
    | succ kj3 =>
      have H := HA.out
      clear HA
      simp only [laws_FnGlobMerges.j0] at H
      by_cases c10 : x21_3 = true
      · subst c10
        have H1 : (some true) = some r := by rw [if_pos rfl] at H; exact H
        clear H
        have H := H1
        clear H1
        obtain rfl := Option.some.inj H
        go_wp2
        go_ret
        exact ⟨by first | rfl | (simp [errW_none, errW_some] <;> rfl) | (simp [*, errW_none, errW_some] <;> rfl), by repeat (first | (with_reducible first | exact HB.out | apply below_alloc | apply pw_below_drewN | apply below_drew1) | exact HB.out)⟩
      · replace c10 := Bool.eq_false_iff.mpr c10
        subst c10
        have H1 : ((spec_GlobRises.f kj3 l1).bind fun t192 => (if t192 = true then ((spec_GlobRises.f kj3 l2).bind fun t193 => (if t193 = true then (if (l2.length : Int) = 0 then (laws_FnGlobMerges.j1 kj3 l0 l1 l2 true) else ((spec_GlobBoth.f kj3 l1 l2).bind fun t194 => (laws_FnGlobMerges.j1 kj3 l0 l1 l2 (decide ((t194.length : Int) < (wrap64 ((l1.length : Int) + (l2.length : Int)))))))) else (laws_FnGlobMerges.j1 kj3 l0 l1 l2 true))) else (laws_FnGlobMerges.j1 kj3 l0 l1 l2 true))) = some r := by rw [if_neg (show ¬ (false = true) by decide)] at H; exact H
        clear H
        have H := H1
        clear H1
        have HC11 := Aside0.mk H
        clear H
        go_upto_region 3 with (fail)
        go_cut [46] (fun v46 wc => ∃ (kq : Nat) (x46_10 : Bool), v46 = .bool x46_10 ∧ Aside0 (laws_FnGlobMerges.j1 kq l0 l1 l2 x46_10 = some r) ∧ Aside0 (kq ≤ kj3) ∧ Aside0 (Below w.heap.size w wc))
        case first =>
          have H := HC11.out
          clear HC11
          replace H := Option.bind_eq_some_iff.mp H
          obtain ⟨t192, A120, H⟩ := H
          replace H : (if t192 = true then ((spec_GlobRises.f kj3 l2).bind fun t193 => (if t193 = true then (if (l2.length : Int) = 0 then (laws_FnGlobMerges.j1 kj3 l0 l1 l2 true) else ((spec_GlobBoth.f kj3 l1 l2).bind fun t194 => (laws_FnGlobMerges.j1 kj3 l0 l1 l2 (decide ((t194.length : Int) < (wrap64 ((l1.length : Int) + (l2.length : Int)))))))) else (laws_FnGlobMerges.j1 kj3 l0 l1 l2 true))) else (laws_FnGlobMerges.j1 kj3 l0 l1 l2 true)) = some r := H
          have A12 := Aside0.mk A120
          clear A120
          by_cases c13 : t192 = true
          · subst c13
            have H1 : ((spec_GlobRises.f kj3 l2).bind fun t193 => (if t193 = true then (if (l2.length : Int) = 0 then (laws_FnGlobMerges.j1 kj3 l0 l1 l2 true) else ((spec_GlobBoth.f kj3 l1 l2).bind fun t194 => (laws_FnGlobMerges.j1 kj3 l0 l1 l2 (decide ((t194.length : Int) < (wrap64 ((l1.length : Int) + (l2.length : Int)))))))) else (laws_FnGlobMerges.j1 kj3 l0 l1 l2 true))) = some r := by rw [if_pos rfl] at H; exact H
            clear H
            have H := H1
            clear H1
            replace H := Option.bind_eq_some_iff.mp H
            obtain ⟨t193, A140, H⟩ := H
            replace H : (if t193 = true then (if (l2.length : Int) = 0 then (laws_FnGlobMerges.j1 kj3 l0 l1 l2 true) else ((spec_GlobBoth.f kj3 l1 l2).bind fun t194 => (laws_FnGlobMerges.j1 kj3 l0 l1 l2 (decide ((t194.length : Int) < (wrap64 ((l1.length : Int) + (l2.length : Int)))))))) else (laws_FnGlobMerges.j1 kj3 l0 l1 l2 true)) = some r := H
            have A14 := Aside0.mk A140
            clear A140
            by_cases c15 : t193 = true
            · subst c15
              have H1 : (if (l2.length : Int) = 0 then (laws_FnGlobMerges.j1 kj3 l0 l1 l2 true) else ((spec_GlobBoth.f kj3 l1 l2).bind fun t194 => (laws_FnGlobMerges.j1 kj3 l0 l1 l2 (decide ((t194.length : Int) < (wrap64 ((l1.length : Int) + (l2.length : Int)))))))) = some r := by rw [if_pos rfl] at H; exact H
              clear H
              have H := H1
              clear H1
              by_cases c16 : (l2.length : Int) = 0
              · rw [if_pos c16] at H
                have c16b0 : ((l2.length : Int) == 0) = true := beq_iff_eq.mpr c16
                have c16b1 : ((l2.length : Int) != 0) = false := bne_eq_false_iff_eq.mpr c16
                clear c16
                (first | rw [c16b0] | (simp only [i64_w, i32_w]; rw [c16b0]) | skip)
                have H' := Aside0.mk H
                clear H
                go_wp2_with (first | ((with_reducible refine gate_callee (f := 17) rfl ?_); refine goesL_ (some 23) rfl rfl Try.func17 (by kernel_rfl) rfl #[.slice A1 l1.length c1] rfl (by (try simp only [List.map_toArray, List.map_cons, List.map_nil]); first | done | rfl | (simp only [List.length_drop, List.length_take]; rfl)) ?_; (with_reducible refine (spec_GlobRises.calls kj3 _ _ l1 true _ ?side1 ?side2 A12.out).mono ?_); (case side1 => repeat (first | exact (Kd.C_below HR1.out HB.out) | (with_reducible refine Kd.C_alloc ?_ _) | (with_reducible refine Kd.C_drewN ?_ _) | (with_reducible refine Kd.C_drew ?_))); (case side2 => exact HC1.out); rintro e w' ⟨rfl, ⟨nd, rfl⟩⟩; refine ⟨_, rfl, ?_⟩) | (go_at_call 17; (with_reducible refine (spec_GlobRises.calls kj3 _ _ l2 true _ ?side1 ?side2 A14.out).mono ?_); (case side1 => repeat (first | exact (Kd.C_below HR2.out (by repeat (first | (with_reducible first | exact HB.out | apply below_alloc | apply pw_below_drewN | apply below_drew1) | exact HB.out))) | (with_reducible refine Kd.C_alloc ?_ _) | (with_reducible refine Kd.C_drewN ?_ _) | (with_reducible refine Kd.C_drew ?_))); (case side2 => exact HC2.out); rintro e w' ⟨rfl, ⟨nd, rfl⟩⟩))
                go_meet
                case rel => exact ⟨_, (true), (by first | rfl | (simp; done) | (simp [*]; done)), H', ⟨by have := HJ3.out; first | omega | exact Nat.le_refl _⟩, ⟨by repeat (first | (with_reducible first | exact HB.out | apply below_alloc | apply pw_below_drewN | apply below_drew1) | exact HB.out)⟩⟩
              · rw [if_neg c16] at H
                have c16b0 : ((l2.length : Int) == 0) = false := beq_eq_false_iff_ne.mpr c16
                have c16b1 : ((l2.length : Int) != 0) = true := bne_iff_ne.mpr c16
                have c16b2 : ¬ (l2 = []) := fun h_ => c16 (by rw [h_]; rfl)
                (first | rw [c16b0] | (simp only [i64_w, i32_w]; rw [c16b0]) | skip)
                replace H := Option.bind_eq_some_iff.mp H
                obtain ⟨t194, A170, H⟩ := H
                replace H : (laws_FnGlobMerges.j1 kj3 l0 l1 l2 (decide ((t194.length : Int) < (wrap64 ((l1.length : Int) + (l2.length : Int)))))) = some r := H
                have A17 := Aside0.mk A170
                clear A170
                have H' := Aside0.mk H
                clear H
                go_wp2_with (first | ((with_reducible refine gate_callee (f := 17) rfl ?_); refine goesL_ (some 23) rfl rfl Try.func17 (by kernel_rfl) rfl #[.slice A1 l1.length c1] rfl (by (try simp only [List.map_toArray, List.map_cons, List.map_nil]); first | done | rfl | (simp only [List.length_drop, List.length_take]; rfl)) ?_; (with_reducible refine (spec_GlobRises.calls kj3 _ _ l1 true _ ?side1 ?side2 A12.out).mono ?_); (case side1 => repeat (first | exact (Kd.C_below HR1.out HB.out) | (with_reducible refine Kd.C_alloc ?_ _) | (with_reducible refine Kd.C_drewN ?_ _) | (with_reducible refine Kd.C_drew ?_))); (case side2 => exact HC1.out); rintro e w' ⟨rfl, ⟨nd, rfl⟩⟩; refine ⟨_, rfl, ?_⟩) | (go_at_call 17; (with_reducible refine (spec_GlobRises.calls kj3 _ _ l2 true _ ?side1 ?side2 A14.out).mono ?_); (case side1 => repeat (first | exact (Kd.C_below HR2.out (by repeat (first | (with_reducible first | exact HB.out | apply below_alloc | apply pw_below_drewN | apply below_drew1) | exact HB.out))) | (with_reducible refine Kd.C_alloc ?_ _) | (with_reducible refine Kd.C_drewN ?_ _) | (with_reducible refine Kd.C_drew ?_))); (case side2 => exact HC2.out); rintro e w' ⟨rfl, ⟨nd, rfl⟩⟩) | (go_at_call 18; (with_reducible refine (spec_GlobBoth.calls kj3 (fun k_ => k_ < w.heap.size) _ _ l1 (fun k_ => k_ < w.heap.size) _ _ l2 t194 _ ?side1 ?side2 A17.out).mono ?_); (case side1 => exact Kd.V_mk HC1.out (Kd.F_below (Kd.C_F Kd.heap_string HR1.out) (by repeat (first | (with_reducible first | exact HB.out | apply below_alloc | apply pw_below_drewN | apply below_drew1) | exact HB.out)))); (case side2 => exact Kd.V_mk HC2.out (Kd.F_below (Kd.C_F Kd.heap_string HR2.out) (by repeat (first | (with_reducible first | exact HB.out | apply below_alloc | apply pw_below_drewN | apply below_drew1) | exact HB.out)))); rintro e w18 ⟨v195, rfl, ho0, hb⟩; have n0_ := Aside0.mk (Kd.R_lower (Kd.R_mono (ok' := fun k_ => True) ho0 (fun _ hk_ => trivial)) (below_size (by repeat (first | (with_reducible first | exact HB.out | apply below_alloc | apply pw_below_drewN | apply below_drew1) | exact HB.out)))); have n1_ := Aside0.mk (below_step (by repeat (first | (with_reducible first | exact HB.out | apply below_alloc | apply pw_below_drewN | apply below_drew1) | exact HB.out)) hb); clear HB; have HO196 := n0_; have HB := n1_; clear n0_ n1_; (try clear hb); (try clear hb2); (try clear hk); (try clear hi); (try clear ho0); obtain ⟨Ao19, co19, eo19⟩ := Kd.R_slice HO196.out; subst eo19))
                go_meet
                case rel => exact ⟨_, (decide ((t194.length : Int) < (wrap64 ((l1.length : Int) + (l2.length : Int))))), (by first | rfl | (simp; done) | (simp [*]; done)), H', ⟨by have := HJ3.out; first | omega | exact Nat.le_refl _⟩, ⟨by repeat (first | (with_reducible first | exact HB.out | apply below_alloc | apply pw_below_drewN | apply below_drew1) | exact HB.out)⟩⟩
            · replace c15 := Bool.eq_false_iff.mpr c15
              subst c15
              have H1 : (laws_FnGlobMerges.j1 kj3 l0 l1 l2 true) = some r := by rw [if_neg (show ¬ (false = true) by decide)] at H; exact H
              clear H
              have H := H1
              clear H1
              have H' := Aside0.mk H
              clear H
              go_wp2_with (first | ((with_reducible refine gate_callee (f := 17) rfl ?_); refine goesL_ (some 23) rfl rfl Try.func17 (by kernel_rfl) rfl #[.slice A1 l1.length c1] rfl (by (try simp only [List.map_toArray, List.map_cons, List.map_nil]); first | done | rfl | (simp only [List.length_drop, List.length_take]; rfl)) ?_; (with_reducible refine (spec_GlobRises.calls kj3 _ _ l1 true _ ?side1 ?side2 A12.out).mono ?_); (case side1 => repeat (first | exact (Kd.C_below HR1.out HB.out) | (with_reducible refine Kd.C_alloc ?_ _) | (with_reducible refine Kd.C_drewN ?_ _) | (with_reducible refine Kd.C_drew ?_))); (case side2 => exact HC1.out); rintro e w' ⟨rfl, ⟨nd, rfl⟩⟩; refine ⟨_, rfl, ?_⟩) | (go_at_call 17; (with_reducible refine (spec_GlobRises.calls kj3 _ _ l2 false _ ?side1 ?side2 A14.out).mono ?_); (case side1 => repeat (first | exact (Kd.C_below HR2.out (by repeat (first | (with_reducible first | exact HB.out | apply below_alloc | apply pw_below_drewN | apply below_drew1) | exact HB.out))) | (with_reducible refine Kd.C_alloc ?_ _) | (with_reducible refine Kd.C_drewN ?_ _) | (with_reducible refine Kd.C_drew ?_))); (case side2 => exact HC2.out); rintro e w' ⟨rfl, ⟨nd, rfl⟩⟩))
              go_meet
              case rel => exact ⟨_, (true), (by first | rfl | (simp; done) | (simp [*]; done)), H', ⟨by have := HJ3.out; first | omega | exact Nat.le_refl _⟩, ⟨by repeat (first | (with_reducible first | exact HB.out | apply below_alloc | apply pw_below_drewN | apply below_drew1) | exact HB.out)⟩⟩
          · replace c13 := Bool.eq_false_iff.mpr c13
            subst c13
            have H1 : (laws_FnGlobMerges.j1 kj3 l0 l1 l2 true) = some r := by rw [if_neg (show ¬ (false = true) by decide)] at H; exact H
            clear H
            have H := H1
            clear H1
            have H' := Aside0.mk H
            clear H
            go_wp2_with (first | ((with_reducible refine gate_callee (f := 17) rfl ?_); refine goesL_ (some 23) rfl rfl Try.func17 (by kernel_rfl) rfl #[.slice A1 l1.length c1] rfl (by (try simp only [List.map_toArray, List.map_cons, List.map_nil]); first | done | rfl | (simp only [List.length_drop, List.length_take]; rfl)) ?_; (with_reducible refine (spec_GlobRises.calls kj3 _ _ l1 false _ ?side1 ?side2 A12.out).mono ?_); (case side1 => repeat (first | exact (Kd.C_below HR1.out HB.out) | (with_reducible refine Kd.C_alloc ?_ _) | (with_reducible refine Kd.C_drewN ?_ _) | (with_reducible refine Kd.C_drew ?_))); (case side2 => exact HC1.out); rintro e w' ⟨rfl, ⟨nd, rfl⟩⟩; refine ⟨_, rfl, ?_⟩))
            go_meet
            case rel => exact ⟨_, (true), (by first | rfl | (simp; done) | (simp [*]; done)), H', ⟨by have := HJ3.out; first | omega | exact Nat.le_refl _⟩, ⟨by repeat (first | (with_reducible first | exact HB.out | apply below_alloc | apply pw_below_drewN | apply below_drew1) | exact HB.out)⟩⟩
        case rest =>
          clear HC11
          try clear c1
          try clear c2
          try clear p2
          try clear c6
          try clear p6
          try clear c7
          try clear c8
          try clear c10
          try clear c13
          try clear c15
          try clear c16
          try clear c16b0
          try clear c16b1
          try clear c16b2
          try clear c17
          try clear p2
          obtain ⟨kq, x46_10, rfl, HA, HJ10, HB⟩ := hcut
          cases kq with
          | zero => exact absurd HA.out (by simp [laws_FnGlobMerges.j1])
          | succ kj10 =>
            have H := HA.out
            clear HA
            simp only [laws_FnGlobMerges.j1] at H
            by_cases c20 : x46_10 = true
            · subst c20
              have H1 : (some true) = some r := by rw [if_pos rfl] at H; exact H
              clear H
              have H := H1
              clear H1
              obtain rfl := Option.some.inj H
              go_wp2
              go_ret
              exact ⟨by first | rfl | (simp [errW_none, errW_some] <;> rfl) | (simp [*, errW_none, errW_some] <;> rfl), by repeat (first | (with_reducible first | exact HB.out | apply below_alloc | apply pw_below_drewN | apply below_drew1) | exact HB.out)⟩
            · replace c20 := Bool.eq_false_iff.mpr c20
              subst c20
              have H1 : ((some (([] : List ByteArray) : List ByteArray)).bind fun y197 => (if y197.length + l0.length < 8796093022208 then ((some (y197 ++ l0 : List ByteArray)).bind fun y200 => (if y200.length + l1.length < 8796093022208 then ((some (y200 ++ l1 : List ByteArray)).bind fun y203 => (if y203.length + l2.length < 8796093022208 then ((impl_GlobMergeDups.f kj10 (y203 ++ l2) (l0.length : Int) (wrap64 ((l0.length : Int) + (l1.length : Int)))).bind fun t209 => ((some (([] : List ByteArray) : List ByteArray)).bind fun y212 => (if y212.length + l0.length < 8796093022208 then ((some (y212 ++ l0 : List ByteArray)).bind fun y215 => ((spec_GlobBoth.f kj10 l1 l2).bind fun t218 => (if y215.length + t218.length < 8796093022208 then ((spec_GlobSame.f kj10 t209 (y215 ++ t218)).bind fun t224 => (if t224 = true then ((impl_GlobMergeDups.f kj10 (([(⟨#[98]⟩ : ByteArray), (⟨#[97]⟩ : ByteArray)] : List ByteArray)) 0 1).bind fun t228 => ((spec_GlobSame.f kj10 t228 (([(⟨#[97]⟩ : ByteArray), (⟨#[98]⟩ : ByteArray)] : List ByteArray))).bind fun t234 => (some t234))) else (some false))) else (none)))) else (none)))) else (none))) else (none))) else (none))) = some r := by rw [if_neg (show ¬ (false = true) by decide)] at H; exact H
              clear H
              have H := H1
              clear H1
              obtain ⟨y197, hy197⟩ : ∃ y_ : List ByteArray, y_ = (([] : List ByteArray)) := ⟨_, rfl⟩
              replace H : (if y197.length + l0.length < 8796093022208 then ((some (y197 ++ l0 : List ByteArray)).bind fun y200 => (if y200.length + l1.length < 8796093022208 then ((some (y200 ++ l1 : List ByteArray)).bind fun y203 => (if y203.length + l2.length < 8796093022208 then ((impl_GlobMergeDups.f kj10 (y203 ++ l2) (l0.length : Int) (wrap64 ((l0.length : Int) + (l1.length : Int)))).bind fun t209 => ((some (([] : List ByteArray) : List ByteArray)).bind fun y212 => (if y212.length + l0.length < 8796093022208 then ((some (y212 ++ l0 : List ByteArray)).bind fun y215 => ((spec_GlobBoth.f kj10 l1 l2).bind fun t218 => (if y215.length + t218.length < 8796093022208 then ((spec_GlobSame.f kj10 t209 (y215 ++ t218)).bind fun t224 => (if t224 = true then ((impl_GlobMergeDups.f kj10 (([(⟨#[98]⟩ : ByteArray), (⟨#[97]⟩ : ByteArray)] : List ByteArray)) 0 1).bind fun t228 => ((spec_GlobSame.f kj10 t228 (([(⟨#[97]⟩ : ByteArray), (⟨#[98]⟩ : ByteArray)] : List ByteArray))).bind fun t234 => (some t234))) else (some false))) else (none)))) else (none)))) else (none))) else (none))) else (none)) = some r := by first | (rw [hy197]; with_reducible exact H) | (have H2_ := (Option.bind_some _ _).symm.trans H; rw [hy197]; with_reducible exact H2_) | (have H2_ := (Option.bind_some _ _).symm.trans H; with_reducible exact H2_) | with_reducible exact H | (rw [hy197]; exact H) | exact H
              have Ny197 := Aside0.mk hy197
              clear hy197
              by_cases c21 : y197.length + l0.length < 8796093022208
              · rw [if_pos c21] at H
                have LMc21 := Aside0.mk c21
                clear c21
                obtain ⟨y200, hy200⟩ : ∃ y_ : List ByteArray, y_ = (y197 ++ l0) := ⟨_, rfl⟩
                replace H : (if y200.length + l1.length < 8796093022208 then ((some (y200 ++ l1 : List ByteArray)).bind fun y203 => (if y203.length + l2.length < 8796093022208 then ((impl_GlobMergeDups.f kj10 (y203 ++ l2) (l0.length : Int) (wrap64 ((l0.length : Int) + (l1.length : Int)))).bind fun t209 => ((some (([] : List ByteArray) : List ByteArray)).bind fun y212 => (if y212.length + l0.length < 8796093022208 then ((some (y212 ++ l0 : List ByteArray)).bind fun y215 => ((spec_GlobBoth.f kj10 l1 l2).bind fun t218 => (if y215.length + t218.length < 8796093022208 then ((spec_GlobSame.f kj10 t209 (y215 ++ t218)).bind fun t224 => (if t224 = true then ((impl_GlobMergeDups.f kj10 (([(⟨#[98]⟩ : ByteArray), (⟨#[97]⟩ : ByteArray)] : List ByteArray)) 0 1).bind fun t228 => ((spec_GlobSame.f kj10 t228 (([(⟨#[97]⟩ : ByteArray), (⟨#[98]⟩ : ByteArray)] : List ByteArray))).bind fun t234 => (some t234))) else (some false))) else (none)))) else (none)))) else (none))) else (none)) = some r := by first | (rw [hy200]; with_reducible exact H) | (have H2_ := (Option.bind_some _ _).symm.trans H; rw [hy200]; with_reducible exact H2_) | (have H2_ := (Option.bind_some _ _).symm.trans H; with_reducible exact H2_) | with_reducible exact H | (rw [hy200]; exact H) | exact H
                have Ny200 := Aside0.mk hy200
                clear hy200
                by_cases c22 : y200.length + l1.length < 8796093022208
                · rw [if_pos c22] at H
                  have LMc22 := Aside0.mk c22
                  clear c22
                  obtain ⟨y203, hy203⟩ : ∃ y_ : List ByteArray, y_ = (y200 ++ l1) := ⟨_, rfl⟩
                  replace H : (if y203.length + l2.length < 8796093022208 then ((impl_GlobMergeDups.f kj10 (y203 ++ l2) (l0.length : Int) (wrap64 ((l0.length : Int) + (l1.length : Int)))).bind fun t209 => ((some (([] : List ByteArray) : List ByteArray)).bind fun y212 => (if y212.length + l0.length < 8796093022208 then ((some (y212 ++ l0 : List ByteArray)).bind fun y215 => ((spec_GlobBoth.f kj10 l1 l2).bind fun t218 => (if y215.length + t218.length < 8796093022208 then ((spec_GlobSame.f kj10 t209 (y215 ++ t218)).bind fun t224 => (if t224 = true then ((impl_GlobMergeDups.f kj10 (([(⟨#[98]⟩ : ByteArray), (⟨#[97]⟩ : ByteArray)] : List ByteArray)) 0 1).bind fun t228 => ((spec_GlobSame.f kj10 t228 (([(⟨#[97]⟩ : ByteArray), (⟨#[98]⟩ : ByteArray)] : List ByteArray))).bind fun t234 => (some t234))) else (some false))) else (none)))) else (none)))) else (none)) = some r := by first | (rw [hy203]; with_reducible exact H) | (have H2_ := (Option.bind_some _ _).symm.trans H; rw [hy203]; with_reducible exact H2_) | (have H2_ := (Option.bind_some _ _).symm.trans H; with_reducible exact H2_) | with_reducible exact H | (rw [hy203]; exact H) | exact H
                  have Ny203 := Aside0.mk hy203
                  clear hy203
                  by_cases c23 : y203.length + l2.length < 8796093022208
                  · rw [if_pos c23] at H
                    have LMc23 := Aside0.mk c23
                    clear c23
                    obtain ⟨y206, hy206⟩ : ∃ y_ : List ByteArray, y_ = (y203 ++ l2) := ⟨_, rfl⟩
                    replace H : ((impl_GlobMergeDups.f kj10 y206 (l0.length : Int) (wrap64 ((l0.length : Int) + (l1.length : Int)))).bind fun t209 => ((some (([] : List ByteArray) : List ByteArray)).bind fun y212 => (if y212.length + l0.length < 8796093022208 then ((some (y212 ++ l0 : List ByteArray)).bind fun y215 => ((spec_GlobBoth.f kj10 l1 l2).bind fun t218 => (if y215.length + t218.length < 8796093022208 then ((spec_GlobSame.f kj10 t209 (y215 ++ t218)).bind fun t224 => (if t224 = true then ((impl_GlobMergeDups.f kj10 (([(⟨#[98]⟩ : ByteArray), (⟨#[97]⟩ : ByteArray)] : List ByteArray)) 0 1).bind fun t228 => ((spec_GlobSame.f kj10 t228 (([(⟨#[97]⟩ : ByteArray), (⟨#[98]⟩ : ByteArray)] : List ByteArray))).bind fun t234 => (some t234))) else (some false))) else (none)))) else (none)))) = some r := by first | (rw [hy206]; with_reducible exact H) | (have H2_ := (Option.bind_some _ _).symm.trans H; rw [hy206]; with_reducible exact H2_) | (have H2_ := (Option.bind_some _ _).symm.trans H; with_reducible exact H2_) | with_reducible exact H | (rw [hy206]; exact H) | exact H
                    have Ny206 := Aside0.mk hy206
                    clear hy206
                    replace H := Option.bind_eq_some_iff.mp H
                    obtain ⟨t209, A240, H⟩ := H
                    replace H : ((some (([] : List ByteArray) : List ByteArray)).bind fun y212 => (if y212.length + l0.length < 8796093022208 then ((some (y212 ++ l0 : List ByteArray)).bind fun y215 => ((spec_GlobBoth.f kj10 l1 l2).bind fun t218 => (if y215.length + t218.length < 8796093022208 then ((spec_GlobSame.f kj10 t209 (y215 ++ t218)).bind fun t224 => (if t224 = true then ((impl_GlobMergeDups.f kj10 (([(⟨#[98]⟩ : ByteArray), (⟨#[97]⟩ : ByteArray)] : List ByteArray)) 0 1).bind fun t228 => ((spec_GlobSame.f kj10 t228 (([(⟨#[97]⟩ : ByteArray), (⟨#[98]⟩ : ByteArray)] : List ByteArray))).bind fun t234 => (some t234))) else (some false))) else (none)))) else (none))) = some r := H
                    have A24 := Aside0.mk A240
                    clear A240
                    obtain ⟨y212, hy212⟩ : ∃ y_ : List ByteArray, y_ = (([] : List ByteArray)) := ⟨_, rfl⟩
                    replace H : (if y212.length + l0.length < 8796093022208 then ((some (y212 ++ l0 : List ByteArray)).bind fun y215 => ((spec_GlobBoth.f kj10 l1 l2).bind fun t218 => (if y215.length + t218.length < 8796093022208 then ((spec_GlobSame.f kj10 t209 (y215 ++ t218)).bind fun t224 => (if t224 = true then ((impl_GlobMergeDups.f kj10 (([(⟨#[98]⟩ : ByteArray), (⟨#[97]⟩ : ByteArray)] : List ByteArray)) 0 1).bind fun t228 => ((spec_GlobSame.f kj10 t228 (([(⟨#[97]⟩ : ByteArray), (⟨#[98]⟩ : ByteArray)] : List ByteArray))).bind fun t234 => (some t234))) else (some false))) else (none)))) else (none)) = some r := by first | (rw [hy212]; with_reducible exact H) | (have H2_ := (Option.bind_some _ _).symm.trans H; rw [hy212]; with_reducible exact H2_) | (have H2_ := (Option.bind_some _ _).symm.trans H; with_reducible exact H2_) | with_reducible exact H | (rw [hy212]; exact H) | exact H
                    have Ny212 := Aside0.mk hy212
                    clear hy212
                    by_cases c25 : y212.length + l0.length < 8796093022208
                    · rw [if_pos c25] at H
                      have LMc25 := Aside0.mk c25
                      clear c25
                      obtain ⟨y215, hy215⟩ : ∃ y_ : List ByteArray, y_ = (y212 ++ l0) := ⟨_, rfl⟩
                      replace H : ((spec_GlobBoth.f kj10 l1 l2).bind fun t218 => (if y215.length + t218.length < 8796093022208 then ((spec_GlobSame.f kj10 t209 (y215 ++ t218)).bind fun t224 => (if t224 = true then ((impl_GlobMergeDups.f kj10 (([(⟨#[98]⟩ : ByteArray), (⟨#[97]⟩ : ByteArray)] : List ByteArray)) 0 1).bind fun t228 => ((spec_GlobSame.f kj10 t228 (([(⟨#[97]⟩ : ByteArray), (⟨#[98]⟩ : ByteArray)] : List ByteArray))).bind fun t234 => (some t234))) else (some false))) else (none))) = some r := by first | (rw [hy215]; with_reducible exact H) | (have H2_ := (Option.bind_some _ _).symm.trans H; rw [hy215]; with_reducible exact H2_) | (have H2_ := (Option.bind_some _ _).symm.trans H; with_reducible exact H2_) | with_reducible exact H | (rw [hy215]; exact H) | exact H
                      have Ny215 := Aside0.mk hy215
                      clear hy215
                      replace H := Option.bind_eq_some_iff.mp H
                      obtain ⟨t218, A260, H⟩ := H
                      replace H : (if y215.length + t218.length < 8796093022208 then ((spec_GlobSame.f kj10 t209 (y215 ++ t218)).bind fun t224 => (if t224 = true then ((impl_GlobMergeDups.f kj10 (([(⟨#[98]⟩ : ByteArray), (⟨#[97]⟩ : ByteArray)] : List ByteArray)) 0 1).bind fun t228 => ((spec_GlobSame.f kj10 t228 (([(⟨#[97]⟩ : ByteArray), (⟨#[98]⟩ : ByteArray)] : List ByteArray))).bind fun t234 => (some t234))) else (some false))) else (none)) = some r := H
                      have A26 := Aside0.mk A260
                      clear A260
                      by_cases c27 : y215.length + t218.length < 8796093022208
                      · rw [if_pos c27] at H
                        have LMc27 := Aside0.mk c27
                        clear c27
                        obtain ⟨y221, hy221⟩ : ∃ y_ : List ByteArray, y_ = (y215 ++ t218) := ⟨_, rfl⟩
                        replace H : ((spec_GlobSame.f kj10 t209 y221).bind fun t224 => (if t224 = true then ((impl_GlobMergeDups.f kj10 (([(⟨#[98]⟩ : ByteArray), (⟨#[97]⟩ : ByteArray)] : List ByteArray)) 0 1).bind fun t228 => ((spec_GlobSame.f kj10 t228 (([(⟨#[97]⟩ : ByteArray), (⟨#[98]⟩ : ByteArray)] : List ByteArray))).bind fun t234 => (some t234))) else (some false))) = some r := by first | (rw [hy221]; with_reducible exact H) | (have H2_ := (Option.bind_some _ _).symm.trans H; rw [hy221]; with_reducible exact H2_) | (have H2_ := (Option.bind_some _ _).symm.trans H; with_reducible exact H2_) | with_reducible exact H | (rw [hy221]; exact H) | exact H
                        have Ny221 := Aside0.mk hy221
                        clear hy221
                        replace H := Option.bind_eq_some_iff.mp H
                        obtain ⟨t224, A280, H⟩ := H
                        replace H : (if t224 = true then ((impl_GlobMergeDups.f kj10 (([(⟨#[98]⟩ : ByteArray), (⟨#[97]⟩ : ByteArray)] : List ByteArray)) 0 1).bind fun t228 => ((spec_GlobSame.f kj10 t228 (([(⟨#[97]⟩ : ByteArray), (⟨#[98]⟩ : ByteArray)] : List ByteArray))).bind fun t234 => (some t234))) else (some false)) = some r := H
                        have A28 := Aside0.mk A280
                        clear A280
                        by_cases c29 : t224 = true
                        · subst c29
                          have H1 : ((impl_GlobMergeDups.f kj10 (([(⟨#[98]⟩ : ByteArray), (⟨#[97]⟩ : ByteArray)] : List ByteArray)) 0 1).bind fun t228 => ((spec_GlobSame.f kj10 t228 (([(⟨#[97]⟩ : ByteArray), (⟨#[98]⟩ : ByteArray)] : List ByteArray))).bind fun t234 => (some t234))) = some r := by rw [if_pos rfl] at H; exact H
                          clear H
                          have H := H1
                          clear H1
                          obtain ⟨y225, hy225⟩ : ∃ y_ : List ByteArray, y_ = (([(⟨#[98]⟩ : ByteArray), (⟨#[97]⟩ : ByteArray)] : List ByteArray)) := ⟨_, rfl⟩
                          replace H : ((impl_GlobMergeDups.f kj10 y225 0 1).bind fun t228 => ((spec_GlobSame.f kj10 t228 (([(⟨#[97]⟩ : ByteArray), (⟨#[98]⟩ : ByteArray)] : List ByteArray))).bind fun t234 => (some t234))) = some r := by first | (rw [hy225]; with_reducible exact H) | (have H2_ := (Option.bind_some _ _).symm.trans H; rw [hy225]; with_reducible exact H2_) | (have H2_ := (Option.bind_some _ _).symm.trans H; with_reducible exact H2_) | with_reducible exact H | (rw [hy225]; exact H) | exact H
                          have Ny225 := Aside0.mk hy225
                          clear hy225
                          replace H := Option.bind_eq_some_iff.mp H
                          obtain ⟨t228, A300, H⟩ := H
                          replace H : ((spec_GlobSame.f kj10 t228 (([(⟨#[97]⟩ : ByteArray), (⟨#[98]⟩ : ByteArray)] : List ByteArray))).bind fun t234 => (some t234)) = some r := H
                          have A30 := Aside0.mk A300
                          clear A300
                          obtain ⟨y231, hy231⟩ : ∃ y_ : List ByteArray, y_ = (([(⟨#[97]⟩ : ByteArray), (⟨#[98]⟩ : ByteArray)] : List ByteArray)) := ⟨_, rfl⟩
                          replace H : ((spec_GlobSame.f kj10 t228 y231).bind fun t234 => (some t234)) = some r := by first | (rw [hy231]; with_reducible exact H) | (have H2_ := (Option.bind_some _ _).symm.trans H; rw [hy231]; with_reducible exact H2_) | (have H2_ := (Option.bind_some _ _).symm.trans H; with_reducible exact H2_) | with_reducible exact H | (rw [hy231]; exact H) | exact H
                          have Ny231 := Aside0.mk hy231
                          clear hy231
                          replace H := Option.bind_eq_some_iff.mp H
                          obtain ⟨t234, A310, H⟩ := H
                          replace H : (some t234) = some r := H
                          have A31 := Aside0.mk A310
                          clear A310
                          obtain rfl := Option.some.inj H
                          go_wp2_with (first | ((with_reducible refine gate_dst (N := 47) rfl ?_); (try (refine gate_guard (by rfl) ?_; dsimp only)); refine Kd.R_lit Kd.string _ 9 ?hg (N := 47) ?hd (xs := ([] : List ByteArray)) (inner := []) (ok := fun _ => True) (okp := fun _ => True) ?hr ?hp (fun _ hk => hk) trivial (Below.refl _ _) (Nat.le_refl _) (by simp) ?_; (case hd => rfl); (case hg => rfl); (case hr => first | (go_simp; done) | (go_simp; rfl)); (case hp => exact (Reps.none _ _)); intro v198 w32 ho33 hb hg_ hnew_; clear hg_ hnew_; (first | rw [← Ny197.out] at ho33 | (simp only [Int.reduceToNat] at ho33; rw [← Ny197.out] at ho33)); have n0_ := Aside0.mk (Kd.R_lower ho33 (below_size (by repeat (first | (with_reducible first | exact HB.out | apply below_alloc | apply pw_below_drewN | apply below_drew1) | exact HB.out)))); have n1_ := Aside0.mk (below_step (by repeat (first | (with_reducible first | exact HB.out | apply below_alloc | apply pw_below_drewN | apply below_drew1) | exact HB.out)) hb); clear HB; have HO199 := n0_; have HB := n1_; clear n0_ n1_; clear hb ho33) | ((with_reducible refine gate_builtin (b := .append) (xs := #[.tmp 47, .tmp 48]) rfl ?_); (try (refine gate_guard (by rfl) ?_; dsimp only)); at_builtin; refine Kd.R_append_rows Kd.string (w0 := w) w.heap.size rfl (.tmp 47) (.tmp 48) 29 9 (.string ⟨#[]⟩) 16 rfl Try.underlying29 info9 rfl (by decide) (by omega) v198 y197 l0 _ _ _ (fun _ => True) (fun _ => False) rfl rfl ?aO ?aR (fun _ _ h => h) (fun _ h => h.elim) ?aF ?aB ?aS ?aL ?_; (case aR => repeat (first | exact (Kd.C_below HR0.out HB.out) | (with_reducible refine Kd.C_alloc ?_ _) | (with_reducible refine Kd.C_drewN ?_ _) | (with_reducible refine Kd.C_drew ?_))); (case aB => exact (by repeat (first | (with_reducible first | exact HB.out | apply below_alloc | apply pw_below_drewN | apply below_drew1) | exact HB.out))); (case aF => exact (fun _ _ => trivial)); (case aO => exact (by (with_reducible repeat (first | apply Kd.R_alloc | apply Kd.R_drewN | apply Kd.R_drew)); exact HO199.out)); (case aS => exact (below_size (by repeat (first | (with_reducible first | exact HB.out | apply below_alloc | apply pw_below_drewN | apply below_drew1) | exact HB.out)))); (case aL => have := LMc21.out; omega); intro v201 w34 ho hb hg hat; rw [← Ny200.out] at ho; have n0_ := Aside0.mk (hb); have n1_ := Aside0.mk (ho); clear HB; clear HO199; have HB := n0_; have HO202 := n1_; clear n0_ n1_; clear ho hb hg hat) | ((with_reducible refine gate_builtin (b := .append) (xs := #[.tmp 49, .tmp 50]) rfl ?_); (try (refine gate_guard (by rfl) ?_; dsimp only)); at_builtin; refine Kd.R_append_rows Kd.string (w0 := w) w.heap.size rfl (.tmp 49) (.tmp 50) 29 9 (.string ⟨#[]⟩) 16 rfl Try.underlying29 info9 rfl (by decide) (by omega) v201 y200 l1 _ _ _ (fun _ => True) (fun _ => False) rfl rfl ?aO ?aR (fun _ _ h => h) (fun _ h => h.elim) ?aF ?aB ?aS ?aL ?_; (case aR => repeat (first | exact (Kd.C_below HR1.out HB.out) | (with_reducible refine Kd.C_alloc ?_ _) | (with_reducible refine Kd.C_drewN ?_ _) | (with_reducible refine Kd.C_drew ?_))); (case aB => exact (by repeat (first | (with_reducible first | exact HB.out | apply below_alloc | apply pw_below_drewN | apply below_drew1) | exact HB.out))); (case aF => exact (fun _ _ => trivial)); (case aO => exact (by (with_reducible repeat (first | apply Kd.R_alloc | apply Kd.R_drewN | apply Kd.R_drew)); exact HO202.out)); (case aS => exact (below_size (by repeat (first | (with_reducible first | exact HB.out | apply below_alloc | apply pw_below_drewN | apply below_drew1) | exact HB.out)))); (case aL => have := LMc22.out; omega); intro v204 w35 ho hb hg hat; rw [← Ny203.out] at ho; have n0_ := Aside0.mk (hb); have n1_ := Aside0.mk (ho); clear HB; clear HO202; have HB := n0_; have HO205 := n1_; clear n0_ n1_; clear ho hb hg hat) | ((with_reducible refine gate_builtin (b := .append) (xs := #[.tmp 51, .tmp 52]) rfl ?_); (try (refine gate_guard (by rfl) ?_; dsimp only)); at_builtin; refine Kd.R_append_rows Kd.string (w0 := w) w.heap.size rfl (.tmp 51) (.tmp 52) 29 9 (.string ⟨#[]⟩) 16 rfl Try.underlying29 info9 rfl (by decide) (by omega) v204 y203 l2 _ _ _ (fun _ => True) (fun _ => False) rfl rfl ?aO ?aR (fun _ _ h => h) (fun _ h => h.elim) ?aF ?aB ?aS ?aL ?_; (case aR => repeat (first | exact (Kd.C_below HR2.out HB.out) | (with_reducible refine Kd.C_alloc ?_ _) | (with_reducible refine Kd.C_drewN ?_ _) | (with_reducible refine Kd.C_drew ?_))); (case aB => exact (by repeat (first | (with_reducible first | exact HB.out | apply below_alloc | apply pw_below_drewN | apply below_drew1) | exact HB.out))); (case aF => exact (fun _ _ => trivial)); (case aO => exact (by (with_reducible repeat (first | apply Kd.R_alloc | apply Kd.R_drewN | apply Kd.R_drew)); exact HO205.out)); (case aS => exact (below_size (by repeat (first | (with_reducible first | exact HB.out | apply below_alloc | apply pw_below_drewN | apply below_drew1) | exact HB.out)))); (case aL => have := LMc23.out; omega); intro v207 w36 ho hb hg hat; rw [← Ny206.out] at ho; have n0_ := Aside0.mk (hb); have n1_ := Aside0.mk (ho); clear HB; clear HO205; have HB := n0_; have HO208 := n1_; clear n0_ n1_; clear ho hb hg hat; obtain ⟨Ao37, co37, eo37⟩ := Kd.R_slice HO208.out; subst eo37) | ((with_reducible refine gate_callee (f := 19) rfl ?_); refine goesL_ (some 62) rfl rfl Try.func19 (by kernel_rfl) rfl #[.slice Ao37 y206.length co37, .int .i64 (l0.length : Int), .int .i64 (wrap64 ((l0.length : Int) + (l1.length : Int)))] rfl (by (try simp only [List.map_toArray, List.map_cons, List.map_nil]); first | done | rfl | (simp only [List.length_drop, List.length_take]; rfl)) ?_; (with_reducible refine (impl_GlobMergeDups.calls kj10 _ _ y206 (l0.length : Int) (wrap64 ((l0.length : Int) + (l1.length : Int))) t209 _ ?side1 ?side2 A24.out).mono ?_); (case side1 => repeat (first | exact (Kd.R_reads' HO208.out).2.2 | (with_reducible refine Kd.C_alloc ?_ _) | (with_reducible refine Kd.C_drewN ?_ _) | (with_reducible refine Kd.C_drew ?_))); (case side2 => exact (Kd.R_reads' HO208.out).2.1); rintro e w38 ⟨v210, rfl, ho0, hb⟩; refine ⟨_, rfl, ?_⟩; have n0_ := Aside0.mk (Kd.R_elder' (by (with_reducible repeat (first | apply Kd.R_alloc | apply Kd.R_drewN | apply Kd.R_drew)); exact HO208.out) (Kd.R_base ho0) hb); have n1_ := Aside0.mk (Kd.R_lower (Kd.R_new' ho0 (Kd.R_lt (by (with_reducible repeat (first | apply Kd.R_alloc | apply Kd.R_drewN | apply Kd.R_drew)); exact HO208.out))) (below_size (by repeat (first | (with_reducible first | exact HB.out | apply below_alloc | apply pw_below_drewN | apply below_drew1) | exact HB.out)))); have n2_ := Aside0.mk (below_step (by repeat (first | (with_reducible first | exact HB.out | apply below_alloc | apply pw_below_drewN | apply below_drew1) | exact HB.out)) hb); clear HO208; clear HB; have HO208 := n0_; have HO211 := n1_; have HB := n2_; clear n0_ n1_ n2_; (try clear hb); (try clear hb2); (try clear hk); (try clear hi); (try clear ho0)) | ((with_reducible refine gate_dst (N := 64) rfl ?_); (try (refine gate_guard (by rfl) ?_; dsimp only)); refine Kd.R_lit Kd.string _ 9 ?hg (N := 64) ?hd (xs := ([] : List ByteArray)) (inner := []) (ok := fun _ => True) (okp := fun _ => True) ?hr ?hp (fun _ hk => hk) trivial (Below.refl _ _) (Nat.le_refl _) (by simp) ?_; (case hd => rfl); (case hg => rfl); (case hr => first | (go_simp; done) | (go_simp; rfl)); (case hp => exact (Reps.none _ _)); intro v213 w39 ho40 hb hg_ hnew_; clear hg_ hnew_; (first | rw [← Ny212.out] at ho40 | (simp only [Int.reduceToNat] at ho40; rw [← Ny212.out] at ho40)); have n0_ := Aside0.mk (Kd.R_elder' (by (with_reducible repeat (first | apply Kd.R_alloc | apply Kd.R_drewN | apply Kd.R_drew)); exact HO208.out) (Kd.R_base ho40) hb); have n1_ := Aside0.mk (Kd.R_elder' (by (with_reducible repeat (first | apply Kd.R_alloc | apply Kd.R_drewN | apply Kd.R_drew)); exact HO211.out) (Kd.R_base ho40) hb); have n2_ := Aside0.mk (Kd.R_lower (Kd.R_new' (Kd.R_new' ho40 (Kd.R_lt (by (with_reducible repeat (first | apply Kd.R_alloc | apply Kd.R_drewN | apply Kd.R_drew)); exact HO208.out))) (Kd.R_lt (by (with_reducible repeat (first | apply Kd.R_alloc | apply Kd.R_drewN | apply Kd.R_drew)); exact HO211.out))) (below_size (by repeat (first | (with_reducible first | exact HB.out | apply below_alloc | apply pw_below_drewN | apply below_drew1) | exact HB.out)))); have n3_ := Aside0.mk (below_step (by repeat (first | (with_reducible first | exact HB.out | apply below_alloc | apply pw_below_drewN | apply below_drew1) | exact HB.out)) hb); clear HO208; clear HO211; clear HB; have HO208 := n0_; have HO211 := n1_; have HO214 := n2_; have HB := n3_; clear n0_ n1_ n2_ n3_; clear hb ho40) | ((with_reducible refine gate_builtin (b := .append) (xs := #[.tmp 64, .tmp 65]) rfl ?_); (try (refine gate_guard (by rfl) ?_; dsimp only)); at_builtin; refine Kd.R_append_rows Kd.string (w0 := w) w.heap.size rfl (.tmp 64) (.tmp 65) 29 9 (.string ⟨#[]⟩) 16 rfl Try.underlying29 info9 rfl (by decide) (by omega) v213 y212 l0 _ _ _ (fun k_ => some k_ ≠ (.slice Ao37 y206.length co37 : Value).ownBlock ∧ some k_ ≠ (v210 : Value).ownBlock) (fun _ => False) rfl rfl ?aO ?aR (fun _ _ h => h) (fun _ h => h.elim) ?aF ?aB ?aS ?aL ?_; (case aR => repeat (first | exact (Kd.C_below HR0.out HB.out) | (with_reducible refine Kd.C_alloc ?_ _) | (with_reducible refine Kd.C_drewN ?_ _) | (with_reducible refine Kd.C_drew ?_))); (case aB => exact (by repeat (first | (with_reducible first | exact HB.out | apply below_alloc | apply pw_below_drewN | apply below_drew1) | exact HB.out))); (case aF => exact (fun k_ hk => ⟨Kd.fresh' (Kd.R_lt (by (with_reducible repeat (first | apply Kd.R_alloc | apply Kd.R_drewN | apply Kd.R_drew)); exact HO208.out)) k_ hk, Kd.fresh' (Kd.R_lt (by (with_reducible repeat (first | apply Kd.R_alloc | apply Kd.R_drewN | apply Kd.R_drew)); exact HO211.out)) k_ hk⟩)); (case aO => exact (by (with_reducible repeat (first | apply Kd.R_alloc | apply Kd.R_drewN | apply Kd.R_drew)); exact Kd.R_mono HO214.out (fun _ hk => ⟨hk.1.2, hk.2⟩))); (case aS => exact (below_size (by repeat (first | (with_reducible first | exact HB.out | apply below_alloc | apply pw_below_drewN | apply below_drew1) | exact HB.out)))); (case aL => have := LMc25.out; omega); intro v216 w41 ho hb hg hat; rw [← Ny215.out] at ho; have n0_ := Aside0.mk (Kd.R_after (ok := (fun k_ => some k_ ≠ (v210 : Value).ownBlock)) (by (with_reducible repeat (first | apply Kd.R_alloc | apply Kd.R_drewN | apply Kd.R_drew)); exact Kd.R_mono HO208.out (fun _ hk => ⟨hk.1.2, hk.2⟩)) hg hat); have n1_ := Aside0.mk (Kd.R_after (ok := (fun k_ => some k_ ≠ (.slice Ao37 y206.length co37 : Value).ownBlock)) (by (with_reducible repeat (first | apply Kd.R_alloc | apply Kd.R_drewN | apply Kd.R_drew)); exact Kd.R_mono HO211.out (fun _ hk => ⟨hk.1.2, hk.2⟩)) hg hat); have n2_ := Aside0.mk (hb); have n3_ := Aside0.mk (ho); clear HO208; clear HO211; clear HB; clear HO214; have HO208 := n0_; have HO211 := n1_; have HB := n2_; have HO217 := n3_; clear n0_ n1_ n2_ n3_; clear ho hb hg hat) | ((with_reducible refine gate_callee (f := 18) rfl ?_); refine goesL_ (some 69) rfl rfl Try.func18 (by kernel_rfl) rfl #[.slice A1 l1.length c1, .slice A2 l2.length c2] rfl (by (try simp only [List.map_toArray, List.map_cons, List.map_nil]); first | done | rfl | (simp only [List.length_drop, List.length_take]; rfl)) ?_; (with_reducible refine (spec_GlobBoth.calls kj10 (fun k_ => k_ < w.heap.size) _ _ l1 (fun k_ => k_ < w.heap.size) _ _ l2 t218 _ ?side1 ?side2 A26.out).mono ?_); (case side1 => exact Kd.V_mk HC1.out (Kd.F_below (Kd.C_F Kd.heap_string HR1.out) (by repeat (first | (with_reducible first | exact HB.out | apply below_alloc | apply pw_below_drewN | apply below_drew1) | exact HB.out)))); (case side2 => exact Kd.V_mk HC2.out (Kd.F_below (Kd.C_F Kd.heap_string HR2.out) (by repeat (first | (with_reducible first | exact HB.out | apply below_alloc | apply pw_below_drewN | apply below_drew1) | exact HB.out)))); rintro e w42 ⟨v219, rfl, ho0, hb⟩; refine ⟨_, rfl, ?_⟩; have n0_ := Aside0.mk (Kd.R_elder' (by (with_reducible repeat (first | apply Kd.R_alloc | apply Kd.R_drewN | apply Kd.R_drew)); exact HO208.out) (Kd.R_base ho0) hb); have n1_ := Aside0.mk (Kd.R_elder' (by (with_reducible repeat (first | apply Kd.R_alloc | apply Kd.R_drewN | apply Kd.R_drew)); exact HO211.out) (Kd.R_base ho0) hb); have n2_ := Aside0.mk (Kd.R_elder' (by (with_reducible repeat (first | apply Kd.R_alloc | apply Kd.R_drewN | apply Kd.R_drew)); exact HO217.out) (Kd.R_base ho0) hb); have n3_ := Aside0.mk (Kd.R_lower (Kd.R_new' (Kd.R_new' (Kd.R_new' (Kd.R_mono (ok' := fun k_ => True) ho0 (fun _ hk_ => trivial)) (Kd.R_lt (by (with_reducible repeat (first | apply Kd.R_alloc | apply Kd.R_drewN | apply Kd.R_drew)); exact HO208.out))) (Kd.R_lt (by (with_reducible repeat (first | apply Kd.R_alloc | apply Kd.R_drewN | apply Kd.R_drew)); exact HO211.out))) (Kd.R_lt (by (with_reducible repeat (first | apply Kd.R_alloc | apply Kd.R_drewN | apply Kd.R_drew)); exact HO217.out))) (below_size (by repeat (first | (with_reducible first | exact HB.out | apply below_alloc | apply pw_below_drewN | apply below_drew1) | exact HB.out)))); have n4_ := Aside0.mk (below_step (by repeat (first | (with_reducible first | exact HB.out | apply below_alloc | apply pw_below_drewN | apply below_drew1) | exact HB.out)) hb); clear HO208; clear HO211; clear HO217; clear HB; have HO208 := n0_; have HO211 := n1_; have HO217 := n2_; have HO220 := n3_; have HB := n4_; clear n0_ n1_ n2_ n3_ n4_; (try clear hb); (try clear hb2); (try clear hk); (try clear hi); (try clear ho0); obtain ⟨Ao44, co44, eo44⟩ := Kd.R_slice HO220.out; subst eo44) | ((with_reducible refine gate_builtin (b := .append) (xs := #[.tmp 66, .tmp 69]) rfl ?_); (try (refine gate_guard (by rfl) ?_; dsimp only)); at_builtin; refine Kd.R_append_rows Kd.string (w0 := w) w.heap.size rfl (.tmp 66) (.tmp 69) 29 9 (.string ⟨#[]⟩) 16 rfl Try.underlying29 info9 rfl (by decide) (by omega) v216 y215 t218 _ _ _ (fun k_ => some k_ ≠ (.slice Ao37 y206.length co37 : Value).ownBlock ∧ some k_ ≠ (v210 : Value).ownBlock ∧ some k_ ≠ (.slice Ao44 t218.length co44 : Value).ownBlock) (fun _ => False) rfl rfl ?aO ?aR (fun _ _ h => h) (fun _ h => h.elim) ?aF ?aB ?aS ?aL ?_; (case aR => repeat (first | exact (Kd.R_reads' HO220.out).2.2 | (with_reducible refine Kd.C_alloc ?_ _) | (with_reducible refine Kd.C_drewN ?_ _) | (with_reducible refine Kd.C_drew ?_))); (case aB => exact (by repeat (first | (with_reducible first | exact HB.out | apply below_alloc | apply pw_below_drewN | apply below_drew1) | exact HB.out))); (case aF => exact (fun k_ hk => ⟨Kd.fresh' (Kd.R_lt (by (with_reducible repeat (first | apply Kd.R_alloc | apply Kd.R_drewN | apply Kd.R_drew)); exact HO208.out)) k_ hk, Kd.fresh' (Kd.R_lt (by (with_reducible repeat (first | apply Kd.R_alloc | apply Kd.R_drewN | apply Kd.R_drew)); exact HO211.out)) k_ hk, Kd.fresh' (Kd.R_lt (by (with_reducible repeat (first | apply Kd.R_alloc | apply Kd.R_drewN | apply Kd.R_drew)); exact HO220.out)) k_ hk⟩)); (case aO => exact (by (with_reducible repeat (first | apply Kd.R_alloc | apply Kd.R_drewN | apply Kd.R_drew)); exact Kd.R_mono HO217.out (fun _ hk => ⟨hk.1.1, ⟨hk.1.2, hk.2⟩⟩))); (case aS => exact (below_size (by repeat (first | (with_reducible first | exact HB.out | apply below_alloc | apply pw_below_drewN | apply below_drew1) | exact HB.out)))); (case aL => have := LMc27.out; omega); intro v222 w43 ho hb hg hat; rw [← Ny221.out] at ho; have n0_ := Aside0.mk (Kd.R_after (ok := (fun k_ => some k_ ≠ (v210 : Value).ownBlock ∧ some k_ ≠ (.slice Ao44 t218.length co44 : Value).ownBlock)) (by (with_reducible repeat (first | apply Kd.R_alloc | apply Kd.R_drewN | apply Kd.R_drew)); exact Kd.R_mono HO208.out (fun _ hk => ⟨⟨hk.1.1, hk.2⟩, hk.1.2⟩)) hg hat); have n1_ := Aside0.mk (Kd.R_after (ok := (fun k_ => some k_ ≠ (.slice Ao37 y206.length co37 : Value).ownBlock ∧ some k_ ≠ (.slice Ao44 t218.length co44 : Value).ownBlock)) (by (with_reducible repeat (first | apply Kd.R_alloc | apply Kd.R_drewN | apply Kd.R_drew)); exact Kd.R_mono HO211.out (fun _ hk => ⟨⟨hk.1.1, hk.2⟩, hk.1.2⟩)) hg hat); have n2_ := Aside0.mk (Kd.R_after (ok := (fun k_ => some k_ ≠ (.slice Ao37 y206.length co37 : Value).ownBlock ∧ some k_ ≠ (v210 : Value).ownBlock)) (by (with_reducible repeat (first | apply Kd.R_alloc | apply Kd.R_drewN | apply Kd.R_drew)); exact Kd.R_mono HO220.out (fun _ hk => ⟨⟨hk.1.1.2, hk.1.2⟩, hk.2⟩)) hg hat); have n3_ := Aside0.mk (hb); have n4_ := Aside0.mk (ho); clear HO208; clear HO211; clear HO220; clear HB; clear HO217; have HO208 := n0_; have HO211 := n1_; have HO220 := n2_; have HB := n3_; have HO223 := n4_; clear n0_ n1_ n2_ n3_ n4_; clear ho hb hg hat; obtain ⟨Ao45, co45, eo45⟩ := Kd.R_slice HO211.out; subst eo45; obtain ⟨Ao46, co46, eo46⟩ := Kd.R_slice HO223.out; subst eo46) | ((with_reducible refine gate_callee (f := 20) rfl ?_); refine goesL_ (some 71) rfl rfl Try.func20 (by kernel_rfl) rfl #[.slice Ao45 t209.length co45, .slice Ao46 y221.length co46] rfl (by (try simp only [List.map_toArray, List.map_cons, List.map_nil]); first | done | rfl | (simp only [List.length_drop, List.length_take]; rfl)) ?_; (with_reducible refine (spec_GlobSame.calls kj10 _ _ t209 _ _ y221 true _ ?side1 ?side2 ?side3 ?side4 A28.out).mono ?_); (case side1 => repeat (first | exact (Kd.R_reads' HO211.out).2.2 | (with_reducible refine Kd.C_alloc ?_ _) | (with_reducible refine Kd.C_drewN ?_ _) | (with_reducible refine Kd.C_drew ?_))); (case side2 => exact (Kd.R_reads' HO211.out).2.1); (case side3 => repeat (first | exact (Kd.R_reads' HO223.out).2.2 | (with_reducible refine Kd.C_alloc ?_ _) | (with_reducible refine Kd.C_drewN ?_ _) | (with_reducible refine Kd.C_drew ?_))); (case side4 => exact (Kd.R_reads' HO223.out).2.1); rintro e w' ⟨rfl, ⟨nd, rfl⟩⟩; refine ⟨_, rfl, ?_⟩) | ((with_reducible refine gate_dst (N := 73) rfl ?_); (try (refine gate_guard (by rfl) ?_; dsimp only)); refine Kd.R_lit Kd.string _ 9 ?hg (N := 73) ?hd (xs := ([(⟨#[98]⟩ : ByteArray), (⟨#[97]⟩ : ByteArray)] : List ByteArray)) (inner := [.string (⟨#[98]⟩ : ByteArray), .string (⟨#[97]⟩ : ByteArray)]) (ok := fun _ => True) (okp := fun _ => True) ?hr ?hp (fun _ hk => hk) trivial (Below.refl _ _) (Nat.le_refl _) (by simp) ?_; (case hd => rfl); (case hg => rfl); (case hr => first | (go_simp; done) | (go_simp; rfl)); (case hp => exact (Reps.one (show Kd.M Kd.string _ _ _ (⟨#[98]⟩ : ByteArray) [.string (⟨#[98]⟩ : ByteArray)] from rfl) (Reps.one (show Kd.M Kd.string _ _ _ (⟨#[97]⟩ : ByteArray) [.string (⟨#[97]⟩ : ByteArray)] from rfl) (Reps.none _ _)))); intro v226 w47 ho48 hb hg_ hnew_; clear hg_ hnew_; (first | rw [← Ny225.out] at ho48 | (simp only [Int.reduceToNat] at ho48; rw [← Ny225.out] at ho48)); have n0_ := Aside0.mk (Kd.R_elder' (by (with_reducible repeat (first | apply Kd.R_alloc | apply Kd.R_drewN | apply Kd.R_drew)); exact HO208.out) (Kd.R_base ho48) hb); have n1_ := Aside0.mk (Kd.R_elder' (by (with_reducible repeat (first | apply Kd.R_alloc | apply Kd.R_drewN | apply Kd.R_drew)); exact HO211.out) (Kd.R_base ho48) hb); have n2_ := Aside0.mk (Kd.R_elder' (by (with_reducible repeat (first | apply Kd.R_alloc | apply Kd.R_drewN | apply Kd.R_drew)); exact HO220.out) (Kd.R_base ho48) hb); have n3_ := Aside0.mk (Kd.R_elder' (by (with_reducible repeat (first | apply Kd.R_alloc | apply Kd.R_drewN | apply Kd.R_drew)); exact HO223.out) (Kd.R_base ho48) hb); have n4_ := Aside0.mk (Kd.R_lower (Kd.R_new' (Kd.R_new' (Kd.R_new' (Kd.R_new' ho48 (Kd.R_lt (by (with_reducible repeat (first | apply Kd.R_alloc | apply Kd.R_drewN | apply Kd.R_drew)); exact HO208.out))) (Kd.R_lt (by (with_reducible repeat (first | apply Kd.R_alloc | apply Kd.R_drewN | apply Kd.R_drew)); exact HO211.out))) (Kd.R_lt (by (with_reducible repeat (first | apply Kd.R_alloc | apply Kd.R_drewN | apply Kd.R_drew)); exact HO220.out))) (Kd.R_lt (by (with_reducible repeat (first | apply Kd.R_alloc | apply Kd.R_drewN | apply Kd.R_drew)); exact HO223.out))) (below_size (by repeat (first | (with_reducible first | exact HB.out | apply below_alloc | apply pw_below_drewN | apply below_drew1) | exact HB.out)))); have n5_ := Aside0.mk (below_step (by repeat (first | (with_reducible first | exact HB.out | apply below_alloc | apply pw_below_drewN | apply below_drew1) | exact HB.out)) hb); clear HO208; clear HO211; clear HO220; clear HO223; clear HB; have HO208 := n0_; have HO211 := n1_; have HO220 := n2_; have HO223 := n3_; have HO227 := n4_; have HB := n5_; clear n0_ n1_ n2_ n3_ n4_ n5_; clear hb ho48; obtain ⟨Ao49, co49, eo49⟩ := Kd.R_slice HO227.out; subst eo49) | (go_at_call 19; (with_reducible refine (impl_GlobMergeDups.calls kj10 _ _ y225 0 1 t228 _ ?side1 ?side2 A30.out).mono ?_); (case side1 => repeat (first | exact (Kd.R_reads' HO227.out).2.2 | (with_reducible refine Kd.C_alloc ?_ _) | (with_reducible refine Kd.C_drewN ?_ _) | (with_reducible refine Kd.C_drew ?_))); (case side2 => exact (Kd.R_reads' HO227.out).2.1); rintro e w50 ⟨v229, rfl, ho0, hb⟩; have n0_ := Aside0.mk (Kd.R_elder' (by (with_reducible repeat (first | apply Kd.R_alloc | apply Kd.R_drewN | apply Kd.R_drew)); exact HO208.out) (Kd.R_base ho0) hb); have n1_ := Aside0.mk (Kd.R_elder' (by (with_reducible repeat (first | apply Kd.R_alloc | apply Kd.R_drewN | apply Kd.R_drew)); exact HO211.out) (Kd.R_base ho0) hb); have n2_ := Aside0.mk (Kd.R_elder' (by (with_reducible repeat (first | apply Kd.R_alloc | apply Kd.R_drewN | apply Kd.R_drew)); exact HO220.out) (Kd.R_base ho0) hb); have n3_ := Aside0.mk (Kd.R_elder' (by (with_reducible repeat (first | apply Kd.R_alloc | apply Kd.R_drewN | apply Kd.R_drew)); exact HO223.out) (Kd.R_base ho0) hb); have n4_ := Aside0.mk (Kd.R_elder' (by (with_reducible repeat (first | apply Kd.R_alloc | apply Kd.R_drewN | apply Kd.R_drew)); exact HO227.out) (Kd.R_base ho0) hb); have n5_ := Aside0.mk (Kd.R_lower (Kd.R_new' (Kd.R_new' (Kd.R_new' (Kd.R_new' (Kd.R_new' ho0 (Kd.R_lt (by (with_reducible repeat (first | apply Kd.R_alloc | apply Kd.R_drewN | apply Kd.R_drew)); exact HO208.out))) (Kd.R_lt (by (with_reducible repeat (first | apply Kd.R_alloc | apply Kd.R_drewN | apply Kd.R_drew)); exact HO211.out))) (Kd.R_lt (by (with_reducible repeat (first | apply Kd.R_alloc | apply Kd.R_drewN | apply Kd.R_drew)); exact HO220.out))) (Kd.R_lt (by (with_reducible repeat (first | apply Kd.R_alloc | apply Kd.R_drewN | apply Kd.R_drew)); exact HO223.out))) (Kd.R_lt (by (with_reducible repeat (first | apply Kd.R_alloc | apply Kd.R_drewN | apply Kd.R_drew)); exact HO227.out))) (below_size (by repeat (first | (with_reducible first | exact HB.out | apply below_alloc | apply pw_below_drewN | apply below_drew1) | exact HB.out)))); have n6_ := Aside0.mk (below_step (by repeat (first | (with_reducible first | exact HB.out | apply below_alloc | apply pw_below_drewN | apply below_drew1) | exact HB.out)) hb); clear HO208; clear HO211; clear HO220; clear HO223; clear HO227; clear HB; have HO208 := n0_; have HO211 := n1_; have HO220 := n2_; have HO223 := n3_; have HO227 := n4_; have HO230 := n5_; have HB := n6_; clear n0_ n1_ n2_ n3_ n4_ n5_ n6_; (try clear hb); (try clear hb2); (try clear hk); (try clear hi); (try clear ho0)) | ((with_reducible refine gate_dst (N := 75) rfl ?_); (try (refine gate_guard (by rfl) ?_; dsimp only)); refine Kd.R_lit Kd.string _ 9 ?hg (N := 75) ?hd (xs := ([(⟨#[97]⟩ : ByteArray), (⟨#[98]⟩ : ByteArray)] : List ByteArray)) (inner := [.string (⟨#[97]⟩ : ByteArray), .string (⟨#[98]⟩ : ByteArray)]) (ok := fun _ => True) (okp := fun _ => True) ?hr ?hp (fun _ hk => hk) trivial (Below.refl _ _) (Nat.le_refl _) (by simp) ?_; (case hd => rfl); (case hg => rfl); (case hr => first | (go_simp; done) | (go_simp; rfl)); (case hp => exact (Reps.one (show Kd.M Kd.string _ _ _ (⟨#[97]⟩ : ByteArray) [.string (⟨#[97]⟩ : ByteArray)] from rfl) (Reps.one (show Kd.M Kd.string _ _ _ (⟨#[98]⟩ : ByteArray) [.string (⟨#[98]⟩ : ByteArray)] from rfl) (Reps.none _ _)))); intro v232 w51 ho52 hb hg_ hnew_; clear hg_ hnew_; (first | rw [← Ny231.out] at ho52 | (simp only [Int.reduceToNat] at ho52; rw [← Ny231.out] at ho52)); have n0_ := Aside0.mk (Kd.R_elder' (by (with_reducible repeat (first | apply Kd.R_alloc | apply Kd.R_drewN | apply Kd.R_drew)); exact HO208.out) (Kd.R_base ho52) hb); have n1_ := Aside0.mk (Kd.R_elder' (by (with_reducible repeat (first | apply Kd.R_alloc | apply Kd.R_drewN | apply Kd.R_drew)); exact HO211.out) (Kd.R_base ho52) hb); have n2_ := Aside0.mk (Kd.R_elder' (by (with_reducible repeat (first | apply Kd.R_alloc | apply Kd.R_drewN | apply Kd.R_drew)); exact HO220.out) (Kd.R_base ho52) hb); have n3_ := Aside0.mk (Kd.R_elder' (by (with_reducible repeat (first | apply Kd.R_alloc | apply Kd.R_drewN | apply Kd.R_drew)); exact HO223.out) (Kd.R_base ho52) hb); have n4_ := Aside0.mk (Kd.R_elder' (by (with_reducible repeat (first | apply Kd.R_alloc | apply Kd.R_drewN | apply Kd.R_drew)); exact HO227.out) (Kd.R_base ho52) hb); have n5_ := Aside0.mk (Kd.R_elder' (by (with_reducible repeat (first | apply Kd.R_alloc | apply Kd.R_drewN | apply Kd.R_drew)); exact HO230.out) (Kd.R_base ho52) hb); have n6_ := Aside0.mk (Kd.R_lower (Kd.R_new' (Kd.R_new' (Kd.R_new' (Kd.R_new' (Kd.R_new' (Kd.R_new' ho52 (Kd.R_lt (by (with_reducible repeat (first | apply Kd.R_alloc | apply Kd.R_drewN | apply Kd.R_drew)); exact HO208.out))) (Kd.R_lt (by (with_reducible repeat (first | apply Kd.R_alloc | apply Kd.R_drewN | apply Kd.R_drew)); exact HO211.out))) (Kd.R_lt (by (with_reducible repeat (first | apply Kd.R_alloc | apply Kd.R_drewN | apply Kd.R_drew)); exact HO220.out))) (Kd.R_lt (by (with_reducible repeat (first | apply Kd.R_alloc | apply Kd.R_drewN | apply Kd.R_drew)); exact HO223.out))) (Kd.R_lt (by (with_reducible repeat (first | apply Kd.R_alloc | apply Kd.R_drewN | apply Kd.R_drew)); exact HO227.out))) (Kd.R_lt (by (with_reducible repeat (first | apply Kd.R_alloc | apply Kd.R_drewN | apply Kd.R_drew)); exact HO230.out))) (below_size (by repeat (first | (with_reducible first | exact HB.out | apply below_alloc | apply pw_below_drewN | apply below_drew1) | exact HB.out)))); have n7_ := Aside0.mk (below_step (by repeat (first | (with_reducible first | exact HB.out | apply below_alloc | apply pw_below_drewN | apply below_drew1) | exact HB.out)) hb); clear HO208; clear HO211; clear HO220; clear HO223; clear HO227; clear HO230; clear HB; have HO208 := n0_; have HO211 := n1_; have HO220 := n2_; have HO223 := n3_; have HO227 := n4_; have HO230 := n5_; have HO233 := n6_; have HB := n7_; clear n0_ n1_ n2_ n3_ n4_ n5_ n6_ n7_; clear hb ho52; obtain ⟨Ao53, co53, eo53⟩ := Kd.R_slice HO230.out; subst eo53; obtain ⟨Ao54, co54, eo54⟩ := Kd.R_slice HO233.out; subst eo54) | (go_at_call 20; (with_reducible refine (spec_GlobSame.calls kj10 _ _ t228 _ _ y231 t234 _ ?side1 ?side2 ?side3 ?side4 A31.out).mono ?_); (case side1 => repeat (first | exact (Kd.R_reads' HO230.out).2.2 | (with_reducible refine Kd.C_alloc ?_ _) | (with_reducible refine Kd.C_drewN ?_ _) | (with_reducible refine Kd.C_drew ?_))); (case side2 => exact (Kd.R_reads' HO230.out).2.1); (case side3 => repeat (first | exact (Kd.R_reads' HO233.out).2.2 | (with_reducible refine Kd.C_alloc ?_ _) | (with_reducible refine Kd.C_drewN ?_ _) | (with_reducible refine Kd.C_drew ?_))); (case side4 => exact (Kd.R_reads' HO233.out).2.1); rintro e w' ⟨rfl, ⟨nd, rfl⟩⟩))
                          go_ret
                          exact ⟨by first | rfl | (simp [errW_none, errW_some] <;> rfl) | (simp [*, errW_none, errW_some] <;> rfl), by repeat (first | (with_reducible first | exact HB.out | apply below_alloc | apply pw_below_drewN | apply below_drew1) | exact HB.out)⟩
                        · replace c29 := Bool.eq_false_iff.mpr c29
                          subst c29
                          have H1 : (some false) = some r := by rw [if_neg (show ¬ (false = true) by decide)] at H; exact H
                          clear H
                          have H := H1
                          clear H1
                          obtain rfl := Option.some.inj H
                          go_wp2_with (first | ((with_reducible refine gate_dst (N := 47) rfl ?_); (try (refine gate_guard (by rfl) ?_; dsimp only)); refine Kd.R_lit Kd.string _ 9 ?hg (N := 47) ?hd (xs := ([] : List ByteArray)) (inner := []) (ok := fun _ => True) (okp := fun _ => True) ?hr ?hp (fun _ hk => hk) trivial (Below.refl _ _) (Nat.le_refl _) (by simp) ?_; (case hd => rfl); (case hg => rfl); (case hr => first | (go_simp; done) | (go_simp; rfl)); (case hp => exact (Reps.none _ _)); intro v198 w55 ho56 hb hg_ hnew_; clear hg_ hnew_; (first | rw [← Ny197.out] at ho56 | (simp only [Int.reduceToNat] at ho56; rw [← Ny197.out] at ho56)); have n0_ := Aside0.mk (Kd.R_lower ho56 (below_size (by repeat (first | (with_reducible first | exact HB.out | apply below_alloc | apply pw_below_drewN | apply below_drew1) | exact HB.out)))); have n1_ := Aside0.mk (below_step (by repeat (first | (with_reducible first | exact HB.out | apply below_alloc | apply pw_below_drewN | apply below_drew1) | exact HB.out)) hb); clear HB; have HO199 := n0_; have HB := n1_; clear n0_ n1_; clear hb ho56) | ((with_reducible refine gate_builtin (b := .append) (xs := #[.tmp 47, .tmp 48]) rfl ?_); (try (refine gate_guard (by rfl) ?_; dsimp only)); at_builtin; refine Kd.R_append_rows Kd.string (w0 := w) w.heap.size rfl (.tmp 47) (.tmp 48) 29 9 (.string ⟨#[]⟩) 16 rfl Try.underlying29 info9 rfl (by decide) (by omega) v198 y197 l0 _ _ _ (fun _ => True) (fun _ => False) rfl rfl ?aO ?aR (fun _ _ h => h) (fun _ h => h.elim) ?aF ?aB ?aS ?aL ?_; (case aR => repeat (first | exact (Kd.C_below HR0.out HB.out) | (with_reducible refine Kd.C_alloc ?_ _) | (with_reducible refine Kd.C_drewN ?_ _) | (with_reducible refine Kd.C_drew ?_))); (case aB => exact (by repeat (first | (with_reducible first | exact HB.out | apply below_alloc | apply pw_below_drewN | apply below_drew1) | exact HB.out))); (case aF => exact (fun _ _ => trivial)); (case aO => exact (by (with_reducible repeat (first | apply Kd.R_alloc | apply Kd.R_drewN | apply Kd.R_drew)); exact HO199.out)); (case aS => exact (below_size (by repeat (first | (with_reducible first | exact HB.out | apply below_alloc | apply pw_below_drewN | apply below_drew1) | exact HB.out)))); (case aL => have := LMc21.out; omega); intro v201 w57 ho hb hg hat; rw [← Ny200.out] at ho; have n0_ := Aside0.mk (hb); have n1_ := Aside0.mk (ho); clear HB; clear HO199; have HB := n0_; have HO202 := n1_; clear n0_ n1_; clear ho hb hg hat) | ((with_reducible refine gate_builtin (b := .append) (xs := #[.tmp 49, .tmp 50]) rfl ?_); (try (refine gate_guard (by rfl) ?_; dsimp only)); at_builtin; refine Kd.R_append_rows Kd.string (w0 := w) w.heap.size rfl (.tmp 49) (.tmp 50) 29 9 (.string ⟨#[]⟩) 16 rfl Try.underlying29 info9 rfl (by decide) (by omega) v201 y200 l1 _ _ _ (fun _ => True) (fun _ => False) rfl rfl ?aO ?aR (fun _ _ h => h) (fun _ h => h.elim) ?aF ?aB ?aS ?aL ?_; (case aR => repeat (first | exact (Kd.C_below HR1.out HB.out) | (with_reducible refine Kd.C_alloc ?_ _) | (with_reducible refine Kd.C_drewN ?_ _) | (with_reducible refine Kd.C_drew ?_))); (case aB => exact (by repeat (first | (with_reducible first | exact HB.out | apply below_alloc | apply pw_below_drewN | apply below_drew1) | exact HB.out))); (case aF => exact (fun _ _ => trivial)); (case aO => exact (by (with_reducible repeat (first | apply Kd.R_alloc | apply Kd.R_drewN | apply Kd.R_drew)); exact HO202.out)); (case aS => exact (below_size (by repeat (first | (with_reducible first | exact HB.out | apply below_alloc | apply pw_below_drewN | apply below_drew1) | exact HB.out)))); (case aL => have := LMc22.out; omega); intro v204 w58 ho hb hg hat; rw [← Ny203.out] at ho; have n0_ := Aside0.mk (hb); have n1_ := Aside0.mk (ho); clear HB; clear HO202; have HB := n0_; have HO205 := n1_; clear n0_ n1_; clear ho hb hg hat) | ((with_reducible refine gate_builtin (b := .append) (xs := #[.tmp 51, .tmp 52]) rfl ?_); (try (refine gate_guard (by rfl) ?_; dsimp only)); at_builtin; refine Kd.R_append_rows Kd.string (w0 := w) w.heap.size rfl (.tmp 51) (.tmp 52) 29 9 (.string ⟨#[]⟩) 16 rfl Try.underlying29 info9 rfl (by decide) (by omega) v204 y203 l2 _ _ _ (fun _ => True) (fun _ => False) rfl rfl ?aO ?aR (fun _ _ h => h) (fun _ h => h.elim) ?aF ?aB ?aS ?aL ?_; (case aR => repeat (first | exact (Kd.C_below HR2.out HB.out) | (with_reducible refine Kd.C_alloc ?_ _) | (with_reducible refine Kd.C_drewN ?_ _) | (with_reducible refine Kd.C_drew ?_))); (case aB => exact (by repeat (first | (with_reducible first | exact HB.out | apply below_alloc | apply pw_below_drewN | apply below_drew1) | exact HB.out))); (case aF => exact (fun _ _ => trivial)); (case aO => exact (by (with_reducible repeat (first | apply Kd.R_alloc | apply Kd.R_drewN | apply Kd.R_drew)); exact HO205.out)); (case aS => exact (below_size (by repeat (first | (with_reducible first | exact HB.out | apply below_alloc | apply pw_below_drewN | apply below_drew1) | exact HB.out)))); (case aL => have := LMc23.out; omega); intro v207 w59 ho hb hg hat; rw [← Ny206.out] at ho; have n0_ := Aside0.mk (hb); have n1_ := Aside0.mk (ho); clear HB; clear HO205; have HB := n0_; have HO208 := n1_; clear n0_ n1_; clear ho hb hg hat; obtain ⟨Ao60, co60, eo60⟩ := Kd.R_slice HO208.out; subst eo60) | ((with_reducible refine gate_callee (f := 19) rfl ?_); refine goesL_ (some 62) rfl rfl Try.func19 (by kernel_rfl) rfl #[.slice Ao60 y206.length co60, .int .i64 (l0.length : Int), .int .i64 (wrap64 ((l0.length : Int) + (l1.length : Int)))] rfl (by (try simp only [List.map_toArray, List.map_cons, List.map_nil]); first | done | rfl | (simp only [List.length_drop, List.length_take]; rfl)) ?_; (with_reducible refine (impl_GlobMergeDups.calls kj10 _ _ y206 (l0.length : Int) (wrap64 ((l0.length : Int) + (l1.length : Int))) t209 _ ?side1 ?side2 A24.out).mono ?_); (case side1 => repeat (first | exact (Kd.R_reads' HO208.out).2.2 | (with_reducible refine Kd.C_alloc ?_ _) | (with_reducible refine Kd.C_drewN ?_ _) | (with_reducible refine Kd.C_drew ?_))); (case side2 => exact (Kd.R_reads' HO208.out).2.1); rintro e w61 ⟨v210, rfl, ho0, hb⟩; refine ⟨_, rfl, ?_⟩; have n0_ := Aside0.mk (Kd.R_elder' (by (with_reducible repeat (first | apply Kd.R_alloc | apply Kd.R_drewN | apply Kd.R_drew)); exact HO208.out) (Kd.R_base ho0) hb); have n1_ := Aside0.mk (Kd.R_lower (Kd.R_new' ho0 (Kd.R_lt (by (with_reducible repeat (first | apply Kd.R_alloc | apply Kd.R_drewN | apply Kd.R_drew)); exact HO208.out))) (below_size (by repeat (first | (with_reducible first | exact HB.out | apply below_alloc | apply pw_below_drewN | apply below_drew1) | exact HB.out)))); have n2_ := Aside0.mk (below_step (by repeat (first | (with_reducible first | exact HB.out | apply below_alloc | apply pw_below_drewN | apply below_drew1) | exact HB.out)) hb); clear HO208; clear HB; have HO208 := n0_; have HO211 := n1_; have HB := n2_; clear n0_ n1_ n2_; (try clear hb); (try clear hb2); (try clear hk); (try clear hi); (try clear ho0)) | ((with_reducible refine gate_dst (N := 64) rfl ?_); (try (refine gate_guard (by rfl) ?_; dsimp only)); refine Kd.R_lit Kd.string _ 9 ?hg (N := 64) ?hd (xs := ([] : List ByteArray)) (inner := []) (ok := fun _ => True) (okp := fun _ => True) ?hr ?hp (fun _ hk => hk) trivial (Below.refl _ _) (Nat.le_refl _) (by simp) ?_; (case hd => rfl); (case hg => rfl); (case hr => first | (go_simp; done) | (go_simp; rfl)); (case hp => exact (Reps.none _ _)); intro v213 w62 ho63 hb hg_ hnew_; clear hg_ hnew_; (first | rw [← Ny212.out] at ho63 | (simp only [Int.reduceToNat] at ho63; rw [← Ny212.out] at ho63)); have n0_ := Aside0.mk (Kd.R_elder' (by (with_reducible repeat (first | apply Kd.R_alloc | apply Kd.R_drewN | apply Kd.R_drew)); exact HO208.out) (Kd.R_base ho63) hb); have n1_ := Aside0.mk (Kd.R_elder' (by (with_reducible repeat (first | apply Kd.R_alloc | apply Kd.R_drewN | apply Kd.R_drew)); exact HO211.out) (Kd.R_base ho63) hb); have n2_ := Aside0.mk (Kd.R_lower (Kd.R_new' (Kd.R_new' ho63 (Kd.R_lt (by (with_reducible repeat (first | apply Kd.R_alloc | apply Kd.R_drewN | apply Kd.R_drew)); exact HO208.out))) (Kd.R_lt (by (with_reducible repeat (first | apply Kd.R_alloc | apply Kd.R_drewN | apply Kd.R_drew)); exact HO211.out))) (below_size (by repeat (first | (with_reducible first | exact HB.out | apply below_alloc | apply pw_below_drewN | apply below_drew1) | exact HB.out)))); have n3_ := Aside0.mk (below_step (by repeat (first | (with_reducible first | exact HB.out | apply below_alloc | apply pw_below_drewN | apply below_drew1) | exact HB.out)) hb); clear HO208; clear HO211; clear HB; have HO208 := n0_; have HO211 := n1_; have HO214 := n2_; have HB := n3_; clear n0_ n1_ n2_ n3_; clear hb ho63) | ((with_reducible refine gate_builtin (b := .append) (xs := #[.tmp 64, .tmp 65]) rfl ?_); (try (refine gate_guard (by rfl) ?_; dsimp only)); at_builtin; refine Kd.R_append_rows Kd.string (w0 := w) w.heap.size rfl (.tmp 64) (.tmp 65) 29 9 (.string ⟨#[]⟩) 16 rfl Try.underlying29 info9 rfl (by decide) (by omega) v213 y212 l0 _ _ _ (fun k_ => some k_ ≠ (.slice Ao60 y206.length co60 : Value).ownBlock ∧ some k_ ≠ (v210 : Value).ownBlock) (fun _ => False) rfl rfl ?aO ?aR (fun _ _ h => h) (fun _ h => h.elim) ?aF ?aB ?aS ?aL ?_; (case aR => repeat (first | exact (Kd.C_below HR0.out HB.out) | (with_reducible refine Kd.C_alloc ?_ _) | (with_reducible refine Kd.C_drewN ?_ _) | (with_reducible refine Kd.C_drew ?_))); (case aB => exact (by repeat (first | (with_reducible first | exact HB.out | apply below_alloc | apply pw_below_drewN | apply below_drew1) | exact HB.out))); (case aF => exact (fun k_ hk => ⟨Kd.fresh' (Kd.R_lt (by (with_reducible repeat (first | apply Kd.R_alloc | apply Kd.R_drewN | apply Kd.R_drew)); exact HO208.out)) k_ hk, Kd.fresh' (Kd.R_lt (by (with_reducible repeat (first | apply Kd.R_alloc | apply Kd.R_drewN | apply Kd.R_drew)); exact HO211.out)) k_ hk⟩)); (case aO => exact (by (with_reducible repeat (first | apply Kd.R_alloc | apply Kd.R_drewN | apply Kd.R_drew)); exact Kd.R_mono HO214.out (fun _ hk => ⟨hk.1.2, hk.2⟩))); (case aS => exact (below_size (by repeat (first | (with_reducible first | exact HB.out | apply below_alloc | apply pw_below_drewN | apply below_drew1) | exact HB.out)))); (case aL => have := LMc25.out; omega); intro v216 w64 ho hb hg hat; rw [← Ny215.out] at ho; have n0_ := Aside0.mk (Kd.R_after (ok := (fun k_ => some k_ ≠ (v210 : Value).ownBlock)) (by (with_reducible repeat (first | apply Kd.R_alloc | apply Kd.R_drewN | apply Kd.R_drew)); exact Kd.R_mono HO208.out (fun _ hk => ⟨hk.1.2, hk.2⟩)) hg hat); have n1_ := Aside0.mk (Kd.R_after (ok := (fun k_ => some k_ ≠ (.slice Ao60 y206.length co60 : Value).ownBlock)) (by (with_reducible repeat (first | apply Kd.R_alloc | apply Kd.R_drewN | apply Kd.R_drew)); exact Kd.R_mono HO211.out (fun _ hk => ⟨hk.1.2, hk.2⟩)) hg hat); have n2_ := Aside0.mk (hb); have n3_ := Aside0.mk (ho); clear HO208; clear HO211; clear HB; clear HO214; have HO208 := n0_; have HO211 := n1_; have HB := n2_; have HO217 := n3_; clear n0_ n1_ n2_ n3_; clear ho hb hg hat) | ((with_reducible refine gate_callee (f := 18) rfl ?_); refine goesL_ (some 69) rfl rfl Try.func18 (by kernel_rfl) rfl #[.slice A1 l1.length c1, .slice A2 l2.length c2] rfl (by (try simp only [List.map_toArray, List.map_cons, List.map_nil]); first | done | rfl | (simp only [List.length_drop, List.length_take]; rfl)) ?_; (with_reducible refine (spec_GlobBoth.calls kj10 (fun k_ => k_ < w.heap.size) _ _ l1 (fun k_ => k_ < w.heap.size) _ _ l2 t218 _ ?side1 ?side2 A26.out).mono ?_); (case side1 => exact Kd.V_mk HC1.out (Kd.F_below (Kd.C_F Kd.heap_string HR1.out) (by repeat (first | (with_reducible first | exact HB.out | apply below_alloc | apply pw_below_drewN | apply below_drew1) | exact HB.out)))); (case side2 => exact Kd.V_mk HC2.out (Kd.F_below (Kd.C_F Kd.heap_string HR2.out) (by repeat (first | (with_reducible first | exact HB.out | apply below_alloc | apply pw_below_drewN | apply below_drew1) | exact HB.out)))); rintro e w65 ⟨v219, rfl, ho0, hb⟩; refine ⟨_, rfl, ?_⟩; have n0_ := Aside0.mk (Kd.R_elder' (by (with_reducible repeat (first | apply Kd.R_alloc | apply Kd.R_drewN | apply Kd.R_drew)); exact HO208.out) (Kd.R_base ho0) hb); have n1_ := Aside0.mk (Kd.R_elder' (by (with_reducible repeat (first | apply Kd.R_alloc | apply Kd.R_drewN | apply Kd.R_drew)); exact HO211.out) (Kd.R_base ho0) hb); have n2_ := Aside0.mk (Kd.R_elder' (by (with_reducible repeat (first | apply Kd.R_alloc | apply Kd.R_drewN | apply Kd.R_drew)); exact HO217.out) (Kd.R_base ho0) hb); have n3_ := Aside0.mk (Kd.R_lower (Kd.R_new' (Kd.R_new' (Kd.R_new' (Kd.R_mono (ok' := fun k_ => True) ho0 (fun _ hk_ => trivial)) (Kd.R_lt (by (with_reducible repeat (first | apply Kd.R_alloc | apply Kd.R_drewN | apply Kd.R_drew)); exact HO208.out))) (Kd.R_lt (by (with_reducible repeat (first | apply Kd.R_alloc | apply Kd.R_drewN | apply Kd.R_drew)); exact HO211.out))) (Kd.R_lt (by (with_reducible repeat (first | apply Kd.R_alloc | apply Kd.R_drewN | apply Kd.R_drew)); exact HO217.out))) (below_size (by repeat (first | (with_reducible first | exact HB.out | apply below_alloc | apply pw_below_drewN | apply below_drew1) | exact HB.out)))); have n4_ := Aside0.mk (below_step (by repeat (first | (with_reducible first | exact HB.out | apply below_alloc | apply pw_below_drewN | apply below_drew1) | exact HB.out)) hb); clear HO208; clear HO211; clear HO217; clear HB; have HO208 := n0_; have HO211 := n1_; have HO217 := n2_; have HO220 := n3_; have HB := n4_; clear n0_ n1_ n2_ n3_ n4_; (try clear hb); (try clear hb2); (try clear hk); (try clear hi); (try clear ho0); obtain ⟨Ao67, co67, eo67⟩ := Kd.R_slice HO220.out; subst eo67) | ((with_reducible refine gate_builtin (b := .append) (xs := #[.tmp 66, .tmp 69]) rfl ?_); (try (refine gate_guard (by rfl) ?_; dsimp only)); at_builtin; refine Kd.R_append_rows Kd.string (w0 := w) w.heap.size rfl (.tmp 66) (.tmp 69) 29 9 (.string ⟨#[]⟩) 16 rfl Try.underlying29 info9 rfl (by decide) (by omega) v216 y215 t218 _ _ _ (fun k_ => some k_ ≠ (.slice Ao60 y206.length co60 : Value).ownBlock ∧ some k_ ≠ (v210 : Value).ownBlock ∧ some k_ ≠ (.slice Ao67 t218.length co67 : Value).ownBlock) (fun _ => False) rfl rfl ?aO ?aR (fun _ _ h => h) (fun _ h => h.elim) ?aF ?aB ?aS ?aL ?_; (case aR => repeat (first | exact (Kd.R_reads' HO220.out).2.2 | (with_reducible refine Kd.C_alloc ?_ _) | (with_reducible refine Kd.C_drewN ?_ _) | (with_reducible refine Kd.C_drew ?_))); (case aB => exact (by repeat (first | (with_reducible first | exact HB.out | apply below_alloc | apply pw_below_drewN | apply below_drew1) | exact HB.out))); (case aF => exact (fun k_ hk => ⟨Kd.fresh' (Kd.R_lt (by (with_reducible repeat (first | apply Kd.R_alloc | apply Kd.R_drewN | apply Kd.R_drew)); exact HO208.out)) k_ hk, Kd.fresh' (Kd.R_lt (by (with_reducible repeat (first | apply Kd.R_alloc | apply Kd.R_drewN | apply Kd.R_drew)); exact HO211.out)) k_ hk, Kd.fresh' (Kd.R_lt (by (with_reducible repeat (first | apply Kd.R_alloc | apply Kd.R_drewN | apply Kd.R_drew)); exact HO220.out)) k_ hk⟩)); (case aO => exact (by (with_reducible repeat (first | apply Kd.R_alloc | apply Kd.R_drewN | apply Kd.R_drew)); exact Kd.R_mono HO217.out (fun _ hk => ⟨hk.1.1, ⟨hk.1.2, hk.2⟩⟩))); (case aS => exact (below_size (by repeat (first | (with_reducible first | exact HB.out | apply below_alloc | apply pw_below_drewN | apply below_drew1) | exact HB.out)))); (case aL => have := LMc27.out; omega); intro v222 w66 ho hb hg hat; rw [← Ny221.out] at ho; have n0_ := Aside0.mk (Kd.R_after (ok := (fun k_ => some k_ ≠ (v210 : Value).ownBlock ∧ some k_ ≠ (.slice Ao67 t218.length co67 : Value).ownBlock)) (by (with_reducible repeat (first | apply Kd.R_alloc | apply Kd.R_drewN | apply Kd.R_drew)); exact Kd.R_mono HO208.out (fun _ hk => ⟨⟨hk.1.1, hk.2⟩, hk.1.2⟩)) hg hat); have n1_ := Aside0.mk (Kd.R_after (ok := (fun k_ => some k_ ≠ (.slice Ao60 y206.length co60 : Value).ownBlock ∧ some k_ ≠ (.slice Ao67 t218.length co67 : Value).ownBlock)) (by (with_reducible repeat (first | apply Kd.R_alloc | apply Kd.R_drewN | apply Kd.R_drew)); exact Kd.R_mono HO211.out (fun _ hk => ⟨⟨hk.1.1, hk.2⟩, hk.1.2⟩)) hg hat); have n2_ := Aside0.mk (Kd.R_after (ok := (fun k_ => some k_ ≠ (.slice Ao60 y206.length co60 : Value).ownBlock ∧ some k_ ≠ (v210 : Value).ownBlock)) (by (with_reducible repeat (first | apply Kd.R_alloc | apply Kd.R_drewN | apply Kd.R_drew)); exact Kd.R_mono HO220.out (fun _ hk => ⟨⟨hk.1.1.2, hk.1.2⟩, hk.2⟩)) hg hat); have n3_ := Aside0.mk (hb); have n4_ := Aside0.mk (ho); clear HO208; clear HO211; clear HO220; clear HB; clear HO217; have HO208 := n0_; have HO211 := n1_; have HO220 := n2_; have HB := n3_; have HO223 := n4_; clear n0_ n1_ n2_ n3_ n4_; clear ho hb hg hat; obtain ⟨Ao68, co68, eo68⟩ := Kd.R_slice HO211.out; subst eo68; obtain ⟨Ao69, co69, eo69⟩ := Kd.R_slice HO223.out; subst eo69) | ((with_reducible refine gate_callee (f := 20) rfl ?_); refine goesL_ (some 71) rfl rfl Try.func20 (by kernel_rfl) rfl #[.slice Ao68 t209.length co68, .slice Ao69 y221.length co69] rfl (by (try simp only [List.map_toArray, List.map_cons, List.map_nil]); first | done | rfl | (simp only [List.length_drop, List.length_take]; rfl)) ?_; (with_reducible refine (spec_GlobSame.calls kj10 _ _ t209 _ _ y221 false _ ?side1 ?side2 ?side3 ?side4 A28.out).mono ?_); (case side1 => repeat (first | exact (Kd.R_reads' HO211.out).2.2 | (with_reducible refine Kd.C_alloc ?_ _) | (with_reducible refine Kd.C_drewN ?_ _) | (with_reducible refine Kd.C_drew ?_))); (case side2 => exact (Kd.R_reads' HO211.out).2.1); (case side3 => repeat (first | exact (Kd.R_reads' HO223.out).2.2 | (with_reducible refine Kd.C_alloc ?_ _) | (with_reducible refine Kd.C_drewN ?_ _) | (with_reducible refine Kd.C_drew ?_))); (case side4 => exact (Kd.R_reads' HO223.out).2.1); rintro e w' ⟨rfl, ⟨nd, rfl⟩⟩; refine ⟨_, rfl, ?_⟩))
                          go_ret
                          exact ⟨by first | rfl | (simp [errW_none, errW_some] <;> rfl) | (simp [*, errW_none, errW_some] <;> rfl), by repeat (first | (with_reducible first | exact HB.out | apply below_alloc | apply pw_below_drewN | apply below_drew1) | exact HB.out)⟩
                      · rw [if_neg c27] at H
                        exact absurd H (by simp)
                    · rw [if_neg c25] at H
                      exact absurd H (by simp)
                  · rw [if_neg c23] at H
                    exact absurd H (by simp)
                · rw [if_neg c22] at H
                  exact absurd H (by simp)
              · rw [if_neg c21] at H
                exact absurd H (by simp)

end Go.Proofs.Ytdhfpgbidlanaaa.QFnGlobMerges
