/- The machine's side of a law, as the kit's print writes it; of the functions that the print doesn't cover this session's own contracts stand in it: no condition. -/
import Derived.Test.YtdhfpgbidlanaaaQFnGlobMergesx0
namespace Go.Proofs.Ytdhfpgbidlanaaa.QFnGlobMerges
open Go.RowKit Go.Proofs.YtdhfpgbidlanaaaW.PrintWords Go.Proofs.YtdhfpgbidlanaaaW.PrintLast Go.Proofs.YtdhfpgbidlanaaaW.PrintMore
attribute [local go_sem] max2_int min2_int max_two min_two max_three min_three max_four min_four   -- for this text's walks alone
set_option linter.unusedVariables false
set_option linter.unusedSimpArgs false

/-! ### doublestar_sortAndRemoveDups: function 43 -/
theorem bl_irr : ∀ l, Op.bytesLess l l = false
  | [] => rfl
  | a :: x => by simp [Op.bytesLess, bl_irr x]
theorem bl_ne {a b : List UInt8} (h : Op.bytesLess b a = true) : (a == b) = false := by
  refine beq_eq_false_iff_ne.2 (fun e => ?_)
  rw [e, bl_irr] at h; cases h
theorem bl_eq : ∀ {a b : List UInt8}, Op.bytesLess a b = false → Op.bytesLess b a = false → a = b
  | [], [], _, _ => rfl
  | [], _ :: _, h, _ => by simp [Op.bytesLess] at h
  | _ :: _, [], _, h => by simp [Op.bytesLess] at h
  | a :: x, b :: y, h, k => by
    simp only [Op.bytesLess, Bool.or_eq_false_iff, Bool.and_eq_false_iff, decide_eq_false_iff_not] at h k
    have e : a = b := by
      have h1 := h.1; have k1 := k.1
      rw [UInt8.lt_iff_toNat_lt] at h1 k1
      exact UInt8.toNat_inj.1 (by omega)
    subst e
    simp only [beq_self_eq_true, Bool.true_eq_false, false_or] at h k
    rw [bl_eq h.2 k.2]
mutual
def doublestar_sortAndRemoveDups.l0 : Nat → List ByteArray → Int → Int → Int → Option (List ByteArray)
  | 0, _, _, _, _ => none
  | k + 1, x0, x1, x2, x3 => if x1 < x2 then (if 0 ≤ x1 then (if x1 < (x0.length : Int) then (if 0 ≤ x2 then (if x2 < (x0.length : Int) then (if (Op.bytesLess ((rdOf ByteArray.empty x0 x1).toList) ((rdOf ByteArray.empty x0 x2).toList)) = true then (doublestar_sortAndRemoveDups.l0 k x0 (wrap64 (x1 + 1)) x2 x3) else (if (Op.bytesLess ((rdOf ByteArray.empty x0 x2).toList) ((rdOf ByteArray.empty x0 x1).toList)) = true then (doublestar_sortAndRemoveDups.l1 k (x0.set (x1 : Int).toNat (rdOf ByteArray.empty x0 x2)) x1 x2 x3 (rdOf ByteArray.empty x0 x1) (wrap64 (x2 + 1))) else (doublestar_sortAndRemoveDups.l2 k x0 x1 x2 x3 (wrap64 (x2 + 1))))) else (none)) else (none)) else (none)) else (none)) else (if 0 ≤ x3 then (if x3 ≤ (x0.length : Int) then (some (x0.take (x3 : Int).toNat)) else (none)) else (none))
def doublestar_sortAndRemoveDups.l1 : Nat → List ByteArray → Int → Int → Int → ByteArray → Int → Option (List ByteArray)
  | 0, _, _, _, _, _, _ => none
  | k + 1, x0, x1, x2, x3, x9, x10 => if x10 < x3 then (if 0 ≤ x10 then (if x10 < (x0.length : Int) then (if (Op.bytesLess ((rdOf ByteArray.empty x0 x10).toList) x9.toList) = true then (if 0 ≤ (wrap64 (x10 - 1)) then (if (wrap64 (x10 - 1)) < (x0.length : Int) then (doublestar_sortAndRemoveDups.l1 k (x0.set ((wrap64 (x10 - 1)) : Int).toNat (rdOf ByteArray.empty x0 x10)) x1 x2 x3 x9 (wrap64 (x10 + 1))) else (none)) else (none)) else (if 0 ≤ (wrap64 (x10 - 1)) then (if (wrap64 (x10 - 1)) < (x0.length : Int) then (doublestar_sortAndRemoveDups.l0 k (x0.set ((wrap64 (x10 - 1)) : Int).toNat x9) (wrap64 (x1 + 1)) x2 x3) else (none)) else (none))) else (none)) else (none)) else (if 0 ≤ (wrap64 (x10 - 1)) then (if (wrap64 (x10 - 1)) < (x0.length : Int) then (doublestar_sortAndRemoveDups.l0 k (x0.set ((wrap64 (x10 - 1)) : Int).toNat x9) (wrap64 (x1 + 1)) x2 x3) else (none)) else (none))
def doublestar_sortAndRemoveDups.l2 : Nat → List ByteArray → Int → Int → Int → Int → Option (List ByteArray)
  | 0, _, _, _, _, _ => none
  | k + 1, x0, x1, x2, x3, x11 => if x11 < x3 then (if 0 ≤ x11 then (if x11 < (x0.length : Int) then (if 0 ≤ (wrap64 (x11 - 1)) then (if (wrap64 (x11 - 1)) < (x0.length : Int) then (doublestar_sortAndRemoveDups.l2 k (x0.set ((wrap64 (x11 - 1)) : Int).toNat (rdOf ByteArray.empty x0 x11)) x1 x2 x3 (wrap64 (x11 + 1))) else (none)) else (none)) else (none)) else (none)) else (if x2 = (wrap64 (x3 - 1)) then (if 0 ≤ (wrap64 (x3 - 1)) then (if (wrap64 (x3 - 1)) ≤ (x0.length : Int) then (some (x0.take ((wrap64 (x3 - 1)) : Int).toNat)) else (none)) else (none)) else (doublestar_sortAndRemoveDups.l0 k x0 (wrap64 (x1 + 1)) x2 (wrap64 (x3 - 1))))
end
def doublestar_sortAndRemoveDups.f (k : Nat) (l0 : List ByteArray) (a1 : Int) (a2 : Int) (a3 : Int) : Option (List ByteArray) := doublestar_sortAndRemoveDups.l0 k l0 a1 a2 a3
theorem doublestar_sortAndRemoveDups.mono_l : ∀ k, (∀ y0 y1 y2 y3, LeO (doublestar_sortAndRemoveDups.l0 k y0 y1 y2 y3) (doublestar_sortAndRemoveDups.l0 (k + 1) y0 y1 y2 y3)) ∧ (∀ y0 y1 y2 y3 y4 y5, LeO (doublestar_sortAndRemoveDups.l1 k y0 y1 y2 y3 y4 y5) (doublestar_sortAndRemoveDups.l1 (k + 1) y0 y1 y2 y3 y4 y5)) ∧ (∀ y0 y1 y2 y3 y4, LeO (doublestar_sortAndRemoveDups.l2 k y0 y1 y2 y3 y4) (doublestar_sortAndRemoveDups.l2 (k + 1) y0 y1 y2 y3 y4))
  | 0 => ⟨fun _ _ _ _ r h => by simp [doublestar_sortAndRemoveDups.l0] at h, fun _ _ _ _ _ _ r h => by simp [doublestar_sortAndRemoveDups.l1] at h, fun _ _ _ _ _ r h => by simp [doublestar_sortAndRemoveDups.l2] at h⟩
  | k + 1 => by
    obtain ⟨ih0, ih1, ih2⟩ := doublestar_sortAndRemoveDups.mono_l k
    refine ⟨?_, ?_, ?_⟩
    · intro y0 y1 y2 y3
      unfold doublestar_sortAndRemoveDups.l0
      repeat' first
      | (with_reducible exact ih0 _ _ _ _)
      | (with_reducible exact ih1 _ _ _ _ _ _)
      | (with_reducible exact ih2 _ _ _ _ _)
      | (with_reducible exact LeO.refl _)
      | (with_reducible exact LeO.none _)
      | (with_reducible refine LeO.ite ?_ ?_)
      | (with_reducible refine LeO.bind ?_ (fun _ => ?_))
      | exact ih0 _ _ _ _
      | exact ih1 _ _ _ _ _ _
      | exact ih2 _ _ _ _ _
      | exact LeO.none _
      | refine LeO.ite ?_ ?_
      | refine LeO.bind ?_ (fun _ => ?_)
    · intro y0 y1 y2 y3 y4 y5
      unfold doublestar_sortAndRemoveDups.l1
      repeat' first
      | (with_reducible exact ih0 _ _ _ _)
      | (with_reducible exact ih1 _ _ _ _ _ _)
      | (with_reducible exact ih2 _ _ _ _ _)
      | (with_reducible exact LeO.refl _)
      | (with_reducible exact LeO.none _)
      | (with_reducible refine LeO.ite ?_ ?_)
      | (with_reducible refine LeO.bind ?_ (fun _ => ?_))
      | exact ih0 _ _ _ _
      | exact ih1 _ _ _ _ _ _
      | exact ih2 _ _ _ _ _
      | exact LeO.none _
      | refine LeO.ite ?_ ?_
      | refine LeO.bind ?_ (fun _ => ?_)
    · intro y0 y1 y2 y3 y4
      unfold doublestar_sortAndRemoveDups.l2
      repeat' first
      | (with_reducible exact ih0 _ _ _ _)
      | (with_reducible exact ih1 _ _ _ _ _ _)
      | (with_reducible exact ih2 _ _ _ _ _)
      | (with_reducible exact LeO.refl _)
      | (with_reducible exact LeO.none _)
      | (with_reducible refine LeO.ite ?_ ?_)
      | (with_reducible refine LeO.bind ?_ (fun _ => ?_))
      | exact ih0 _ _ _ _
      | exact ih1 _ _ _ _ _ _
      | exact ih2 _ _ _ _ _
      | exact LeO.none _
      | refine LeO.ite ?_ ?_
      | refine LeO.bind ?_ (fun _ => ?_)
theorem doublestar_sortAndRemoveDups.mono : ∀ a0 a1 a2 a3 k, LeO (doublestar_sortAndRemoveDups.f k a0 a1 a2 a3) (doublestar_sortAndRemoveDups.f (k + 1) a0 a1 a2 a3) := by
  intro a0 a1 a2 a3 k
  obtain ⟨ih0, ih1, ih2⟩ := doublestar_sortAndRemoveDups.mono_l k
  unfold doublestar_sortAndRemoveDups.f
  repeat' first
      | (with_reducible exact ih0 _ _ _ _)
      | (with_reducible exact ih1 _ _ _ _ _ _)
      | (with_reducible exact ih2 _ _ _ _ _)
      | (with_reducible exact LeO.refl _)
      | (with_reducible exact LeO.none _)
      | (with_reducible refine LeO.ite ?_ ?_)
      | (with_reducible refine LeO.bind ?_ (fun _ => ?_))
      | exact ih0 _ _ _ _
      | exact ih1 _ _ _ _ _ _
      | exact ih2 _ _ _ _ _
      | exact LeO.none _
      | refine LeO.ite ?_ ?_
      | refine LeO.bind ?_ (fun _ => ?_)
set_option maxHeartbeats 8000000 in
set_option maxRecDepth 100000 in
theorem doublestar_sortAndRemoveDups.calls (k : Nat) (P0_ : Nat → Prop) (u9000_ : Value) (l0 : List ByteArray) (a1 : Int) (a2 : Int) (a3 : Int) (r : List ByteArray) (w0 w : World) (hB : Below w0.heap.size w0 w) (ho0 : Kd.R Kd.string 9 w w0.heap.size P0_ u9000_ l0) (h : doublestar_sortAndRemoveDups.f k l0 a1 a2 a3 = some r) :
    Calls Try.prog 43 #[u9000_, .int .i64 a1, .int .i64 a2, .int .i64 a3] w fun e w' => ∃ v0_ : Value, e = .returned (v0_) ∧ Kd.R Kd.string 9 w' w0.heap.size (fun k_ => (P0_ k_ ∨ w.heap.size ≤ k_)) v0_ r ∧ Below w0.heap.size w0 w' ∧ Kept w w' (fun k_ => P0_ k_) := by
  have HO0 := Aside0.mk (show Kd.R Kd.string 9 w w0.heap.size (fun k_ => (P0_ k_ ∨ w.heap.size ≤ k_)) u9000_ l0 from Kd.R_mono ho0 (fun k_ hk => (.inl hk)))
  have HK := Aside0.mk (Kept.refl w (fun k_ => P0_ k_))
  have HW0 := Aside0.mk hB.size
  have HB := Aside0.mk hB
  clear hB
  have H : (doublestar_sortAndRemoveDups.l0 k l0 a1 a2 a3) = some r := h
  clear h
  have H' := Aside0.mk H
  clear H
  go_enter Try.func43, Try.ntmps43
  go_wp2
  repeat (go_quiet (fail); try go_wp2)
  go_loopg [1, 3] k (fun kq v1 v3 w' => ∃ (x0_1 : List ByteArray) (x1_1 : Int) (x3_1 : Int), v1 = .int .i64 x1_1 ∧ v3 = .int .i64 x3_1 ∧ Aside0 (doublestar_sortAndRemoveDups.l0 kq x0_1 x1_1 a2 x3_1 = some r) ∧ Aside0 (kq ≤ k) ∧ Aside0 (Kd.R Kd.string 9 w' w0.heap.size (fun k_ => (P0_ k_ ∨ w.heap.size ≤ k_)) u9000_ x0_1) ∧ Aside0 (Kept w w' (fun k_ => P0_ k_)) ∧ Aside0 (Below w0.heap.size w0 w'))
  case atStart => exact ⟨(l0), (a1), (a3), (by first | rfl | (simp; done) | (simp [*]; done)), (by first | rfl | (simp; done) | (simp [*]; done)), H', ⟨Nat.le_refl _⟩, ⟨by (with_reducible repeat (first | apply Kd.R_alloc | apply Kd.R_drewN | apply Kd.R_drew)); exact HO0.out⟩, ⟨by repeat (first | (with_reducible first | exact HK.out | apply Kept.alloc | apply Kept.drewN | apply Kept.drew) | exact HK.out)⟩, ⟨by repeat (first | (with_reducible first | exact HB.out | apply below_alloc | apply pw_below_drewN | apply below_drew1) | exact HB.out)⟩⟩
  case round =>
    clear H'
    try clear p2
    try clear c4
    obtain ⟨x0_1, x1_1, x3_1, rfl, rfl, HA, HK1, HO_0, HK, HB⟩ := hrel
    cases gk with
    | zero => exact absurd HA.out (by simp [doublestar_sortAndRemoveDups.l0])
    | succ k1 =>
      have H := HA.out
      clear HA
      simp only [doublestar_sortAndRemoveDups.l0] at H
      by_cases c5 : x1_1 < a2
      · rw [if_pos c5] at H
        have c5b0 : decide (x1_1 < a2) = true := decide_eq_true c5
        clear c5
        by_cases c6 : 0 ≤ x1_1
        · rw [if_pos c6] at H
          have c6b0 : decide (0 ≤ x1_1) = true := decide_eq_true c6
          clear c6
          by_cases c7 : x1_1 < (x0_1.length : Int)
          · rw [if_pos c7] at H
            have c7b0 : decide (x1_1 < (x0_1.length : Int)) = true := decide_eq_true c7
            clear c7
            by_cases c8 : 0 ≤ a2
            · rw [if_pos c8] at H
              have c8b0 : decide (0 ≤ a2) = true := decide_eq_true c8
              clear c8
              by_cases c9 : a2 < (x0_1.length : Int)
              · rw [if_pos c9] at H
                have c9b0 : decide (a2 < (x0_1.length : Int)) = true := decide_eq_true c9
                clear c9
                by_cases c10 : (Op.bytesLess ((rdOf ByteArray.empty x0_1 x1_1).toList) ((rdOf ByteArray.empty x0_1 a2).toList)) = true
                · rw [if_pos c10] at H
                  have c10b0 : (Op.bytesLess ((rdOf ByteArray.empty x0_1 x1_1).toList) ((rdOf ByteArray.empty x0_1 a2).toList)) = true := c10
                  clear c10
                  have H' := Aside0.mk H
                  clear H
                  obtain ⟨Ao11, co11, eo11⟩ := Kd.R_slice HO_0.out
                  subst eo11
                  have p152 : 0 ≤ (x1_1 : Int) := of_decide_eq_true (by first | (with_reducible assumption) | assumption)
                  have q152 : x1_1 < (x0_1.length : Int) := of_decide_eq_true (by first | (with_reducible assumption) | assumption)
                  obtain ⟨ad152, e152, hx152_0⟩ := Kd.at_string (Kd.R_reads' HO_0.out).2.2 x1_1 p152 q152
                  cases e152
                  replace p152 := eq_true p152
                  replace q152 := eq_true q152
                  have p153 : 0 ≤ (a2 : Int) := of_decide_eq_true (by first | (with_reducible assumption) | assumption)
                  have q153 : a2 < (x0_1.length : Int) := of_decide_eq_true (by first | (with_reducible assumption) | assumption)
                  obtain ⟨ad153, e153, hx153_0⟩ := Kd.at_string (Kd.R_reads' HO_0.out).2.2 a2 p153 q153
                  obtain rfl : ad152 = ad153 := (by injection e153)
                  replace p153 := eq_true p153
                  replace q153 := eq_true q153
                  go_wp2
                  repeat (go_quiet (fail); try go_wp2)
                  go_roundg k1
                  case measure => have := HK1.out; omega
                  case rel => exact ⟨(x0_1), (wrap64 (x1_1 + 1)), (x3_1), (by first | rfl | (simp; done) | (simp [*]; done)), (by first | rfl | (simp; done) | (simp [*]; done)), H', ⟨by have := HK1.out; omega⟩, ⟨by (with_reducible repeat (first | apply Kd.R_alloc | apply Kd.R_drewN | apply Kd.R_drew)); exact HO_0.out⟩, ⟨by repeat (first | (with_reducible first | exact HK.out | apply Kept.alloc | apply Kept.drewN | apply Kept.drew) | exact HK.out)⟩, ⟨by repeat (first | (with_reducible first | exact HB.out | apply below_alloc | apply pw_below_drewN | apply below_drew1) | exact HB.out)⟩⟩
                · rw [if_neg c10] at H
                  have c10b0 : (Op.bytesLess ((rdOf ByteArray.empty x0_1 x1_1).toList) ((rdOf ByteArray.empty x0_1 a2).toList)) = false := by simpa using c10
                  clear c10
                  by_cases c12 : (Op.bytesLess ((rdOf ByteArray.empty x0_1 a2).toList) ((rdOf ByteArray.empty x0_1 x1_1).toList)) = true
                  · rw [if_pos c12] at H
                    have c12b0 : (Op.bytesLess ((rdOf ByteArray.empty x0_1 a2).toList) ((rdOf ByteArray.empty x0_1 x1_1).toList)) = true := c12
                    have c12e : (((rdOf ByteArray.empty x0_1 x1_1).toList) == ((rdOf ByteArray.empty x0_1 a2).toList)) = false := bl_ne c12b0
                    clear c12
                    obtain ⟨y158, hy158⟩ : ∃ y_ : List ByteArray, y_ = (x0_1.set (x1_1 : Int).toNat (rdOf ByteArray.empty x0_1 a2)) := ⟨_, rfl⟩
                    replace H : (doublestar_sortAndRemoveDups.l1 k1 y158 x1_1 a2 x3_1 (rdOf ByteArray.empty x0_1 x1_1) (wrap64 (a2 + 1))) = some r := by first | (rw [hy158]; with_reducible exact H) | (have H2_ := (Option.bind_some _ _).symm.trans H; rw [hy158]; with_reducible exact H2_) | (have H2_ := (Option.bind_some _ _).symm.trans H; with_reducible exact H2_) | with_reducible exact H | (rw [hy158]; exact H) | exact H
                    have Ny158 := Aside0.mk hy158
                    clear hy158
                    have H' := Aside0.mk H
                    clear H
                    obtain ⟨Ao14, co14, eo14⟩ := Kd.R_slice HO_0.out
                    subst eo14
                    have p152 : 0 ≤ (x1_1 : Int) := of_decide_eq_true (by first | (with_reducible assumption) | assumption)
                    have q152 : x1_1 < (x0_1.length : Int) := of_decide_eq_true (by first | (with_reducible assumption) | assumption)
                    obtain ⟨ad152, e152, hx152_0⟩ := Kd.at_string (Kd.R_reads' HO_0.out).2.2 x1_1 p152 q152
                    cases e152
                    replace p152 := eq_true p152
                    replace q152 := eq_true q152
                    have p153 : 0 ≤ (a2 : Int) := of_decide_eq_true (by first | (with_reducible assumption) | assumption)
                    have q153 : a2 < (x0_1.length : Int) := of_decide_eq_true (by first | (with_reducible assumption) | assumption)
                    obtain ⟨ad153, e153, hx153_0⟩ := Kd.at_string (Kd.R_reads' HO_0.out).2.2 a2 p153 q153
                    obtain rfl : ad152 = ad153 := (by injection e153)
                    replace p153 := eq_true p153
                    replace q153 := eq_true q153
                    have p154 : 0 ≤ (x1_1 : Int) := of_decide_eq_true (by first | (with_reducible assumption) | assumption)
                    have q154 : x1_1 < (x0_1.length : Int) := of_decide_eq_true (by first | (with_reducible assumption) | assumption)
                    obtain ⟨ad154, e154, hx154_0⟩ := Kd.at_string (Kd.R_reads' HO_0.out).2.2 x1_1 p154 q154
                    obtain rfl : ad152 = ad154 := (by injection e154)
                    replace p154 := eq_true p154
                    replace q154 := eq_true q154
                    have p155 : 0 ≤ (a2 : Int) := of_decide_eq_true (by first | (with_reducible assumption) | assumption)
                    have q155 : a2 < (x0_1.length : Int) := of_decide_eq_true (by first | (with_reducible assumption) | assumption)
                    obtain ⟨ad155, e155, hx155_0⟩ := Kd.at_string (Kd.R_reads' HO_0.out).2.2 a2 p155 q155
                    obtain rfl : ad152 = ad155 := (by injection e155)
                    replace p155 := eq_true p155
                    replace q155 := eq_true q155
                    have p156 : 0 ≤ (x1_1 : Int) := of_decide_eq_true (by first | (with_reducible assumption) | assumption)
                    have q156 : x1_1 < (x0_1.length : Int) := of_decide_eq_true (by first | (with_reducible assumption) | assumption)
                    obtain ⟨ad156, e156, hx156_0⟩ := Kd.at_string (Kd.R_reads' HO_0.out).2.2 x1_1 p156 q156
                    obtain rfl : ad152 = ad156 := (by injection e156)
                    replace p156 := eq_true p156
                    replace q156 := eq_true q156
                    have p157 : 0 ≤ (a2 : Int) := of_decide_eq_true (by first | (with_reducible assumption) | assumption)
                    have q157 : a2 < (x0_1.length : Int) := of_decide_eq_true (by first | (with_reducible assumption) | assumption)
                    obtain ⟨ad157, e157, hx157_0⟩ := Kd.at_string (Kd.R_reads' HO_0.out).2.2 a2 p157 q157
                    obtain rfl : ad152 = ad157 := (by injection e157)
                    replace p157 := eq_true p157
                    replace q157 := eq_true q157
                    have p13 : 0 ≤ (x1_1 : Int) := of_decide_eq_true (by first | (with_reducible assumption) | assumption)
                    have q13 : (x1_1 : Int) < ((x0_1.length : Int) : Int) := of_decide_eq_true (by first | (with_reducible assumption) | assumption)
                    obtain ⟨go13, co13, eo13, gb13, gl13, cl13, HG13⟩ := Kd.R_form HO_0.out (by omega)
                    (first | cases eo13 | (injection eo13 with ea_ en_ ec_; (first | subst ea_ | (injection ea_ with ea_; subst ea_)); subst ec_; clear en_))
                    have GB13 := Aside0.mk gb13
                    have GG13 := Aside0.mk HG13
                    clear gb13 gl13 HG13
                    have HMgo13 := Aside0.mk (show (P0_ go13 ∨ w.heap.size ≤ go13) from (HO_0.out.1 _ rfl))
                    (first | simp only [add_plain] at hx152_0 | skip)
                    (first | simp only [add_plain] at hx153_0 | skip)
                    (first | simp only [add_plain] at hx154_0 | skip)
                    (first | simp only [add_plain] at hx155_0 | skip)
                    (first | simp only [add_plain] at hx156_0 | skip)
                    (first | simp only [add_plain] at hx157_0 | skip)
                    obtain ⟨hx13_0, hf13_0⟩ := Kd.R_celln (⟨#[]⟩ : ByteArray) HO_0.out (x1_1 : Int) p13 q13
                    replace p13 := eq_true p13
                    replace q13 := eq_true q13
                    have HP15 := Kd.R_putg HO_0.out (x1_1 : Int) (rdOf ByteArray.empty x0_1 a2)
                    go_wp2_with (first | ((with_reducible refine gate_store (t := 9) (p := 45) rfl ?_); (try (rw [drewN_self wr]; generalize hq_ : World.drewN wr _ = wr; have n0_ := Aside0.mk (Kd.R_at hq_ HO_0.out); have n1_ := Aside0.mk (kept_at hq_ HK.out); have n2_ := Aside0.mk (below_at hq_ HB.out); clear hq_ HO_0 HK HB; have HO_0 := n0_; have HK := n1_; have HB := n2_; clear n0_ n1_ n2_; (try (have HP15 := Kd.R_putg HO_0.out (x1_1 : Int) (rdOf ByteArray.empty x0_1 a2))); (try clear hx13_0 hf13_0); (try (obtain ⟨hx13_0, hf13_0⟩ := Kd.R_celln (⟨#[]⟩ : ByteArray) HO_0.out (x1_1 : Int) (of_eq_true p13) (of_eq_true q13))))); refine store_event (t := 9) (p := 45) (v := ?vo_w16) (w1 := (wr.setCell ⟨go13, (x1_1 : Int).toNat, none⟩ (.string (rdOf ByteArray.empty x0_1 a2)))) ?hg ?ho ?hn ?hr ?_; (case ho => rfl); (case hg => rfl); (case hn => rfl); (case hr => first | (go_simp; done) | (go_simp; rfl)); intro w16 hw; have hg : wr.grownBy w16 (some go13) := (by rw [hw]; exact HP15.2); have hp_ : Kd.R Kd.string 9 w16 w0.heap.size (fun k_ => (P0_ k_ ∨ w.heap.size ≤ k_)) (.slice (some ⟨go13, 0, none⟩) x0_1.length co14) y158 := (by rw [hw, Ny158.out]; exact HP15.1); clear HP15; have n0_ := Aside0.mk (hp_); have n1_ := Aside0.mk ((by rw [hw]; exact below_set (HB.out) GB13.out : Below w0.heap.size w0 w16)); have n2_ := Aside0.mk (Kept.of_grown (S := (fun k_ => P0_ k_)) hg (by repeat (first | (with_reducible first | exact HK.out | apply Kept.alloc | apply Kept.drewN | apply Kept.drew) | exact HK.out)) (fun k_ e_ => (HO_0.out.1 k_ e_))); clear HO_0; clear HB; clear HK; have HO_0 := n0_; have HB := n1_; have HK := n2_; clear n0_ n1_ n2_; clear hg hw hp_))
                    repeat (go_quiet (first | ((with_reducible refine gate_store (t := 9) (p := 45) rfl ?_); (try (rw [drewN_self wr]; generalize hq_ : World.drewN wr _ = wr; have n0_ := Aside0.mk (Kd.R_at hq_ HO_0.out); have n1_ := Aside0.mk (kept_at hq_ HK.out); have n2_ := Aside0.mk (below_at hq_ HB.out); clear hq_ HO_0 HK HB; have HO_0 := n0_; have HK := n1_; have HB := n2_; clear n0_ n1_ n2_; (try (have HP15 := Kd.R_putg HO_0.out (x1_1 : Int) (rdOf ByteArray.empty x0_1 a2))); (try clear hx13_0 hf13_0); (try (obtain ⟨hx13_0, hf13_0⟩ := Kd.R_celln (⟨#[]⟩ : ByteArray) HO_0.out (x1_1 : Int) (of_eq_true p13) (of_eq_true q13))))); refine store_event (t := 9) (p := 45) (v := ?vo_w16) (w1 := (wr.setCell ⟨go13, (x1_1 : Int).toNat, none⟩ (.string (rdOf ByteArray.empty x0_1 a2)))) ?hg ?ho ?hn ?hr ?_; (case ho => rfl); (case hg => rfl); (case hn => rfl); (case hr => first | (go_simp; done) | (go_simp; rfl)); intro w16 hw; have hg : wr.grownBy w16 (some go13) := (by rw [hw]; exact HP15.2); have hp_ : Kd.R Kd.string 9 w16 w0.heap.size (fun k_ => (P0_ k_ ∨ w.heap.size ≤ k_)) (.slice (some ⟨go13, 0, none⟩) x0_1.length co14) y158 := (by rw [hw, Ny158.out]; exact HP15.1); clear HP15; have n0_ := Aside0.mk (hp_); have n1_ := Aside0.mk ((by rw [hw]; exact below_set (HB.out) GB13.out : Below w0.heap.size w0 w16)); have n2_ := Aside0.mk (Kept.of_grown (S := (fun k_ => P0_ k_)) hg (by repeat (first | (with_reducible first | exact HK.out | apply Kept.alloc | apply Kept.drewN | apply Kept.drew) | exact HK.out)) (fun k_ e_ => (HO_0.out.1 k_ e_))); clear HO_0; clear HB; clear HK; have HO_0 := n0_; have HB := n1_; have HK := n2_; clear n0_ n1_ n2_; clear hg hw hp_)); try go_wp2_with (first | ((with_reducible refine gate_store (t := 9) (p := 45) rfl ?_); (try (rw [drewN_self wr]; generalize hq_ : World.drewN wr _ = wr; have n0_ := Aside0.mk (Kd.R_at hq_ HO_0.out); have n1_ := Aside0.mk (kept_at hq_ HK.out); have n2_ := Aside0.mk (below_at hq_ HB.out); clear hq_ HO_0 HK HB; have HO_0 := n0_; have HK := n1_; have HB := n2_; clear n0_ n1_ n2_; (try (have HP15 := Kd.R_putg HO_0.out (x1_1 : Int) (rdOf ByteArray.empty x0_1 a2))); (try clear hx13_0 hf13_0); (try (obtain ⟨hx13_0, hf13_0⟩ := Kd.R_celln (⟨#[]⟩ : ByteArray) HO_0.out (x1_1 : Int) (of_eq_true p13) (of_eq_true q13))))); refine store_event (t := 9) (p := 45) (v := ?vo_w16) (w1 := (wr.setCell ⟨go13, (x1_1 : Int).toNat, none⟩ (.string (rdOf ByteArray.empty x0_1 a2)))) ?hg ?ho ?hn ?hr ?_; (case ho => rfl); (case hg => rfl); (case hn => rfl); (case hr => first | (go_simp; done) | (go_simp; rfl)); intro w16 hw; have hg : wr.grownBy w16 (some go13) := (by rw [hw]; exact HP15.2); have hp_ : Kd.R Kd.string 9 w16 w0.heap.size (fun k_ => (P0_ k_ ∨ w.heap.size ≤ k_)) (.slice (some ⟨go13, 0, none⟩) x0_1.length co14) y158 := (by rw [hw, Ny158.out]; exact HP15.1); clear HP15; have n0_ := Aside0.mk (hp_); have n1_ := Aside0.mk ((by rw [hw]; exact below_set (HB.out) GB13.out : Below w0.heap.size w0 w16)); have n2_ := Aside0.mk (Kept.of_grown (S := (fun k_ => P0_ k_)) hg (by repeat (first | (with_reducible first | exact HK.out | apply Kept.alloc | apply Kept.drewN | apply Kept.drew) | exact HK.out)) (fun k_ e_ => (HO_0.out.1 k_ e_))); clear HO_0; clear HB; clear HK; have HO_0 := n0_; have HB := n1_; have HK := n2_; clear n0_ n1_ n2_; clear hg hw hp_)))
                    go_loopg [10] k1 (fun kq v10 w' => ∃ (x0_2 : List ByteArray) (x10_2 : Int), v10 = .int .i64 x10_2 ∧ Aside0 (doublestar_sortAndRemoveDups.l1 kq x0_2 x1_1 a2 x3_1 (rdOf ByteArray.empty x0_1 x1_1) x10_2 = some r) ∧ Aside0 (kq ≤ k1) ∧ Aside0 (Kd.R Kd.string 9 w' w0.heap.size (fun k_ => (P0_ k_ ∨ w.heap.size ≤ k_)) (.slice (some ⟨go13, 0, none⟩) x0_1.length co14) x0_2) ∧ Aside0 (Kept w w' (fun k_ => P0_ k_)) ∧ Aside0 (Below w0.heap.size w0 w'))
                    case atStart => exact ⟨(y158), (wrap64 (a2 + 1)), (by first | rfl | (simp; done) | (simp [*]; done)), H', ⟨Nat.le_refl _⟩, ⟨by (with_reducible repeat (first | apply Kd.R_alloc | apply Kd.R_drewN | apply Kd.R_drew)); exact HO_0.out⟩, ⟨by repeat (first | (with_reducible first | exact HK.out | apply Kept.alloc | apply Kept.drewN | apply Kept.drew) | exact HK.out)⟩, ⟨by repeat (first | (with_reducible first | exact HB.out | apply below_alloc | apply pw_below_drewN | apply below_drew1) | exact HB.out)⟩⟩
                    case round =>
                      clear H'
                      try clear c1
                      try clear p1
                      try clear q1
                      try clear hx1
                      try clear p2
                      try clear c4
                      try clear c5
                      try clear c5b0
                      try clear c6
                      try clear c6b0
                      try clear p6
                      try clear c7
                      try clear c7b0
                      try clear c8
                      try clear c8b0
                      try clear c9
                      try clear c9b0
                      try clear c10
                      try clear c10b0
                      try clear c12
                      try clear c12b0
                      try clear p13
                      try clear q13
                      try clear hx13
                      try clear hf13
                      try clear p15
                      try clear q15
                      try clear hx15
                      try clear hx13_0
                      try clear hx152_0
                      try clear hx153_0
                      try clear hx154_0
                      try clear hx155_0
                      try clear hx156_0
                      try clear hx157_0
                      try clear p13
                      try clear p152
                      try clear p153
                      try clear p154
                      try clear p155
                      try clear p156
                      try clear p157
                      try clear p2
                      try clear q13
                      try clear q152
                      try clear q153
                      try clear q154
                      try clear q155
                      try clear q156
                      try clear q157
                      obtain ⟨x0_2, x10_2, rfl, HA, HK2, HO_0, HK, HB⟩ := hrel
                      have hl0_2 := (Kd.R_reads' HO_0.out).1
                      rw [hl0_2] at HO_0
                      (try simp only [hl0_2])
                      cases gk with
                      | zero => exact absurd HA.out (by simp [doublestar_sortAndRemoveDups.l1])
                      | succ k2 =>
                        have H := HA.out
                        clear HA
                        simp only [doublestar_sortAndRemoveDups.l1] at H
                        by_cases c17 : x10_2 < x3_1
                        · rw [if_pos c17] at H
                          have c17b0 : decide (x10_2 < x3_1) = true := decide_eq_true c17
                          clear c17
                          by_cases c18 : 0 ≤ x10_2
                          · rw [if_pos c18] at H
                            have c18b0 : decide (0 ≤ x10_2) = true := decide_eq_true c18
                            clear c18
                            by_cases c19 : x10_2 < (x0_2.length : Int)
                            · rw [if_pos c19] at H
                              have c19b0 : decide (x10_2 < (x0_2.length : Int)) = true := decide_eq_true c19
                              clear c19
                              by_cases c20 : (Op.bytesLess ((rdOf ByteArray.empty x0_2 x10_2).toList) (rdOf ByteArray.empty x0_1 x1_1).toList) = true
                              · rw [if_pos c20] at H
                                have c20b0 : (Op.bytesLess ((rdOf ByteArray.empty x0_2 x10_2).toList) (rdOf ByteArray.empty x0_1 x1_1).toList) = true := c20
                                clear c20
                                obtain ⟨ji21, hji21⟩ : ∃ j_ : Int, (wrap64 (x10_2 - 1)) = j_ := ⟨_, rfl⟩
                                replace H : (if 0 ≤ (ji21) then (if (ji21) < (x0_2.length : Int) then (doublestar_sortAndRemoveDups.l1 k2 (x0_2.set ((ji21) : Int).toNat (rdOf ByteArray.empty x0_2 x10_2)) x1_1 a2 x3_1 (rdOf ByteArray.empty x0_1 x1_1) (wrap64 (x10_2 + 1))) else (none)) else (none)) = some r := by first | (rw [hji21] at H; exact H) | (simp only [hji21] at H ⊢; exact H)
                                have hji21w : (IntKind.i64.wrap (x10_2 - 1)) = ji21 := (i64_w _).trans hji21
                                by_cases c22 : 0 ≤ (ji21)
                                · rw [if_pos c22] at H
                                  have c22b0 : decide (0 ≤ (ji21)) = true := decide_eq_true c22
                                  clear c22
                                  by_cases c23 : (ji21) < (x0_2.length : Int)
                                  · rw [if_pos c23] at H
                                    have c23b0 : decide ((ji21) < (x0_2.length : Int)) = true := decide_eq_true c23
                                    clear c23
                                    obtain ⟨y161, hy161⟩ : ∃ y_ : List ByteArray, y_ = (x0_2.set ((ji21) : Int).toNat (rdOf ByteArray.empty x0_2 x10_2)) := ⟨_, rfl⟩
                                    replace H : (doublestar_sortAndRemoveDups.l1 k2 y161 x1_1 a2 x3_1 (rdOf ByteArray.empty x0_1 x1_1) (wrap64 (x10_2 + 1))) = some r := by first | (rw [hy161]; with_reducible exact H) | (have H2_ := (Option.bind_some _ _).symm.trans H; rw [hy161]; with_reducible exact H2_) | (have H2_ := (Option.bind_some _ _).symm.trans H; with_reducible exact H2_) | with_reducible exact H | (rw [hy161]; exact H) | exact H
                                    have Ny161 := Aside0.mk hy161
                                    clear hy161
                                    have H' := Aside0.mk H
                                    clear H
                                    have p159 : 0 ≤ (x10_2 : Int) := of_decide_eq_true (by first | (with_reducible assumption) | assumption)
                                    have q159 : x10_2 < (x0_2.length : Int) := of_decide_eq_true (by first | (with_reducible assumption) | assumption)
                                    obtain ⟨ad159, e159, hx159_0⟩ := Kd.at_string (Kd.R_reads' HO_0.out).2.2 x10_2 p159 q159
                                    obtain rfl : (⟨go13, 0, none⟩ : Addr) = ad159 := (by injection e159)
                                    (first | simp only [add_plain] at hx159_0 | simp only [add_at] at hx159_0 | simp only [Addr.add, Nat.zero_add] at hx159_0 | skip)
                                    replace p159 := eq_true p159
                                    replace q159 := eq_true q159
                                    have p160 : 0 ≤ (x10_2 : Int) := of_decide_eq_true (by first | (with_reducible assumption) | assumption)
                                    have q160 : x10_2 < (x0_2.length : Int) := of_decide_eq_true (by first | (with_reducible assumption) | assumption)
                                    obtain ⟨ad160, e160, hx160_0⟩ := Kd.at_string (Kd.R_reads' HO_0.out).2.2 x10_2 p160 q160
                                    obtain rfl : (⟨go13, 0, none⟩ : Addr) = ad160 := (by injection e160)
                                    (first | simp only [add_plain] at hx160_0 | simp only [add_at] at hx160_0 | simp only [Addr.add, Nat.zero_add] at hx160_0 | skip)
                                    replace p160 := eq_true p160
                                    replace q160 := eq_true q160
                                    have p24 : 0 ≤ ((ji21) : Int) := of_decide_eq_true (by first | (with_reducible assumption) | assumption)
                                    have q24 : ((ji21) : Int) < ((x0_2.length : Int) : Int) := of_decide_eq_true (by first | (with_reducible assumption) | assumption)
                                    obtain ⟨hx24_0, hf24_0⟩ := Kd.R_celln (⟨#[]⟩ : ByteArray) HO_0.out ((ji21) : Int) p24 q24
                                    replace p24 := eq_true p24
                                    replace q24 := eq_true q24
                                    have HP25 := Kd.R_putg HO_0.out ((ji21) : Int) (rdOf ByteArray.empty x0_2 x10_2)
                                    go_wp2_with (first | ((with_reducible refine gate_store (t := 9) (p := 68) rfl ?_); (try (rw [drewN_self wr]; generalize hq_ : World.drewN wr _ = wr; have n0_ := Aside0.mk (Kd.R_at hq_ HO_0.out); have n1_ := Aside0.mk (kept_at hq_ HK.out); have n2_ := Aside0.mk (below_at hq_ HB.out); clear hq_ HO_0 HK HB; have HO_0 := n0_; have HK := n1_; have HB := n2_; clear n0_ n1_ n2_; (try (have HP25 := Kd.R_putg HO_0.out ((ji21) : Int) (rdOf ByteArray.empty x0_2 x10_2))); (try clear hx24_0 hf24_0); (try (obtain ⟨hx24_0, hf24_0⟩ := Kd.R_celln (⟨#[]⟩ : ByteArray) HO_0.out ((ji21) : Int) (of_eq_true p24) (of_eq_true q24))))); refine store_event (t := 9) (p := 68) (v := ?vo_w26) (w1 := (wr.setCell ⟨go13, ((ji21) : Int).toNat, none⟩ (.string (rdOf ByteArray.empty x0_2 x10_2)))) ?hg ?ho ?hn ?hr ?_; (case ho => rfl); (case hg => rfl); (case hn => rfl); (case hr => first | (go_simp; done) | (go_simp; rfl)); intro w26 hw; have hg : wr.grownBy w26 (some go13) := (by rw [hw]; exact HP25.2); have hp_ : Kd.R Kd.string 9 w26 w0.heap.size (fun k_ => (P0_ k_ ∨ w.heap.size ≤ k_)) (.slice (some ⟨go13, 0, none⟩) x0_2.length co14) y161 := (by rw [hw, Ny161.out]; exact HP25.1); clear HP25; have n0_ := Aside0.mk (hp_); have n1_ := Aside0.mk ((by rw [hw]; exact below_set (HB.out) GB13.out : Below w0.heap.size w0 w26)); have n2_ := Aside0.mk (Kept.of_grown (S := (fun k_ => P0_ k_)) hg (by repeat (first | (with_reducible first | exact HK.out | apply Kept.alloc | apply Kept.drewN | apply Kept.drew) | exact HK.out)) (fun k_ e_ => (HO_0.out.1 k_ e_))); clear HO_0; clear HB; clear HK; have HO_0 := n0_; have HB := n1_; have HK := n2_; clear n0_ n1_ n2_; clear hg hw hp_))
                                    repeat (go_quiet (first | ((with_reducible refine gate_store (t := 9) (p := 68) rfl ?_); (try (rw [drewN_self wr]; generalize hq_ : World.drewN wr _ = wr; have n0_ := Aside0.mk (Kd.R_at hq_ HO_0.out); have n1_ := Aside0.mk (kept_at hq_ HK.out); have n2_ := Aside0.mk (below_at hq_ HB.out); clear hq_ HO_0 HK HB; have HO_0 := n0_; have HK := n1_; have HB := n2_; clear n0_ n1_ n2_; (try (have HP25 := Kd.R_putg HO_0.out ((ji21) : Int) (rdOf ByteArray.empty x0_2 x10_2))); (try clear hx24_0 hf24_0); (try (obtain ⟨hx24_0, hf24_0⟩ := Kd.R_celln (⟨#[]⟩ : ByteArray) HO_0.out ((ji21) : Int) (of_eq_true p24) (of_eq_true q24))))); refine store_event (t := 9) (p := 68) (v := ?vo_w26) (w1 := (wr.setCell ⟨go13, ((ji21) : Int).toNat, none⟩ (.string (rdOf ByteArray.empty x0_2 x10_2)))) ?hg ?ho ?hn ?hr ?_; (case ho => rfl); (case hg => rfl); (case hn => rfl); (case hr => first | (go_simp; done) | (go_simp; rfl)); intro w26 hw; have hg : wr.grownBy w26 (some go13) := (by rw [hw]; exact HP25.2); have hp_ : Kd.R Kd.string 9 w26 w0.heap.size (fun k_ => (P0_ k_ ∨ w.heap.size ≤ k_)) (.slice (some ⟨go13, 0, none⟩) x0_2.length co14) y161 := (by rw [hw, Ny161.out]; exact HP25.1); clear HP25; have n0_ := Aside0.mk (hp_); have n1_ := Aside0.mk ((by rw [hw]; exact below_set (HB.out) GB13.out : Below w0.heap.size w0 w26)); have n2_ := Aside0.mk (Kept.of_grown (S := (fun k_ => P0_ k_)) hg (by repeat (first | (with_reducible first | exact HK.out | apply Kept.alloc | apply Kept.drewN | apply Kept.drew) | exact HK.out)) (fun k_ e_ => (HO_0.out.1 k_ e_))); clear HO_0; clear HB; clear HK; have HO_0 := n0_; have HB := n1_; have HK := n2_; clear n0_ n1_ n2_; clear hg hw hp_)); try go_wp2_with (first | ((with_reducible refine gate_store (t := 9) (p := 68) rfl ?_); (try (rw [drewN_self wr]; generalize hq_ : World.drewN wr _ = wr; have n0_ := Aside0.mk (Kd.R_at hq_ HO_0.out); have n1_ := Aside0.mk (kept_at hq_ HK.out); have n2_ := Aside0.mk (below_at hq_ HB.out); clear hq_ HO_0 HK HB; have HO_0 := n0_; have HK := n1_; have HB := n2_; clear n0_ n1_ n2_; (try (have HP25 := Kd.R_putg HO_0.out ((ji21) : Int) (rdOf ByteArray.empty x0_2 x10_2))); (try clear hx24_0 hf24_0); (try (obtain ⟨hx24_0, hf24_0⟩ := Kd.R_celln (⟨#[]⟩ : ByteArray) HO_0.out ((ji21) : Int) (of_eq_true p24) (of_eq_true q24))))); refine store_event (t := 9) (p := 68) (v := ?vo_w26) (w1 := (wr.setCell ⟨go13, ((ji21) : Int).toNat, none⟩ (.string (rdOf ByteArray.empty x0_2 x10_2)))) ?hg ?ho ?hn ?hr ?_; (case ho => rfl); (case hg => rfl); (case hn => rfl); (case hr => first | (go_simp; done) | (go_simp; rfl)); intro w26 hw; have hg : wr.grownBy w26 (some go13) := (by rw [hw]; exact HP25.2); have hp_ : Kd.R Kd.string 9 w26 w0.heap.size (fun k_ => (P0_ k_ ∨ w.heap.size ≤ k_)) (.slice (some ⟨go13, 0, none⟩) x0_2.length co14) y161 := (by rw [hw, Ny161.out]; exact HP25.1); clear HP25; have n0_ := Aside0.mk (hp_); have n1_ := Aside0.mk ((by rw [hw]; exact below_set (HB.out) GB13.out : Below w0.heap.size w0 w26)); have n2_ := Aside0.mk (Kept.of_grown (S := (fun k_ => P0_ k_)) hg (by repeat (first | (with_reducible first | exact HK.out | apply Kept.alloc | apply Kept.drewN | apply Kept.drew) | exact HK.out)) (fun k_ e_ => (HO_0.out.1 k_ e_))); clear HO_0; clear HB; clear HK; have HO_0 := n0_; have HB := n1_; have HK := n2_; clear n0_ n1_ n2_; clear hg hw hp_)))
                                    (try simp only [← hl0_2])
                                    go_roundg k2
                                    case measure => have := HK1.out; have := HK2.out; omega
                                    case rel => exact ⟨(y161), (wrap64 (x10_2 + 1)), (by first | rfl | (simp; done) | (simp [*]; done)), H', ⟨by have := HK1.out; have := HK2.out; omega⟩, ⟨by (try simp only [hl0_2]); (with_reducible repeat (first | apply Kd.R_alloc | apply Kd.R_drewN | apply Kd.R_drew)); exact HO_0.out⟩, ⟨by repeat (first | (with_reducible first | exact HK.out | apply Kept.alloc | apply Kept.drewN | apply Kept.drew) | exact HK.out)⟩, ⟨by repeat (first | (with_reducible first | exact HB.out | apply below_alloc | apply pw_below_drewN | apply below_drew1) | exact HB.out)⟩⟩
                                  · rw [if_neg c23] at H
                                    exact absurd H (by simp)
                                · rw [if_neg c22] at H
                                  exact absurd H (by simp)
                              · rw [if_neg c20] at H
                                have c20b0 : (Op.bytesLess ((rdOf ByteArray.empty x0_2 x10_2).toList) (rdOf ByteArray.empty x0_1 x1_1).toList) = false := by simpa using c20
                                clear c20
                                obtain ⟨ji27, hji27⟩ : ∃ j_ : Int, (wrap64 (x10_2 - 1)) = j_ := ⟨_, rfl⟩
                                replace H : (if 0 ≤ (ji27) then (if (ji27) < (x0_2.length : Int) then (doublestar_sortAndRemoveDups.l0 k2 (x0_2.set ((ji27) : Int).toNat (rdOf ByteArray.empty x0_1 x1_1)) (wrap64 (x1_1 + 1)) a2 x3_1) else (none)) else (none)) = some r := by first | (rw [hji27] at H; exact H) | (simp only [hji27] at H ⊢; exact H)
                                have hji27w : (IntKind.i64.wrap (x10_2 - 1)) = ji27 := (i64_w _).trans hji27
                                by_cases c28 : 0 ≤ (ji27)
                                · rw [if_pos c28] at H
                                  have c28b0 : decide (0 ≤ (ji27)) = true := decide_eq_true c28
                                  clear c28
                                  by_cases c29 : (ji27) < (x0_2.length : Int)
                                  · rw [if_pos c29] at H
                                    have c29b0 : decide ((ji27) < (x0_2.length : Int)) = true := decide_eq_true c29
                                    clear c29
                                    obtain ⟨y162, hy162⟩ : ∃ y_ : List ByteArray, y_ = (x0_2.set ((ji27) : Int).toNat (rdOf ByteArray.empty x0_1 x1_1)) := ⟨_, rfl⟩
                                    replace H : (doublestar_sortAndRemoveDups.l0 k2 y162 (wrap64 (x1_1 + 1)) a2 x3_1) = some r := by first | (rw [hy162]; with_reducible exact H) | (have H2_ := (Option.bind_some _ _).symm.trans H; rw [hy162]; with_reducible exact H2_) | (have H2_ := (Option.bind_some _ _).symm.trans H; with_reducible exact H2_) | with_reducible exact H | (rw [hy162]; exact H) | exact H
                                    have Ny162 := Aside0.mk hy162
                                    clear hy162
                                    have H' := Aside0.mk H
                                    clear H
                                    have p159 : 0 ≤ (x10_2 : Int) := of_decide_eq_true (by first | (with_reducible assumption) | assumption)
                                    have q159 : x10_2 < (x0_2.length : Int) := of_decide_eq_true (by first | (with_reducible assumption) | assumption)
                                    obtain ⟨ad159, e159, hx159_0⟩ := Kd.at_string (Kd.R_reads' HO_0.out).2.2 x10_2 p159 q159
                                    obtain rfl : (⟨go13, 0, none⟩ : Addr) = ad159 := (by injection e159)
                                    (first | simp only [add_plain] at hx159_0 | simp only [add_at] at hx159_0 | simp only [Addr.add, Nat.zero_add] at hx159_0 | skip)
                                    replace p159 := eq_true p159
                                    replace q159 := eq_true q159
                                    have p30 : 0 ≤ ((ji27) : Int) := of_decide_eq_true (by first | (with_reducible assumption) | assumption)
                                    have q30 : ((ji27) : Int) < ((x0_2.length : Int) : Int) := of_decide_eq_true (by first | (with_reducible assumption) | assumption)
                                    obtain ⟨hx30_0, hf30_0⟩ := Kd.R_celln (⟨#[]⟩ : ByteArray) HO_0.out ((ji27) : Int) p30 q30
                                    replace p30 := eq_true p30
                                    replace q30 := eq_true q30
                                    have HP31 := Kd.R_putg HO_0.out ((ji27) : Int) (rdOf ByteArray.empty x0_1 x1_1)
                                    go_wp2_with (first | ((with_reducible refine gate_store (t := 9) (p := 73) rfl ?_); (try (rw [drewN_self wr]; generalize hq_ : World.drewN wr _ = wr; have n0_ := Aside0.mk (Kd.R_at hq_ HO_0.out); have n1_ := Aside0.mk (kept_at hq_ HK.out); have n2_ := Aside0.mk (below_at hq_ HB.out); clear hq_ HO_0 HK HB; have HO_0 := n0_; have HK := n1_; have HB := n2_; clear n0_ n1_ n2_; (try (have HP31 := Kd.R_putg HO_0.out ((ji27) : Int) (rdOf ByteArray.empty x0_1 x1_1))); (try clear hx30_0 hf30_0); (try (obtain ⟨hx30_0, hf30_0⟩ := Kd.R_celln (⟨#[]⟩ : ByteArray) HO_0.out ((ji27) : Int) (of_eq_true p30) (of_eq_true q30))))); refine store_event (t := 9) (p := 73) (v := ?vo_w32) (w1 := (wr.setCell ⟨go13, ((ji27) : Int).toNat, none⟩ (.string (rdOf ByteArray.empty x0_1 x1_1)))) ?hg ?ho ?hn ?hr ?_; (case ho => rfl); (case hg => rfl); (case hn => rfl); (case hr => first | (go_simp; done) | (go_simp; rfl)); intro w32 hw; have hg : wr.grownBy w32 (some go13) := (by rw [hw]; exact HP31.2); have hp_ : Kd.R Kd.string 9 w32 w0.heap.size (fun k_ => (P0_ k_ ∨ w.heap.size ≤ k_)) (.slice (some ⟨go13, 0, none⟩) x0_2.length co14) y162 := (by rw [hw, Ny162.out]; exact HP31.1); clear HP31; have n0_ := Aside0.mk (hp_); have n1_ := Aside0.mk ((by rw [hw]; exact below_set (HB.out) GB13.out : Below w0.heap.size w0 w32)); have n2_ := Aside0.mk (Kept.of_grown (S := (fun k_ => P0_ k_)) hg (by repeat (first | (with_reducible first | exact HK.out | apply Kept.alloc | apply Kept.drewN | apply Kept.drew) | exact HK.out)) (fun k_ e_ => (HO_0.out.1 k_ e_))); clear HO_0; clear HB; clear HK; have HO_0 := n0_; have HB := n1_; have HK := n2_; clear n0_ n1_ n2_; clear hg hw hp_))
                                    repeat (go_quiet (first | ((with_reducible refine gate_store (t := 9) (p := 73) rfl ?_); (try (rw [drewN_self wr]; generalize hq_ : World.drewN wr _ = wr; have n0_ := Aside0.mk (Kd.R_at hq_ HO_0.out); have n1_ := Aside0.mk (kept_at hq_ HK.out); have n2_ := Aside0.mk (below_at hq_ HB.out); clear hq_ HO_0 HK HB; have HO_0 := n0_; have HK := n1_; have HB := n2_; clear n0_ n1_ n2_; (try (have HP31 := Kd.R_putg HO_0.out ((ji27) : Int) (rdOf ByteArray.empty x0_1 x1_1))); (try clear hx30_0 hf30_0); (try (obtain ⟨hx30_0, hf30_0⟩ := Kd.R_celln (⟨#[]⟩ : ByteArray) HO_0.out ((ji27) : Int) (of_eq_true p30) (of_eq_true q30))))); refine store_event (t := 9) (p := 73) (v := ?vo_w32) (w1 := (wr.setCell ⟨go13, ((ji27) : Int).toNat, none⟩ (.string (rdOf ByteArray.empty x0_1 x1_1)))) ?hg ?ho ?hn ?hr ?_; (case ho => rfl); (case hg => rfl); (case hn => rfl); (case hr => first | (go_simp; done) | (go_simp; rfl)); intro w32 hw; have hg : wr.grownBy w32 (some go13) := (by rw [hw]; exact HP31.2); have hp_ : Kd.R Kd.string 9 w32 w0.heap.size (fun k_ => (P0_ k_ ∨ w.heap.size ≤ k_)) (.slice (some ⟨go13, 0, none⟩) x0_2.length co14) y162 := (by rw [hw, Ny162.out]; exact HP31.1); clear HP31; have n0_ := Aside0.mk (hp_); have n1_ := Aside0.mk ((by rw [hw]; exact below_set (HB.out) GB13.out : Below w0.heap.size w0 w32)); have n2_ := Aside0.mk (Kept.of_grown (S := (fun k_ => P0_ k_)) hg (by repeat (first | (with_reducible first | exact HK.out | apply Kept.alloc | apply Kept.drewN | apply Kept.drew) | exact HK.out)) (fun k_ e_ => (HO_0.out.1 k_ e_))); clear HO_0; clear HB; clear HK; have HO_0 := n0_; have HB := n1_; have HK := n2_; clear n0_ n1_ n2_; clear hg hw hp_)); try go_wp2_with (first | ((with_reducible refine gate_store (t := 9) (p := 73) rfl ?_); (try (rw [drewN_self wr]; generalize hq_ : World.drewN wr _ = wr; have n0_ := Aside0.mk (Kd.R_at hq_ HO_0.out); have n1_ := Aside0.mk (kept_at hq_ HK.out); have n2_ := Aside0.mk (below_at hq_ HB.out); clear hq_ HO_0 HK HB; have HO_0 := n0_; have HK := n1_; have HB := n2_; clear n0_ n1_ n2_; (try (have HP31 := Kd.R_putg HO_0.out ((ji27) : Int) (rdOf ByteArray.empty x0_1 x1_1))); (try clear hx30_0 hf30_0); (try (obtain ⟨hx30_0, hf30_0⟩ := Kd.R_celln (⟨#[]⟩ : ByteArray) HO_0.out ((ji27) : Int) (of_eq_true p30) (of_eq_true q30))))); refine store_event (t := 9) (p := 73) (v := ?vo_w32) (w1 := (wr.setCell ⟨go13, ((ji27) : Int).toNat, none⟩ (.string (rdOf ByteArray.empty x0_1 x1_1)))) ?hg ?ho ?hn ?hr ?_; (case ho => rfl); (case hg => rfl); (case hn => rfl); (case hr => first | (go_simp; done) | (go_simp; rfl)); intro w32 hw; have hg : wr.grownBy w32 (some go13) := (by rw [hw]; exact HP31.2); have hp_ : Kd.R Kd.string 9 w32 w0.heap.size (fun k_ => (P0_ k_ ∨ w.heap.size ≤ k_)) (.slice (some ⟨go13, 0, none⟩) x0_2.length co14) y162 := (by rw [hw, Ny162.out]; exact HP31.1); clear HP31; have n0_ := Aside0.mk (hp_); have n1_ := Aside0.mk ((by rw [hw]; exact below_set (HB.out) GB13.out : Below w0.heap.size w0 w32)); have n2_ := Aside0.mk (Kept.of_grown (S := (fun k_ => P0_ k_)) hg (by repeat (first | (with_reducible first | exact HK.out | apply Kept.alloc | apply Kept.drewN | apply Kept.drew) | exact HK.out)) (fun k_ e_ => (HO_0.out.1 k_ e_))); clear HO_0; clear HB; clear HK; have HO_0 := n0_; have HB := n1_; have HK := n2_; clear n0_ n1_ n2_; clear hg hw hp_)))
                                    (try simp only [← hl0_2])
                                    go_roundg k2
                                    case measure => have := HK1.out; have := HK2.out; omega
                                    case rel => exact ⟨(y162), (wrap64 (x1_1 + 1)), (x3_1), (by first | rfl | (simp; done) | (simp [*]; done)), (by first | rfl | (simp; done) | (simp [*]; done)), H', ⟨by have := HK1.out; have := HK2.out; omega⟩, ⟨by (try simp only [hl0_2]); (with_reducible repeat (first | apply Kd.R_alloc | apply Kd.R_drewN | apply Kd.R_drew)); exact HO_0.out⟩, ⟨by repeat (first | (with_reducible first | exact HK.out | apply Kept.alloc | apply Kept.drewN | apply Kept.drew) | exact HK.out)⟩, ⟨by repeat (first | (with_reducible first | exact HB.out | apply below_alloc | apply pw_below_drewN | apply below_drew1) | exact HB.out)⟩⟩
                                  · rw [if_neg c29] at H
                                    exact absurd H (by simp)
                                · rw [if_neg c28] at H
                                  exact absurd H (by simp)
                            · rw [if_neg c19] at H
                              exact absurd H (by simp)
                          · rw [if_neg c18] at H
                            exact absurd H (by simp)
                        · rw [if_neg c17] at H
                          have c17b0 : decide (x10_2 < x3_1) = false := decide_eq_false c17
                          clear c17
                          obtain ⟨ji33, hji33⟩ : ∃ j_ : Int, (wrap64 (x10_2 - 1)) = j_ := ⟨_, rfl⟩
                          replace H : (if 0 ≤ (ji33) then (if (ji33) < (x0_2.length : Int) then (doublestar_sortAndRemoveDups.l0 k2 (x0_2.set ((ji33) : Int).toNat (rdOf ByteArray.empty x0_1 x1_1)) (wrap64 (x1_1 + 1)) a2 x3_1) else (none)) else (none)) = some r := by first | (rw [hji33] at H; exact H) | (simp only [hji33] at H ⊢; exact H)
                          have hji33w : (IntKind.i64.wrap (x10_2 - 1)) = ji33 := (i64_w _).trans hji33
                          by_cases c34 : 0 ≤ (ji33)
                          · rw [if_pos c34] at H
                            have c34b0 : decide (0 ≤ (ji33)) = true := decide_eq_true c34
                            clear c34
                            by_cases c35 : (ji33) < (x0_2.length : Int)
                            · rw [if_pos c35] at H
                              have c35b0 : decide ((ji33) < (x0_2.length : Int)) = true := decide_eq_true c35
                              clear c35
                              obtain ⟨y163, hy163⟩ : ∃ y_ : List ByteArray, y_ = (x0_2.set ((ji33) : Int).toNat (rdOf ByteArray.empty x0_1 x1_1)) := ⟨_, rfl⟩
                              replace H : (doublestar_sortAndRemoveDups.l0 k2 y163 (wrap64 (x1_1 + 1)) a2 x3_1) = some r := by first | (rw [hy163]; with_reducible exact H) | (have H2_ := (Option.bind_some _ _).symm.trans H; rw [hy163]; with_reducible exact H2_) | (have H2_ := (Option.bind_some _ _).symm.trans H; with_reducible exact H2_) | with_reducible exact H | (rw [hy163]; exact H) | exact H
                              have Ny163 := Aside0.mk hy163
                              clear hy163
                              have H' := Aside0.mk H
                              clear H
                              have p36 : 0 ≤ ((ji33) : Int) := of_decide_eq_true (by first | (with_reducible assumption) | assumption)
                              have q36 : ((ji33) : Int) < ((x0_2.length : Int) : Int) := of_decide_eq_true (by first | (with_reducible assumption) | assumption)
                              obtain ⟨hx36_0, hf36_0⟩ := Kd.R_celln (⟨#[]⟩ : ByteArray) HO_0.out ((ji33) : Int) p36 q36
                              replace p36 := eq_true p36
                              replace q36 := eq_true q36
                              have HP37 := Kd.R_putg HO_0.out ((ji33) : Int) (rdOf ByteArray.empty x0_1 x1_1)
                              go_wp2_with (first | ((with_reducible refine gate_store (t := 9) (p := 73) rfl ?_); (try (rw [drewN_self wr]; generalize hq_ : World.drewN wr _ = wr; have n0_ := Aside0.mk (Kd.R_at hq_ HO_0.out); have n1_ := Aside0.mk (kept_at hq_ HK.out); have n2_ := Aside0.mk (below_at hq_ HB.out); clear hq_ HO_0 HK HB; have HO_0 := n0_; have HK := n1_; have HB := n2_; clear n0_ n1_ n2_; (try (have HP37 := Kd.R_putg HO_0.out ((ji33) : Int) (rdOf ByteArray.empty x0_1 x1_1))); (try clear hx36_0 hf36_0); (try (obtain ⟨hx36_0, hf36_0⟩ := Kd.R_celln (⟨#[]⟩ : ByteArray) HO_0.out ((ji33) : Int) (of_eq_true p36) (of_eq_true q36))))); refine store_event (t := 9) (p := 73) (v := ?vo_w38) (w1 := (wr.setCell ⟨go13, ((ji33) : Int).toNat, none⟩ (.string (rdOf ByteArray.empty x0_1 x1_1)))) ?hg ?ho ?hn ?hr ?_; (case ho => rfl); (case hg => rfl); (case hn => rfl); (case hr => first | (go_simp; done) | (go_simp; rfl)); intro w38 hw; have hg : wr.grownBy w38 (some go13) := (by rw [hw]; exact HP37.2); have hp_ : Kd.R Kd.string 9 w38 w0.heap.size (fun k_ => (P0_ k_ ∨ w.heap.size ≤ k_)) (.slice (some ⟨go13, 0, none⟩) x0_2.length co14) y163 := (by rw [hw, Ny163.out]; exact HP37.1); clear HP37; have n0_ := Aside0.mk (hp_); have n1_ := Aside0.mk ((by rw [hw]; exact below_set (HB.out) GB13.out : Below w0.heap.size w0 w38)); have n2_ := Aside0.mk (Kept.of_grown (S := (fun k_ => P0_ k_)) hg (by repeat (first | (with_reducible first | exact HK.out | apply Kept.alloc | apply Kept.drewN | apply Kept.drew) | exact HK.out)) (fun k_ e_ => (HO_0.out.1 k_ e_))); clear HO_0; clear HB; clear HK; have HO_0 := n0_; have HB := n1_; have HK := n2_; clear n0_ n1_ n2_; clear hg hw hp_))
                              repeat (go_quiet (first | ((with_reducible refine gate_store (t := 9) (p := 73) rfl ?_); (try (rw [drewN_self wr]; generalize hq_ : World.drewN wr _ = wr; have n0_ := Aside0.mk (Kd.R_at hq_ HO_0.out); have n1_ := Aside0.mk (kept_at hq_ HK.out); have n2_ := Aside0.mk (below_at hq_ HB.out); clear hq_ HO_0 HK HB; have HO_0 := n0_; have HK := n1_; have HB := n2_; clear n0_ n1_ n2_; (try (have HP37 := Kd.R_putg HO_0.out ((ji33) : Int) (rdOf ByteArray.empty x0_1 x1_1))); (try clear hx36_0 hf36_0); (try (obtain ⟨hx36_0, hf36_0⟩ := Kd.R_celln (⟨#[]⟩ : ByteArray) HO_0.out ((ji33) : Int) (of_eq_true p36) (of_eq_true q36))))); refine store_event (t := 9) (p := 73) (v := ?vo_w38) (w1 := (wr.setCell ⟨go13, ((ji33) : Int).toNat, none⟩ (.string (rdOf ByteArray.empty x0_1 x1_1)))) ?hg ?ho ?hn ?hr ?_; (case ho => rfl); (case hg => rfl); (case hn => rfl); (case hr => first | (go_simp; done) | (go_simp; rfl)); intro w38 hw; have hg : wr.grownBy w38 (some go13) := (by rw [hw]; exact HP37.2); have hp_ : Kd.R Kd.string 9 w38 w0.heap.size (fun k_ => (P0_ k_ ∨ w.heap.size ≤ k_)) (.slice (some ⟨go13, 0, none⟩) x0_2.length co14) y163 := (by rw [hw, Ny163.out]; exact HP37.1); clear HP37; have n0_ := Aside0.mk (hp_); have n1_ := Aside0.mk ((by rw [hw]; exact below_set (HB.out) GB13.out : Below w0.heap.size w0 w38)); have n2_ := Aside0.mk (Kept.of_grown (S := (fun k_ => P0_ k_)) hg (by repeat (first | (with_reducible first | exact HK.out | apply Kept.alloc | apply Kept.drewN | apply Kept.drew) | exact HK.out)) (fun k_ e_ => (HO_0.out.1 k_ e_))); clear HO_0; clear HB; clear HK; have HO_0 := n0_; have HB := n1_; have HK := n2_; clear n0_ n1_ n2_; clear hg hw hp_)); try go_wp2_with (first | ((with_reducible refine gate_store (t := 9) (p := 73) rfl ?_); (try (rw [drewN_self wr]; generalize hq_ : World.drewN wr _ = wr; have n0_ := Aside0.mk (Kd.R_at hq_ HO_0.out); have n1_ := Aside0.mk (kept_at hq_ HK.out); have n2_ := Aside0.mk (below_at hq_ HB.out); clear hq_ HO_0 HK HB; have HO_0 := n0_; have HK := n1_; have HB := n2_; clear n0_ n1_ n2_; (try (have HP37 := Kd.R_putg HO_0.out ((ji33) : Int) (rdOf ByteArray.empty x0_1 x1_1))); (try clear hx36_0 hf36_0); (try (obtain ⟨hx36_0, hf36_0⟩ := Kd.R_celln (⟨#[]⟩ : ByteArray) HO_0.out ((ji33) : Int) (of_eq_true p36) (of_eq_true q36))))); refine store_event (t := 9) (p := 73) (v := ?vo_w38) (w1 := (wr.setCell ⟨go13, ((ji33) : Int).toNat, none⟩ (.string (rdOf ByteArray.empty x0_1 x1_1)))) ?hg ?ho ?hn ?hr ?_; (case ho => rfl); (case hg => rfl); (case hn => rfl); (case hr => first | (go_simp; done) | (go_simp; rfl)); intro w38 hw; have hg : wr.grownBy w38 (some go13) := (by rw [hw]; exact HP37.2); have hp_ : Kd.R Kd.string 9 w38 w0.heap.size (fun k_ => (P0_ k_ ∨ w.heap.size ≤ k_)) (.slice (some ⟨go13, 0, none⟩) x0_2.length co14) y163 := (by rw [hw, Ny163.out]; exact HP37.1); clear HP37; have n0_ := Aside0.mk (hp_); have n1_ := Aside0.mk ((by rw [hw]; exact below_set (HB.out) GB13.out : Below w0.heap.size w0 w38)); have n2_ := Aside0.mk (Kept.of_grown (S := (fun k_ => P0_ k_)) hg (by repeat (first | (with_reducible first | exact HK.out | apply Kept.alloc | apply Kept.drewN | apply Kept.drew) | exact HK.out)) (fun k_ e_ => (HO_0.out.1 k_ e_))); clear HO_0; clear HB; clear HK; have HO_0 := n0_; have HB := n1_; have HK := n2_; clear n0_ n1_ n2_; clear hg hw hp_)))
                              (try simp only [← hl0_2])
                              go_roundg k2
                              case measure => have := HK1.out; have := HK2.out; omega
                              case rel => exact ⟨(y163), (wrap64 (x1_1 + 1)), (x3_1), (by first | rfl | (simp; done) | (simp [*]; done)), (by first | rfl | (simp; done) | (simp [*]; done)), H', ⟨by have := HK1.out; have := HK2.out; omega⟩, ⟨by (try simp only [hl0_2]); (with_reducible repeat (first | apply Kd.R_alloc | apply Kd.R_drewN | apply Kd.R_drew)); exact HO_0.out⟩, ⟨by repeat (first | (with_reducible first | exact HK.out | apply Kept.alloc | apply Kept.drewN | apply Kept.drew) | exact HK.out)⟩, ⟨by repeat (first | (with_reducible first | exact HB.out | apply below_alloc | apply pw_below_drewN | apply below_drew1) | exact HB.out)⟩⟩
                            · rw [if_neg c35] at H
                              exact absurd H (by simp)
                          · rw [if_neg c34] at H
                            exact absurd H (by simp)
                  · rw [if_neg c12] at H
                    have c12b0 : (Op.bytesLess ((rdOf ByteArray.empty x0_1 a2).toList) ((rdOf ByteArray.empty x0_1 x1_1).toList)) = false := by simpa using c12
                    have c12e : (((rdOf ByteArray.empty x0_1 x1_1).toList) == ((rdOf ByteArray.empty x0_1 a2).toList)) = true := beq_iff_eq.2 (bl_eq c10b0 c12b0)
                    clear c12
                    have H' := Aside0.mk H
                    clear H
                    obtain ⟨Ao39, co39, eo39⟩ := Kd.R_slice HO_0.out
                    subst eo39
                    have p152 : 0 ≤ (x1_1 : Int) := of_decide_eq_true (by first | (with_reducible assumption) | assumption)
                    have q152 : x1_1 < (x0_1.length : Int) := of_decide_eq_true (by first | (with_reducible assumption) | assumption)
                    obtain ⟨ad152, e152, hx152_0⟩ := Kd.at_string (Kd.R_reads' HO_0.out).2.2 x1_1 p152 q152
                    cases e152
                    replace p152 := eq_true p152
                    replace q152 := eq_true q152
                    have p153 : 0 ≤ (a2 : Int) := of_decide_eq_true (by first | (with_reducible assumption) | assumption)
                    have q153 : a2 < (x0_1.length : Int) := of_decide_eq_true (by first | (with_reducible assumption) | assumption)
                    obtain ⟨ad153, e153, hx153_0⟩ := Kd.at_string (Kd.R_reads' HO_0.out).2.2 a2 p153 q153
                    obtain rfl : ad152 = ad153 := (by injection e153)
                    replace p153 := eq_true p153
                    replace q153 := eq_true q153
                    have p154 : 0 ≤ (x1_1 : Int) := of_decide_eq_true (by first | (with_reducible assumption) | assumption)
                    have q154 : x1_1 < (x0_1.length : Int) := of_decide_eq_true (by first | (with_reducible assumption) | assumption)
                    obtain ⟨ad154, e154, hx154_0⟩ := Kd.at_string (Kd.R_reads' HO_0.out).2.2 x1_1 p154 q154
                    obtain rfl : ad152 = ad154 := (by injection e154)
                    replace p154 := eq_true p154
                    replace q154 := eq_true q154
                    have p155 : 0 ≤ (a2 : Int) := of_decide_eq_true (by first | (with_reducible assumption) | assumption)
                    have q155 : a2 < (x0_1.length : Int) := of_decide_eq_true (by first | (with_reducible assumption) | assumption)
                    obtain ⟨ad155, e155, hx155_0⟩ := Kd.at_string (Kd.R_reads' HO_0.out).2.2 a2 p155 q155
                    obtain rfl : ad152 = ad155 := (by injection e155)
                    replace p155 := eq_true p155
                    replace q155 := eq_true q155
                    have hps_ : 0 < x0_1.length := by have h1 := of_eq_true q152; have h2 := of_eq_true p152; omega
                    obtain ⟨go99, co99, eo99, gb99, gl99, cl99, HG99⟩ := Kd.R_form HO_0.out hps_
                    injection eo99 with ea_ en_ ec_
                    injection ea_ with ea_
                    subst ea_
                    clear en_ ec_ gb99 gl99 HG99 hps_
                    simp only [add_plain] at hx152_0 hx153_0 hx154_0 hx155_0
                    go_wp2
                    repeat (go_quiet (fail); try go_wp2)
                    go_loopg [11] k1 (fun kq v11 w' => ∃ (x0_2 : List ByteArray) (x11_2 : Int), v11 = .int .i64 x11_2 ∧ Aside0 (doublestar_sortAndRemoveDups.l2 kq x0_2 x1_1 a2 x3_1 x11_2 = some r) ∧ Aside0 (kq ≤ k1) ∧ Aside0 (Kd.R Kd.string 9 w' w0.heap.size (fun k_ => (P0_ k_ ∨ w.heap.size ≤ k_)) (.slice (some (⟨go99, 0, none⟩ : Addr)) x0_1.length co39) x0_2) ∧ Aside0 (Kept w w' (fun k_ => P0_ k_)) ∧ Aside0 (Below w0.heap.size w0 w'))
                    case atStart => exact ⟨(x0_1), (wrap64 (a2 + 1)), (by first | rfl | (simp; done) | (simp [*]; done)), H', ⟨Nat.le_refl _⟩, ⟨by (with_reducible repeat (first | apply Kd.R_alloc | apply Kd.R_drewN | apply Kd.R_drew)); exact HO_0.out⟩, ⟨by repeat (first | (with_reducible first | exact HK.out | apply Kept.alloc | apply Kept.drewN | apply Kept.drew) | exact HK.out)⟩, ⟨by repeat (first | (with_reducible first | exact HB.out | apply below_alloc | apply pw_below_drewN | apply below_drew1) | exact HB.out)⟩⟩
                    case round =>
                      clear H'
                      try clear c1
                      try clear p1
                      try clear q1
                      try clear hx1
                      try clear c2
                      try clear p2
                      try clear q2
                      try clear hx2
                      try clear c3
                      try clear p3
                      try clear q3
                      try clear hx3
                      try clear c4
                      try clear c5
                      try clear c5b0
                      try clear c6
                      try clear c6b0
                      try clear p6
                      try clear c7
                      try clear c7b0
                      try clear c8
                      try clear c8b0
                      try clear c9
                      try clear c9b0
                      try clear c10
                      try clear c10b0
                      try clear c12
                      try clear c12b0
                      try clear p13
                      try clear q13
                      try clear hx13
                      try clear hf13
                      try clear p15
                      try clear q15
                      try clear hx15
                      try clear p16
                      try clear q16
                      try clear hx16
                      try clear c17
                      try clear c17b0
                      try clear c18
                      try clear c18b0
                      try clear c19
                      try clear c19b0
                      try clear c20
                      try clear c20b0
                      try clear c22
                      try clear c22b0
                      try clear c23
                      try clear c23b0
                      try clear p24
                      try clear q24
                      try clear hx24
                      try clear hf24
                      try clear c28
                      try clear c28b0
                      try clear c29
                      try clear c29b0
                      try clear p30
                      try clear q30
                      try clear hx30
                      try clear hf30
                      try clear c34
                      try clear c34b0
                      try clear c35
                      try clear c35b0
                      try clear p36
                      try clear q36
                      try clear hx36
                      try clear hf36
                      try clear hx13_0
                      try clear hx152_0
                      try clear hx153_0
                      try clear hx154_0
                      try clear hx155_0
                      try clear hx156_0
                      try clear hx157_0
                      try clear hx159_0
                      try clear hx160_0
                      try clear hx24_0
                      try clear hx30_0
                      try clear hx36_0
                      try clear p1
                      try clear p13
                      try clear p15
                      try clear p152
                      try clear p153
                      try clear p154
                      try clear p155
                      try clear p156
                      try clear p157
                      try clear p159
                      try clear p160
                      try clear p2
                      try clear p24
                      try clear p30
                      try clear p36
                      try clear p6
                      try clear q1
                      try clear q13
                      try clear q15
                      try clear q152
                      try clear q153
                      try clear q154
                      try clear q155
                      try clear q156
                      try clear q157
                      try clear q159
                      try clear q160
                      try clear q24
                      try clear q30
                      try clear q36
                      obtain ⟨x0_2, x11_2, rfl, HA, HK2, HO_0, HK, HB⟩ := hrel
                      have hl0_2 := (Kd.R_reads' HO_0.out).1
                      rw [hl0_2] at HO_0
                      (try simp only [hl0_2])
                      cases gk with
                      | zero => exact absurd HA.out (by simp [doublestar_sortAndRemoveDups.l2])
                      | succ k2 =>
                        have H := HA.out
                        clear HA
                        simp only [doublestar_sortAndRemoveDups.l2] at H
                        by_cases c40 : x11_2 < x3_1
                        · rw [if_pos c40] at H
                          have c40b0 : decide (x11_2 < x3_1) = true := decide_eq_true c40
                          clear c40
                          by_cases c41 : 0 ≤ x11_2
                          · rw [if_pos c41] at H
                            have c41b0 : decide (0 ≤ x11_2) = true := decide_eq_true c41
                            clear c41
                            by_cases c42 : x11_2 < (x0_2.length : Int)
                            · rw [if_pos c42] at H
                              have c42b0 : decide (x11_2 < (x0_2.length : Int)) = true := decide_eq_true c42
                              clear c42
                              obtain ⟨ji43, hji43⟩ : ∃ j_ : Int, (wrap64 (x11_2 - 1)) = j_ := ⟨_, rfl⟩
                              replace H : (if 0 ≤ (ji43) then (if (ji43) < (x0_2.length : Int) then (doublestar_sortAndRemoveDups.l2 k2 (x0_2.set ((ji43) : Int).toNat (rdOf ByteArray.empty x0_2 x11_2)) x1_1 a2 x3_1 (wrap64 (x11_2 + 1))) else (none)) else (none)) = some r := by first | (rw [hji43] at H; exact H) | (simp only [hji43] at H ⊢; exact H)
                              have hji43w : (IntKind.i64.wrap (x11_2 - 1)) = ji43 := (i64_w _).trans hji43
                              by_cases c44 : 0 ≤ (ji43)
                              · rw [if_pos c44] at H
                                have c44b0 : decide (0 ≤ (ji43)) = true := decide_eq_true c44
                                clear c44
                                by_cases c45 : (ji43) < (x0_2.length : Int)
                                · rw [if_pos c45] at H
                                  have c45b0 : decide ((ji43) < (x0_2.length : Int)) = true := decide_eq_true c45
                                  clear c45
                                  obtain ⟨y165, hy165⟩ : ∃ y_ : List ByteArray, y_ = (x0_2.set ((ji43) : Int).toNat (rdOf ByteArray.empty x0_2 x11_2)) := ⟨_, rfl⟩
                                  replace H : (doublestar_sortAndRemoveDups.l2 k2 y165 x1_1 a2 x3_1 (wrap64 (x11_2 + 1))) = some r := by first | (rw [hy165]; with_reducible exact H) | (have H2_ := (Option.bind_some _ _).symm.trans H; rw [hy165]; with_reducible exact H2_) | (have H2_ := (Option.bind_some _ _).symm.trans H; with_reducible exact H2_) | with_reducible exact H | (rw [hy165]; exact H) | exact H
                                  have Ny165 := Aside0.mk hy165
                                  clear hy165
                                  have H' := Aside0.mk H
                                  clear H
                                  have p164 : 0 ≤ (x11_2 : Int) := of_decide_eq_true (by first | (with_reducible assumption) | assumption)
                                  have q164 : x11_2 < (x0_2.length : Int) := of_decide_eq_true (by first | (with_reducible assumption) | assumption)
                                  obtain ⟨ad164, e164, hx164_0⟩ := Kd.at_string (Kd.R_reads' HO_0.out).2.2 x11_2 p164 q164
                                  obtain rfl : (⟨go99, 0, none⟩ : Addr) = ad164 := (by injection e164)
                                  replace p164 := eq_true p164
                                  replace q164 := eq_true q164
                                  have p46 : 0 ≤ ((ji43) : Int) := of_decide_eq_true (by first | (with_reducible assumption) | assumption)
                                  have q46 : ((ji43) : Int) < ((x0_2.length : Int) : Int) := of_decide_eq_true (by first | (with_reducible assumption) | assumption)
                                  obtain ⟨go46, co46, eo46, gb46, gl46, cl46, HG46⟩ := Kd.R_form HO_0.out (by omega)
                                  (first | cases eo46 | (injection eo46 with ea_ en_ ec_; (first | subst ea_ | (injection ea_ with ea_; subst ea_)); subst ec_; clear en_))
                                  have GB46 := Aside0.mk gb46
                                  have GG46 := Aside0.mk HG46
                                  clear gb46 gl46 HG46
                                  have HMgo46 := Aside0.mk (show (P0_ go99 ∨ w.heap.size ≤ go99) from (HO_0.out.1 _ rfl))
                                  (first | simp only [add_plain] at hx152_0 | skip)
                                  (first | simp only [add_plain] at hx153_0 | skip)
                                  (first | simp only [add_plain] at hx154_0 | skip)
                                  (first | simp only [add_plain] at hx155_0 | skip)
                                  (first | simp only [add_plain] at hx164_0 | skip)
                                  obtain ⟨hx46_0, hf46_0⟩ := Kd.R_celln (⟨#[]⟩ : ByteArray) HO_0.out ((ji43) : Int) p46 q46
                                  replace p46 := eq_true p46
                                  replace q46 := eq_true q46
                                  have HP47 := Kd.R_putg HO_0.out ((ji43) : Int) (rdOf ByteArray.empty x0_2 x11_2)
                                  go_wp2_with (first | ((with_reducible refine gate_store (t := 9) (p := 88) rfl ?_); (try (rw [drewN_self wr]; generalize hq_ : World.drewN wr _ = wr; have n0_ := Aside0.mk (Kd.R_at hq_ HO_0.out); have n1_ := Aside0.mk (kept_at hq_ HK.out); have n2_ := Aside0.mk (below_at hq_ HB.out); clear hq_ HO_0 HK HB; have HO_0 := n0_; have HK := n1_; have HB := n2_; clear n0_ n1_ n2_; (try (have HP47 := Kd.R_putg HO_0.out ((ji43) : Int) (rdOf ByteArray.empty x0_2 x11_2))); (try clear hx46_0 hf46_0); (try (obtain ⟨hx46_0, hf46_0⟩ := Kd.R_celln (⟨#[]⟩ : ByteArray) HO_0.out ((ji43) : Int) (of_eq_true p46) (of_eq_true q46))))); refine store_event (t := 9) (p := 88) (v := ?vo_w48) (w1 := (wr.setCell ⟨go99, ((ji43) : Int).toNat, none⟩ (.string (rdOf ByteArray.empty x0_2 x11_2)))) ?hg ?ho ?hn ?hr ?_; (case ho => rfl); (case hg => rfl); (case hn => rfl); (case hr => first | (go_simp; done) | (go_simp; rfl)); intro w48 hw; have hg : wr.grownBy w48 (some go99) := (by rw [hw]; exact HP47.2); have hp_ : Kd.R Kd.string 9 w48 w0.heap.size (fun k_ => (P0_ k_ ∨ w.heap.size ≤ k_)) (.slice (some ⟨go99, 0, none⟩) x0_2.length co39) y165 := (by rw [hw, Ny165.out]; exact HP47.1); clear HP47; have n0_ := Aside0.mk (hp_); have n1_ := Aside0.mk ((by rw [hw]; exact below_set (HB.out) GB46.out : Below w0.heap.size w0 w48)); have n2_ := Aside0.mk (Kept.of_grown (S := (fun k_ => P0_ k_)) hg (by repeat (first | (with_reducible first | exact HK.out | apply Kept.alloc | apply Kept.drewN | apply Kept.drew) | exact HK.out)) (fun k_ e_ => (HO_0.out.1 k_ e_))); clear HO_0; clear HB; clear HK; have HO_0 := n0_; have HB := n1_; have HK := n2_; clear n0_ n1_ n2_; clear hg hw hp_))
                                  repeat (go_quiet (first | ((with_reducible refine gate_store (t := 9) (p := 88) rfl ?_); (try (rw [drewN_self wr]; generalize hq_ : World.drewN wr _ = wr; have n0_ := Aside0.mk (Kd.R_at hq_ HO_0.out); have n1_ := Aside0.mk (kept_at hq_ HK.out); have n2_ := Aside0.mk (below_at hq_ HB.out); clear hq_ HO_0 HK HB; have HO_0 := n0_; have HK := n1_; have HB := n2_; clear n0_ n1_ n2_; (try (have HP47 := Kd.R_putg HO_0.out ((ji43) : Int) (rdOf ByteArray.empty x0_2 x11_2))); (try clear hx46_0 hf46_0); (try (obtain ⟨hx46_0, hf46_0⟩ := Kd.R_celln (⟨#[]⟩ : ByteArray) HO_0.out ((ji43) : Int) (of_eq_true p46) (of_eq_true q46))))); refine store_event (t := 9) (p := 88) (v := ?vo_w48) (w1 := (wr.setCell ⟨go99, ((ji43) : Int).toNat, none⟩ (.string (rdOf ByteArray.empty x0_2 x11_2)))) ?hg ?ho ?hn ?hr ?_; (case ho => rfl); (case hg => rfl); (case hn => rfl); (case hr => first | (go_simp; done) | (go_simp; rfl)); intro w48 hw; have hg : wr.grownBy w48 (some go99) := (by rw [hw]; exact HP47.2); have hp_ : Kd.R Kd.string 9 w48 w0.heap.size (fun k_ => (P0_ k_ ∨ w.heap.size ≤ k_)) (.slice (some ⟨go99, 0, none⟩) x0_2.length co39) y165 := (by rw [hw, Ny165.out]; exact HP47.1); clear HP47; have n0_ := Aside0.mk (hp_); have n1_ := Aside0.mk ((by rw [hw]; exact below_set (HB.out) GB46.out : Below w0.heap.size w0 w48)); have n2_ := Aside0.mk (Kept.of_grown (S := (fun k_ => P0_ k_)) hg (by repeat (first | (with_reducible first | exact HK.out | apply Kept.alloc | apply Kept.drewN | apply Kept.drew) | exact HK.out)) (fun k_ e_ => (HO_0.out.1 k_ e_))); clear HO_0; clear HB; clear HK; have HO_0 := n0_; have HB := n1_; have HK := n2_; clear n0_ n1_ n2_; clear hg hw hp_)); try go_wp2_with (first | ((with_reducible refine gate_store (t := 9) (p := 88) rfl ?_); (try (rw [drewN_self wr]; generalize hq_ : World.drewN wr _ = wr; have n0_ := Aside0.mk (Kd.R_at hq_ HO_0.out); have n1_ := Aside0.mk (kept_at hq_ HK.out); have n2_ := Aside0.mk (below_at hq_ HB.out); clear hq_ HO_0 HK HB; have HO_0 := n0_; have HK := n1_; have HB := n2_; clear n0_ n1_ n2_; (try (have HP47 := Kd.R_putg HO_0.out ((ji43) : Int) (rdOf ByteArray.empty x0_2 x11_2))); (try clear hx46_0 hf46_0); (try (obtain ⟨hx46_0, hf46_0⟩ := Kd.R_celln (⟨#[]⟩ : ByteArray) HO_0.out ((ji43) : Int) (of_eq_true p46) (of_eq_true q46))))); refine store_event (t := 9) (p := 88) (v := ?vo_w48) (w1 := (wr.setCell ⟨go99, ((ji43) : Int).toNat, none⟩ (.string (rdOf ByteArray.empty x0_2 x11_2)))) ?hg ?ho ?hn ?hr ?_; (case ho => rfl); (case hg => rfl); (case hn => rfl); (case hr => first | (go_simp; done) | (go_simp; rfl)); intro w48 hw; have hg : wr.grownBy w48 (some go99) := (by rw [hw]; exact HP47.2); have hp_ : Kd.R Kd.string 9 w48 w0.heap.size (fun k_ => (P0_ k_ ∨ w.heap.size ≤ k_)) (.slice (some ⟨go99, 0, none⟩) x0_2.length co39) y165 := (by rw [hw, Ny165.out]; exact HP47.1); clear HP47; have n0_ := Aside0.mk (hp_); have n1_ := Aside0.mk ((by rw [hw]; exact below_set (HB.out) GB46.out : Below w0.heap.size w0 w48)); have n2_ := Aside0.mk (Kept.of_grown (S := (fun k_ => P0_ k_)) hg (by repeat (first | (with_reducible first | exact HK.out | apply Kept.alloc | apply Kept.drewN | apply Kept.drew) | exact HK.out)) (fun k_ e_ => (HO_0.out.1 k_ e_))); clear HO_0; clear HB; clear HK; have HO_0 := n0_; have HB := n1_; have HK := n2_; clear n0_ n1_ n2_; clear hg hw hp_)))
                                  (try simp only [← hl0_2])
                                  go_roundg k2
                                  case measure => have := HK1.out; have := HK2.out; omega
                                  case rel => exact ⟨(y165), (wrap64 (x11_2 + 1)), (by first | rfl | (simp; done) | (simp [*]; done)), H', ⟨by have := HK1.out; have := HK2.out; omega⟩, ⟨by (try simp only [hl0_2]); (with_reducible repeat (first | apply Kd.R_alloc | apply Kd.R_drewN | apply Kd.R_drew)); exact HO_0.out⟩, ⟨by repeat (first | (with_reducible first | exact HK.out | apply Kept.alloc | apply Kept.drewN | apply Kept.drew) | exact HK.out)⟩, ⟨by repeat (first | (with_reducible first | exact HB.out | apply below_alloc | apply pw_below_drewN | apply below_drew1) | exact HB.out)⟩⟩
                                · rw [if_neg c45] at H
                                  exact absurd H (by simp)
                              · rw [if_neg c44] at H
                                exact absurd H (by simp)
                            · rw [if_neg c42] at H
                              exact absurd H (by simp)
                          · rw [if_neg c41] at H
                            exact absurd H (by simp)
                        · rw [if_neg c40] at H
                          have c40b0 : decide (x11_2 < x3_1) = false := decide_eq_false c40
                          clear c40
                          by_cases c49 : a2 = (wrap64 (x3_1 - 1))
                          · rw [if_pos c49] at H
                            have c49b0 : (a2 == (wrap64 (x3_1 - 1))) = true := beq_iff_eq.mpr c49
                            have c49b1 : (a2 != (wrap64 (x3_1 - 1))) = false := bne_eq_false_iff_eq.mpr c49
                            clear c49
                            obtain ⟨ji50, hji50⟩ : ∃ j_ : Int, (wrap64 (x3_1 - 1)) = j_ := ⟨_, rfl⟩
                            replace H : (if 0 ≤ (ji50) then (if (ji50) ≤ (x0_2.length : Int) then (some (x0_2.take ((ji50) : Int).toNat)) else (none)) else (none)) = some r := by first | (rw [hji50] at H; exact H) | (simp only [hji50] at H ⊢; exact H)
                            (try rw [hji50] at c49b0)
                            (try rw [hji50] at c49b1)
                            have hji50w : (IntKind.i64.wrap (x3_1 - 1)) = ji50 := (i64_w _).trans hji50
                            by_cases c51 : 0 ≤ (ji50)
                            · rw [if_pos c51] at H
                              have c51b0 := eq_true c51
                              have c51b1 : decide (0 ≤ (ji50)) = true := decide_eq_true c51
                              clear c51
                              by_cases c52 : (ji50) ≤ (x0_2.length : Int)
                              · rw [if_pos c52] at H
                                have c52b0 := eq_true c52
                                have c52b1 : decide ((ji50) ≤ (x0_2.length : Int)) = true := decide_eq_true c52
                                clear c52
                                obtain ⟨y166, hy166⟩ : ∃ y_ : List ByteArray, y_ = (x0_2.take ((ji50) : Int).toNat) := ⟨_, rfl⟩
                                replace H : (some y166) = some r := by first | (rw [hy166]; with_reducible exact H) | (have H2_ := (Option.bind_some _ _).symm.trans H; rw [hy166]; with_reducible exact H2_) | (have H2_ := (Option.bind_some _ _).symm.trans H; with_reducible exact H2_) | with_reducible exact H | (rw [hy166]; exact H) | exact H
                                have Ny166 := Aside0.mk hy166
                                clear hy166
                                obtain rfl := Option.some.inj H
                                have q53 : ((ji50) : Int) ≤ ((x0_2.length : Int) : Int) := of_decide_eq_true (by first | (with_reducible assumption) | assumption)
                                obtain ⟨i053, hi053, _, hsz53, _⟩ := info_parts info9
                                have hcut53 := cut_to (P := Try.prog) 29 9 .i64 Try.underlying29 hi053 (some (⟨go99, 0, none⟩ : Addr)) x0_2.length co39 (ji50) (of_decide_eq_true (by first | (with_reducible assumption) | assumption)) q53 (Kd.R_reads' HO_0.out).2.1
                                have hr53 := Kd.R_take (m := ((ji50) : Int).toNat) HO_0.out (by omega)
                                have hy53 : y166.length = ((ji50) : Int).toNat := (by rw [Ny166.out, List.length_take]; omega)
                                rw [← Ny166.out] at hr53
                                rw [← hy53] at hr53 hcut53
                                clear hy53 hi053 hsz53 HO_0
                                have HO168 := Aside0.mk hr53
                                clear hr53
                                replace q53 := eq_true q53
                                go_wp2
                                repeat (go_quiet (fail); try go_wp2)
                                go_ret
                                exact ⟨_, by first | rfl | (simp [errW_none, errW_some] <;> rfl) | (simp only [← hji50]; first | rfl | (simp [errW_none, errW_some] <;> rfl)) | (simp [*, errW_none, errW_some] <;> rfl), by (with_reducible repeat (first | apply Kd.R_alloc | apply Kd.R_drewN | apply Kd.R_drew)); exact HO168.out, by repeat (first | (with_reducible first | exact HB.out | apply below_alloc | apply pw_below_drewN | apply below_drew1) | exact HB.out), by repeat (first | (with_reducible first | exact HK.out | apply Kept.alloc | apply Kept.drewN | apply Kept.drew) | exact HK.out)⟩
                              · rw [if_neg c52] at H
                                exact absurd H (by simp)
                            · rw [if_neg c51] at H
                              exact absurd H (by simp)
                          · rw [if_neg c49] at H
                            have c49b0 : (a2 == (wrap64 (x3_1 - 1))) = false := beq_eq_false_iff_ne.mpr c49
                            have c49b1 : (a2 != (wrap64 (x3_1 - 1))) = true := bne_iff_ne.mpr c49
                            have H' := Aside0.mk H
                            clear H
                            go_wp2
                            repeat (go_quiet (fail); try go_wp2)
                            (try simp only [← hl0_2])
                            go_roundg k2
                            case measure => have := HK1.out; have := HK2.out; omega
                            case rel => exact ⟨(x0_2), (wrap64 (x1_1 + 1)), (wrap64 (x3_1 - 1)), (by first | rfl | (simp; done) | (simp [*]; done)), (by first | rfl | (simp; done) | (simp [*]; done)), H', ⟨by have := HK1.out; have := HK2.out; omega⟩, ⟨by (try simp only [hl0_2]); (with_reducible repeat (first | apply Kd.R_alloc | apply Kd.R_drewN | apply Kd.R_drew)); exact HO_0.out⟩, ⟨by repeat (first | (with_reducible first | exact HK.out | apply Kept.alloc | apply Kept.drewN | apply Kept.drew) | exact HK.out)⟩, ⟨by repeat (first | (with_reducible first | exact HB.out | apply below_alloc | apply pw_below_drewN | apply below_drew1) | exact HB.out)⟩⟩
              · rw [if_neg c9] at H
                exact absurd H (by simp)
            · rw [if_neg c8] at H
              exact absurd H (by simp)
          · rw [if_neg c7] at H
            exact absurd H (by simp)
        · rw [if_neg c6] at H
          exact absurd H (by simp)
      · rw [if_neg c5] at H
        have c5b0 : decide (x1_1 < a2) = false := decide_eq_false c5
        clear c5
        by_cases c54 : 0 ≤ x3_1
        · rw [if_pos c54] at H
          have c54b0 := eq_true c54
          have c54b1 : decide (0 ≤ x3_1) = true := decide_eq_true c54
          clear c54
          by_cases c55 : x3_1 ≤ (x0_1.length : Int)
          · rw [if_pos c55] at H
            have c55b0 := eq_true c55
            have c55b1 : decide (x3_1 ≤ (x0_1.length : Int)) = true := decide_eq_true c55
            clear c55
            obtain ⟨y149, hy149⟩ : ∃ y_ : List ByteArray, y_ = (x0_1.take (x3_1 : Int).toNat) := ⟨_, rfl⟩
            replace H : (some y149) = some r := by first | (rw [hy149]; with_reducible exact H) | (have H2_ := (Option.bind_some _ _).symm.trans H; rw [hy149]; with_reducible exact H2_) | (have H2_ := (Option.bind_some _ _).symm.trans H; with_reducible exact H2_) | with_reducible exact H | (rw [hy149]; exact H) | exact H
            have Ny149 := Aside0.mk hy149
            clear hy149
            obtain rfl := Option.some.inj H
            obtain ⟨Ao56, co56, eo56⟩ := Kd.R_slice HO_0.out
            subst eo56
            have q57 : (x3_1 : Int) ≤ ((x0_1.length : Int) : Int) := of_decide_eq_true (by first | (with_reducible assumption) | assumption)
            obtain ⟨i057, hi057, _, hsz57, _⟩ := info_parts info9
            have hcut57 := cut_to (P := Try.prog) 29 9 .i64 Try.underlying29 hi057 Ao56 x0_1.length co56 x3_1 (of_decide_eq_true (by first | (with_reducible assumption) | assumption)) q57 (Kd.R_reads' HO_0.out).2.1
            have hr57 := Kd.R_take (m := (x3_1 : Int).toNat) HO_0.out (by omega)
            have hy57 : y149.length = (x3_1 : Int).toNat := (by rw [Ny149.out, List.length_take]; omega)
            rw [← Ny149.out] at hr57
            rw [← hy57] at hr57 hcut57
            clear hy57 hi057 hsz57 HO_0
            have HO151 := Aside0.mk hr57
            clear hr57
            replace q57 := eq_true q57
            go_wp2
            repeat (go_quiet (fail); try go_wp2)
            go_ret
            exact ⟨_, by first | rfl | (simp [errW_none, errW_some] <;> rfl) | (simp [*, errW_none, errW_some] <;> rfl), by (with_reducible repeat (first | apply Kd.R_alloc | apply Kd.R_drewN | apply Kd.R_drew)); exact HO151.out, by repeat (first | (with_reducible first | exact HB.out | apply below_alloc | apply pw_below_drewN | apply below_drew1) | exact HB.out), by repeat (first | (with_reducible first | exact HK.out | apply Kept.alloc | apply Kept.drewN | apply Kept.drew) | exact HK.out)⟩
          · rw [if_neg c55] at H
            exact absurd H (by simp)
        · rw [if_neg c54] at H
          exact absurd H (by simp)

/-! ### doublestar_ZzSortAndRemoveDups: function 32 -/
def doublestar_ZzSortAndRemoveDups.f (k : Nat) (l0 : List ByteArray) (a1 : Int) (a2 : Int) : Option (List ByteArray) := (doublestar_sortAndRemoveDups.f k l0 a1 a2 (l0.length : Int)).bind fun t169 => (some t169)
theorem doublestar_ZzSortAndRemoveDups.mono : ∀ a0 a1 a2 k, LeO (doublestar_ZzSortAndRemoveDups.f k a0 a1 a2) (doublestar_ZzSortAndRemoveDups.f (k + 1) a0 a1 a2) := by
  intro a0 a1 a2 k
  unfold doublestar_ZzSortAndRemoveDups.f
  repeat' first
      | (with_reducible exact doublestar_sortAndRemoveDups.mono _ _ _ _ _)
      | (with_reducible exact LeO.refl _)
      | (with_reducible exact LeO.none _)
      | (with_reducible refine LeO.ite ?_ ?_)
      | (with_reducible refine LeO.bind ?_ (fun _ => ?_))
      | exact doublestar_sortAndRemoveDups.mono _ _ _ _ _
      | exact LeO.none _
      | refine LeO.ite ?_ ?_
      | refine LeO.bind ?_ (fun _ => ?_)
set_option maxHeartbeats 8000000 in
set_option maxRecDepth 100000 in
theorem doublestar_ZzSortAndRemoveDups.calls (k : Nat) (P0_ : Nat → Prop) (u9000_ : Value) (l0 : List ByteArray) (a1 : Int) (a2 : Int) (r : List ByteArray) (w0 w : World) (hB : Below w0.heap.size w0 w) (ho0 : Kd.R Kd.string 9 w w0.heap.size P0_ u9000_ l0) (h : doublestar_ZzSortAndRemoveDups.f k l0 a1 a2 = some r) :
    Calls Try.prog 32 #[u9000_, .int .i64 a1, .int .i64 a2] w fun e w' => ∃ v0_ : Value, e = .returned (v0_) ∧ Kd.R Kd.string 9 w' w0.heap.size (fun k_ => (P0_ k_ ∨ w.heap.size ≤ k_)) v0_ r ∧ Below w0.heap.size w0 w' ∧ Kept w w' (fun k_ => P0_ k_) := by
  have HO0 := Aside0.mk (show Kd.R Kd.string 9 w w0.heap.size (fun k_ => (P0_ k_ ∨ w.heap.size ≤ k_)) u9000_ l0 from Kd.R_mono ho0 (fun k_ hk => (.inl hk)))
  have HK := Aside0.mk (Kept.refl w (fun k_ => P0_ k_))
  have HW0 := Aside0.mk hB.size
  have HB := Aside0.mk hB
  clear hB
  have H : ((doublestar_sortAndRemoveDups.f k l0 a1 a2 (l0.length : Int)).bind fun t169 => (some t169)) = some r := h
  clear h
  replace H := Option.bind_eq_some_iff.mp H
  obtain ⟨t169, A40, H⟩ := H
  replace H : (some t169) = some r := H
  have A4 := Aside0.mk A40
  clear A40
  obtain rfl := Option.some.inj H
  obtain ⟨Ao5, co5, eo5⟩ := Kd.R_slice HO0.out
  subst eo5
  go_enter Try.func32, Try.ntmps32
  go_wp2_with (first | ((with_reducible refine gate_callee (f := 43) rfl ?_); refine goesL_ (some 12) rfl rfl Try.func43 (by kernel_rfl) rfl #[.slice Ao5 l0.length co5, .int .i64 a1, .int .i64 a2, .int .i64 (l0.length : Int)] rfl (by (try simp only [List.map_toArray, List.map_cons, List.map_nil]); first | done | rfl | (simp only [List.length_drop, List.length_take]; rfl)) ?_; (with_reducible refine (doublestar_sortAndRemoveDups.calls k (fun k_ => some k_ = (.slice Ao5 l0.length co5 : Value).ownBlock) (.slice Ao5 l0.length co5) l0 a1 a2 (l0.length : Int) t169 w0 _ ?side1 ?side2 A4.out).mono ?_); (case side1 => repeat (first | (with_reducible first | exact HB.out | apply below_alloc | apply pw_below_drewN | apply below_drew1) | exact HB.out)); (case side2 => exact Kd.R_tight rfl HO0.out); rintro e w6 ⟨v170, rfl, ho0, hb, hkp⟩; refine ⟨_, rfl, ?_⟩; have n0_ := Aside0.mk (Kd.R_mono (ok' := fun k_ => (P0_ k_ ∨ w.heap.size ≤ k_)) ho0 (fun k_ hk_ => Or.elim hk_ (fun hs_ => (HO0.out.1 k_ (hs_).symm)) (fun hn_ => (.inr (Nat.le_trans (by first | exact HK.out.1 | exact (show Kept w _ (fun k_ => P0_ k_) from by repeat (first | (with_reducible first | exact HK.out | apply Kept.alloc | apply Kept.drewN | apply Kept.drew) | exact HK.out)).1) hn_))))); have n1_ := Aside0.mk (Kept.then_ (S := (fun k_ => P0_ k_)) (by repeat (first | (with_reducible first | exact HK.out | apply Kept.alloc | apply Kept.drewN | apply Kept.drew) | exact HK.out)) hkp (fun k_ hs_ => (fun e_ => (HO0.out.1 k_ e_.symm)) hs_)); have n2_ := Aside0.mk (hb); clear HK; clear HB; clear HO0; have HO171 := n0_; have HK := n1_; have HB := n2_; clear n0_ n1_ n2_; (try clear hb); (try clear hkp); (try clear ho0)))
  go_ret
  exact ⟨_, by first | rfl | (simp [errW_none, errW_some] <;> rfl) | (simp [*, errW_none, errW_some] <;> rfl), by (with_reducible repeat (first | apply Kd.R_alloc | apply Kd.R_drewN | apply Kd.R_drew)); exact HO171.out, by repeat (first | (with_reducible first | exact HB.out | apply below_alloc | apply pw_below_drewN | apply below_drew1) | exact HB.out), by repeat (first | (with_reducible first | exact HK.out | apply Kept.alloc | apply Kept.drewN | apply Kept.drew) | exact HK.out)⟩

/-! ### impl_GlobMergeDups: function 19 -/
def impl_GlobMergeDups.f (k : Nat) (l0 : List ByteArray) (a1 : Int) (a2 : Int) : Option (List ByteArray) := (some (([] : List ByteArray) : List ByteArray)).bind fun y172 => ((some (([] : List ByteArray) : List ByteArray)).bind fun y175 => (if y175.length + l0.length < 8796093022208 then ((doublestar_ZzSortAndRemoveDups.f k (y175 ++ l0) a1 a2).bind fun t181 => (if y172.length + t181.length < 8796093022208 then (some (y172 ++ t181)) else (none))) else (none)))
theorem impl_GlobMergeDups.mono : ∀ a0 a1 a2 k, LeO (impl_GlobMergeDups.f k a0 a1 a2) (impl_GlobMergeDups.f (k + 1) a0 a1 a2) := by
  intro a0 a1 a2 k
  unfold impl_GlobMergeDups.f
  repeat' first
      | (with_reducible exact doublestar_ZzSortAndRemoveDups.mono _ _ _ _)
      | (with_reducible exact LeO.refl _)
      | (with_reducible exact LeO.none _)
      | (with_reducible refine LeO.ite ?_ ?_)
      | (with_reducible refine LeO.bind ?_ (fun _ => ?_))
      | exact doublestar_ZzSortAndRemoveDups.mono _ _ _ _
      | exact LeO.none _
      | refine LeO.ite ?_ ?_
      | refine LeO.bind ?_ (fun _ => ?_)
set_option maxHeartbeats 8000000 in
set_option maxRecDepth 100000 in
theorem impl_GlobMergeDups.calls (k : Nat) (A0 : Option Addr) (c0 : Nat) (l0 : List ByteArray) (a1 : Int) (a2 : Int) (r : List ByteArray) (w : World) (hr0 : Kd.C Kd.string w A0 l0.length l0) (hc0 : l0.length ≤ c0) (h : impl_GlobMergeDups.f k l0 a1 a2 = some r) :
    Calls Try.prog 19 #[.slice A0 l0.length c0, .int .i64 a1, .int .i64 a2] w fun e w' => ∃ v0_ : Value, e = .returned (v0_) ∧ Kd.R Kd.string 9 w' w.heap.size (fun _ => True) v0_ r ∧ Below w.heap.size w w' := by
  have HR0 := Aside0.mk hr0
  have HC0 := Aside0.mk hc0
  clear hr0 hc0
  have HB := Aside0.mk (Below.refl w.heap.size w)
  have H : ((some (([] : List ByteArray) : List ByteArray)).bind fun y172 => ((some (([] : List ByteArray) : List ByteArray)).bind fun y175 => (if y175.length + l0.length < 8796093022208 then ((doublestar_ZzSortAndRemoveDups.f k (y175 ++ l0) a1 a2).bind fun t181 => (if y172.length + t181.length < 8796093022208 then (some (y172 ++ t181)) else (none))) else (none)))) = some r := h
  clear h
  obtain ⟨y172, hy172⟩ : ∃ y_ : List ByteArray, y_ = (([] : List ByteArray)) := ⟨_, rfl⟩
  replace H : ((some (([] : List ByteArray) : List ByteArray)).bind fun y175 => (if y175.length + l0.length < 8796093022208 then ((doublestar_ZzSortAndRemoveDups.f k (y175 ++ l0) a1 a2).bind fun t181 => (if y172.length + t181.length < 8796093022208 then (some (y172 ++ t181)) else (none))) else (none))) = some r := by first | (rw [hy172]; with_reducible exact H) | (have H2_ := (Option.bind_some _ _).symm.trans H; rw [hy172]; with_reducible exact H2_) | (have H2_ := (Option.bind_some _ _).symm.trans H; with_reducible exact H2_) | with_reducible exact H | (rw [hy172]; exact H) | exact H
  have Ny172 := Aside0.mk hy172
  clear hy172
  obtain ⟨y175, hy175⟩ : ∃ y_ : List ByteArray, y_ = (([] : List ByteArray)) := ⟨_, rfl⟩
  replace H : (if y175.length + l0.length < 8796093022208 then ((doublestar_ZzSortAndRemoveDups.f k (y175 ++ l0) a1 a2).bind fun t181 => (if y172.length + t181.length < 8796093022208 then (some (y172 ++ t181)) else (none))) else (none)) = some r := by first | (rw [hy175]; with_reducible exact H) | (have H2_ := (Option.bind_some _ _).symm.trans H; rw [hy175]; with_reducible exact H2_) | (have H2_ := (Option.bind_some _ _).symm.trans H; with_reducible exact H2_) | with_reducible exact H | (rw [hy175]; exact H) | exact H
  have Ny175 := Aside0.mk hy175
  clear hy175
  by_cases c4 : y175.length + l0.length < 8796093022208
  · rw [if_pos c4] at H
    have LMc4 := Aside0.mk c4
    clear c4
    obtain ⟨y178, hy178⟩ : ∃ y_ : List ByteArray, y_ = (y175 ++ l0) := ⟨_, rfl⟩
    replace H : ((doublestar_ZzSortAndRemoveDups.f k y178 a1 a2).bind fun t181 => (if y172.length + t181.length < 8796093022208 then (some (y172 ++ t181)) else (none))) = some r := by first | (rw [hy178]; with_reducible exact H) | (have H2_ := (Option.bind_some _ _).symm.trans H; rw [hy178]; with_reducible exact H2_) | (have H2_ := (Option.bind_some _ _).symm.trans H; with_reducible exact H2_) | with_reducible exact H | (rw [hy178]; exact H) | exact H
    have Ny178 := Aside0.mk hy178
    clear hy178
    replace H := Option.bind_eq_some_iff.mp H
    obtain ⟨t181, A50, H⟩ := H
    replace H : (if y172.length + t181.length < 8796093022208 then (some (y172 ++ t181)) else (none)) = some r := H
    have A5 := Aside0.mk A50
    clear A50
    by_cases c6 : y172.length + t181.length < 8796093022208
    · rw [if_pos c6] at H
      have LMc6 := Aside0.mk c6
      clear c6
      obtain ⟨y184, hy184⟩ : ∃ y_ : List ByteArray, y_ = (y172 ++ t181) := ⟨_, rfl⟩
      replace H : (some y184) = some r := by first | (rw [hy184]; with_reducible exact H) | (have H2_ := (Option.bind_some _ _).symm.trans H; rw [hy184]; with_reducible exact H2_) | (have H2_ := (Option.bind_some _ _).symm.trans H; with_reducible exact H2_) | with_reducible exact H | (rw [hy184]; exact H) | exact H
      have Ny184 := Aside0.mk hy184
      clear hy184
      obtain rfl := Option.some.inj H
      go_enter Try.func19, Try.ntmps19
      go_wp2_with (first | ((with_reducible refine gate_dst (N := 7) rfl ?_); refine Kd.R_lit Kd.string _ 9 ?hg (N := 7) ?hd (xs := ([] : List ByteArray)) (inner := []) (ok := fun _ => True) (okp := fun _ => True) ?hr ?hp (fun _ hk => hk) trivial (Below.refl _ _) (Nat.le_refl _) (by simp) ?_; (case hd => rfl); (case hg => rfl); (case hr => first | (go_simp; done) | (go_simp; rfl)); (case hp => exact (Reps.none _ _)); intro v173 w7 ho8 hb hg_ hnew_; clear hg_ hnew_; (first | rw [← Ny172.out] at ho8 | (simp only [Int.reduceToNat] at ho8; rw [← Ny172.out] at ho8)); have n0_ := Aside0.mk (Kd.R_lower ho8 (below_size (by repeat (first | (with_reducible first | exact HB.out | apply below_alloc | apply pw_below_drewN | apply below_drew1) | exact HB.out)))); have n1_ := Aside0.mk (below_step (by repeat (first | (with_reducible first | exact HB.out | apply below_alloc | apply pw_below_drewN | apply below_drew1) | exact HB.out)) hb); clear HB; have HO174 := n0_; have HB := n1_; clear n0_ n1_; clear hb ho8) | ((with_reducible refine gate_dst (N := 8) rfl ?_); refine Kd.R_lit Kd.string _ 9 ?hg (N := 8) ?hd (xs := ([] : List ByteArray)) (inner := []) (ok := fun _ => True) (okp := fun _ => True) ?hr ?hp (fun _ hk => hk) trivial (Below.refl _ _) (Nat.le_refl _) (by simp) ?_; (case hd => rfl); (case hg => rfl); (case hr => first | (go_simp; done) | (go_simp; rfl)); (case hp => exact (Reps.none _ _)); intro v176 w9 ho10 hb hg_ hnew_; clear hg_ hnew_; (first | rw [← Ny175.out] at ho10 | (simp only [Int.reduceToNat] at ho10; rw [← Ny175.out] at ho10)); have n0_ := Aside0.mk (Kd.R_elder' (by (with_reducible repeat (first | apply Kd.R_alloc | apply Kd.R_drewN | apply Kd.R_drew)); exact HO174.out) (Kd.R_base ho10) hb); have n1_ := Aside0.mk (Kd.R_lower (Kd.R_new' ho10 (Kd.R_lt (by (with_reducible repeat (first | apply Kd.R_alloc | apply Kd.R_drewN | apply Kd.R_drew)); exact HO174.out))) (below_size (by repeat (first | (with_reducible first | exact HB.out | apply below_alloc | apply pw_below_drewN | apply below_drew1) | exact HB.out)))); have n2_ := Aside0.mk (below_step (by repeat (first | (with_reducible first | exact HB.out | apply below_alloc | apply pw_below_drewN | apply below_drew1) | exact HB.out)) hb); clear HO174; clear HB; have HO174 := n0_; have HO177 := n1_; have HB := n2_; clear n0_ n1_ n2_; clear hb ho10) | ((with_reducible refine gate_builtin (b := .append) (xs := #[.tmp 8, .tmp 9]) rfl ?_); at_builtin; refine Kd.R_append_rows Kd.string (w0 := w) w.heap.size rfl (.tmp 8) (.tmp 9) 29 9 (.string ⟨#[]⟩) 16 rfl Try.underlying29 info9 rfl (by decide) (by omega) v176 y175 l0 _ _ _ (fun k_ => some k_ ≠ (v173 : Value).ownBlock) (fun _ => False) rfl rfl ?aO ?aR (fun _ _ h => h) (fun _ h => h.elim) ?aF ?aB ?aS ?aL ?_; (case aR => repeat (first | exact (Kd.C_below HR0.out HB.out) | (with_reducible refine Kd.C_alloc ?_ _) | (with_reducible refine Kd.C_drewN ?_ _) | (with_reducible refine Kd.C_drew ?_))); (case aB => exact (by repeat (first | (with_reducible first | exact HB.out | apply below_alloc | apply pw_below_drewN | apply below_drew1) | exact HB.out))); (case aF => exact (fun k_ hk => Kd.fresh' (Kd.R_lt (by (with_reducible repeat (first | apply Kd.R_alloc | apply Kd.R_drewN | apply Kd.R_drew)); exact HO174.out)) k_ hk)); (case aO => exact (by (with_reducible repeat (first | apply Kd.R_alloc | apply Kd.R_drewN | apply Kd.R_drew)); exact Kd.R_mono HO177.out (fun _ hk => hk.2))); (case aS => exact (below_size (by repeat (first | (with_reducible first | exact HB.out | apply below_alloc | apply pw_below_drewN | apply below_drew1) | exact HB.out)))); (case aL => have := LMc4.out; omega); intro v179 w11 ho hb hg hat; rw [← Ny178.out] at ho; have n0_ := Aside0.mk (Kd.R_after (ok := (fun _ => True)) (by (with_reducible repeat (first | apply Kd.R_alloc | apply Kd.R_drewN | apply Kd.R_drew)); exact HO174.out) hg hat); have n1_ := Aside0.mk (hb); have n2_ := Aside0.mk (ho); clear HO174; clear HB; clear HO177; have HO174 := n0_; have HB := n1_; have HO180 := n2_; clear n0_ n1_ n2_; clear ho hb hg hat; obtain ⟨Ao12, co12, eo12⟩ := Kd.R_slice HO180.out; subst eo12) | ((with_reducible refine gate_callee (f := 32) rfl ?_); refine goesL_ (some 13) rfl rfl Try.func32 (by kernel_rfl) rfl #[.slice Ao12 y178.length co12, .int .i64 a1, .int .i64 a2] rfl (by (try simp only [List.map_toArray, List.map_cons, List.map_nil]); first | done | rfl | (simp only [List.length_drop, List.length_take]; rfl)) ?_; (with_reducible refine (doublestar_ZzSortAndRemoveDups.calls k (fun k_ => some k_ = (.slice Ao12 y178.length co12 : Value).ownBlock) (.slice Ao12 y178.length co12) y178 a1 a2 t181 w _ ?side1 ?side2 A5.out).mono ?_); (case side1 => repeat (first | (with_reducible first | exact HB.out | apply below_alloc | apply pw_below_drewN | apply below_drew1) | exact HB.out)); (case side2 => exact Kd.R_tight rfl HO180.out); rintro e w13 ⟨v182, rfl, ho0, hb, hkp⟩; refine ⟨_, rfl, ?_⟩; have n0_ := Aside0.mk (Kd.R_mono (ok' := fun k_ => some k_ ≠ (v182 : Value).ownBlock) (Kd.R_keptB (HO174.out) hkp (fun k_ hk_ hs_ => (hk_.2) hs_)) (fun k_ hk_ => fun e_ => Or.elim (ho0.1 k_ e_.symm) (fun hs_ => hk_.2.1 hs_) (fun hn_ => Nat.not_le.2 hk_.2.2 hn_))); have n1_ := Aside0.mk (Kd.R_mono (ok' := fun k_ => some k_ ≠ (v173 : Value).ownBlock) ho0 (fun k_ hk_ => Or.elim hk_ (fun hs_ => fun e_ => (((HO174.out).1 k_ e_.symm).2) hs_) (fun hn_ => (Kd.fresh' (Kd.R_lt (by (with_reducible repeat (first | apply Kd.R_alloc | apply Kd.R_drewN | apply Kd.R_drew)); exact HO174.out)) k_ hn_)))); have n2_ := Aside0.mk (hb); clear HO174; clear HB; clear HO180; have HO174 := n0_; have HO183 := n1_; have HB := n2_; clear n0_ n1_ n2_; (try clear hb); (try clear hkp); (try clear ho0); obtain ⟨Ao15, co15, eo15⟩ := Kd.R_slice HO183.out; subst eo15) | ((with_reducible refine gate_builtin (b := .append) (xs := #[.tmp 7, .tmp 13]) rfl ?_); at_builtin; refine Kd.R_append_rows Kd.string (w0 := w) w.heap.size rfl (.tmp 7) (.tmp 13) 29 9 (.string ⟨#[]⟩) 16 rfl Try.underlying29 info9 rfl (by decide) (by omega) v173 y172 t181 _ _ _ (fun k_ => some k_ ≠ (.slice Ao15 t181.length co15 : Value).ownBlock) (fun _ => False) rfl rfl ?aO ?aR (fun _ _ h => h) (fun _ h => h.elim) ?aF ?aB ?aS ?aL ?_; (case aR => repeat (first | exact (Kd.R_reads' HO183.out).2.2 | (with_reducible refine Kd.C_alloc ?_ _) | (with_reducible refine Kd.C_drewN ?_ _) | (with_reducible refine Kd.C_drew ?_))); (case aB => exact (by repeat (first | (with_reducible first | exact HB.out | apply below_alloc | apply pw_below_drewN | apply below_drew1) | exact HB.out))); (case aF => exact (fun k_ hk => Kd.fresh' (Kd.R_lt (by (with_reducible repeat (first | apply Kd.R_alloc | apply Kd.R_drewN | apply Kd.R_drew)); exact HO183.out)) k_ hk)); (case aO => exact (by (with_reducible repeat (first | apply Kd.R_alloc | apply Kd.R_drewN | apply Kd.R_drew)); exact HO174.out)); (case aS => exact (below_size (by repeat (first | (with_reducible first | exact HB.out | apply below_alloc | apply pw_below_drewN | apply below_drew1) | exact HB.out)))); (case aL => have := LMc6.out; omega); intro v185 w14 ho hb hg hat; rw [← Ny184.out] at ho; have n0_ := Aside0.mk (Kd.R_after (ok := (fun _ => True)) (by (with_reducible repeat (first | apply Kd.R_alloc | apply Kd.R_drewN | apply Kd.R_drew)); exact Kd.R_mono HO183.out (fun _ hk => ⟨trivial, hk⟩)) hg hat); have n1_ := Aside0.mk (hb); have n2_ := Aside0.mk (ho); clear HO183; clear HB; clear HO174; have HO183 := n0_; have HB := n1_; have HO186 := n2_; clear n0_ n1_ n2_; clear ho hb hg hat))
      go_ret
      exact ⟨_, by first | rfl | (simp [errW_none, errW_some] <;> rfl) | (simp [*, errW_none, errW_some] <;> rfl), by (with_reducible repeat (first | apply Kd.R_alloc | apply Kd.R_drewN | apply Kd.R_drew)); exact Kd.R_mono HO186.out (fun _ hk => trivial), by repeat (first | (with_reducible first | exact HB.out | apply below_alloc | apply pw_below_drewN | apply below_drew1) | exact HB.out)⟩
    · rw [if_neg c6] at H
      exact absurd H (by simp)
  · rw [if_neg c4] at H
    exact absurd H (by simp)

end Go.Proofs.Ytdhfpgbidlanaaa.QFnGlobMerges
