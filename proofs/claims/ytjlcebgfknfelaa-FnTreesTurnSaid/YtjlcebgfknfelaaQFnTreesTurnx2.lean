/- The machine's side of a law, as the kit's print writes it; of the functions that the print doesn't cover this session's own contracts stand in it: no condition. -/
import Derived.Test.YtjlcebgfknfelaaQFnTreesTurnx0
import Derived.Test.YtjlcebgfknfelaaQFnTreesTurnx1
namespace Go.Proofs.Ytjlcebgfknfelaa.QFnTreesTurn
open Go.RowKit Go.Proofs.YtjlcebgfknfelaaW.PrintWords Go.Proofs.YtjlcebgfknfelaaW.PrintLast Go.Proofs.YtjlcebgfknfelaaW.PrintMore
attribute [local go_sem] max2_int min2_int max_two min_two max_three min_three max_four min_four   -- for this text's walks alone
set_option linter.unusedVariables false
set_option linter.unusedSimpArgs false

/-! ### laws_FnTreesTurn: function 11 -/
mutual
def laws_FnTreesTurn.j0 : Nat → List Int → List (S66) → Bool → Option (Bool)
  | 0, _, _, _ => none
  | k + 1, x0, x1, x22 => if x22 = true then (some true) else (if (x0.length : Int) = 0 then (some true) else ((spec_Turned.f k x0).bind fun t126 => ((some (([] : List (S66)) : List (S66))).bind fun y129 => (if y129.length + x1.length < 5864062014805 then ((some (y129 ++ x1 : List (S66))).bind fun y132 => (if y132.length < 5864062014805 then (laws_FnTreesTurn.l0 k x0 t126 (y132 ++ [(⟨4, 0, 0⟩ : S66)]) 0) else (none))) else (none)))))
def laws_FnTreesTurn.l0 : Nat → List Int → List Int → List (S66) → Int → Option (Bool)
  | 0, _, _, _, _ => none
  | k + 1, x0, x5, x6, x7 => if x7 < 2 then (if x7 = 1 then (laws_FnTreesTurn.j2 k x0 x5 x6 x7 33) else (laws_FnTreesTurn.j2 k x0 x5 x6 x7 23)) else (some true)
def laws_FnTreesTurn.j2 : Nat → List Int → List Int → List (S66) → Int → Int → Option (Bool)
  | 0, _, _, _, _, _ => none
  | k + 1, x0, x5, x6, x7, x8 => (impl_BtreeRun.f x8 x0 x6).bind fun t138 => ((laws_treeLast.f t138 1).bind fun bt141 => ((impl_BtreeRun.f x8 x5 x6).bind fun t151 => ((laws_treeLast.f t151 1).bind fun bt154 => (if bt141.2.2.2.2 = true then (if bt154.2.2.2.2 = true then (if (bt154.2.2.1.length : Int) = (bt141.2.2.1.length : Int) then (if (bt141.2.2.2.1.length : Int) = (bt141.2.2.1.length : Int) then (laws_FnTreesTurn.j3 k x0 x5 x6 x7 (bt141.2.2.1.length : Int) ((bt154.2.2.2.1.length : Int) != (bt141.2.2.1.length : Int)) bt141.1 bt141.2.1 bt141.2.2.1 bt141.2.2.2.1 bt154.1 bt154.2.1 bt154.2.2.1 bt154.2.2.2.1) else (laws_FnTreesTurn.j3 k x0 x5 x6 x7 (bt141.2.2.1.length : Int) true bt141.1 bt141.2.1 bt141.2.2.1 bt141.2.2.2.1 bt154.1 bt154.2.1 bt154.2.2.1 bt154.2.2.2.1)) else (laws_FnTreesTurn.j3 k x0 x5 x6 x7 (bt141.2.2.1.length : Int) true bt141.1 bt141.2.1 bt141.2.2.1 bt141.2.2.2.1 bt154.1 bt154.2.1 bt154.2.2.1 bt154.2.2.2.1)) else (laws_FnTreesTurn.j3 k x0 x5 x6 x7 (bt141.2.2.1.length : Int) true bt141.1 bt141.2.1 bt141.2.2.1 bt141.2.2.2.1 bt154.1 bt154.2.1 bt154.2.2.1 bt154.2.2.2.1)) else (laws_FnTreesTurn.j3 k x0 x5 x6 x7 (bt141.2.2.1.length : Int) true bt141.1 bt141.2.1 bt141.2.2.1 bt141.2.2.2.1 bt154.1 bt154.2.1 bt154.2.2.1 bt154.2.2.2.1)))))
def laws_FnTreesTurn.j3 : Nat → List Int → List Int → List (S66) → Int → Int → Bool → Int → Bool → List Int → List Int → Int → Bool → List Int → List Int → Option (Bool)
  | 0, _, _, _, _, _, _, _, _, _, _, _, _, _, _ => none
  | k + 1, x0, x5, x6, x7, x13, x85, x151000, x151001, x151002, x151003, x164000, x164001, x164002, x164003 => if x85 = true then (none) else (laws_FnTreesTurn.l1 k x0 x5 x6 x7 x13 0 x151000 x151001 x151002 x151003 x164000 x164001 x164002 x164003)
def laws_FnTreesTurn.l1 : Nat → List Int → List Int → List (S66) → Int → Int → Int → Int → Bool → List Int → List Int → Int → Bool → List Int → List Int → Option (Bool)
  | 0, _, _, _, _, _, _, _, _, _, _, _, _, _, _ => none
  | k + 1, x0, x5, x6, x7, x13, x14, x151000, x151001, x151002, x151003, x164000, x164001, x164002, x164003 => if x14 < x13 then (if 0 ≤ x14 then (if x14 < (x151002.length : Int) then (if 0 ≤ (wrap64 ((wrap64 (x13 - 1)) - x14)) then (if (wrap64 ((wrap64 (x13 - 1)) - x14)) < (x164002.length : Int) then ((spec_Alike.f x0 (rd x151002 x14) (rd x164002 (wrap64 ((wrap64 (x13 - 1)) - x14)))).bind fun t166 => (if t166 = true then (if x14 < (x151003.length : Int) then (if (wrap64 ((wrap64 (x13 - 1)) - x14)) < (x164003.length : Int) then (if (rd x151003 x14) = (rd x164003 (wrap64 ((wrap64 (x13 - 1)) - x14))) then (laws_FnTreesTurn.l1 k x0 x5 x6 x7 x13 (wrap64 (x14 + 1)) x151000 x151001 x151002 x151003 x164000 x164001 x164002 x164003) else (none)) else (none)) else (none)) else (none))) else (none)) else (none)) else (none)) else (none)) else (laws_FnTreesTurn.l0 k x0 x5 x6 (wrap64 (x7 + 1)))
end
def laws_FnTreesTurn.f (k : Nat) (l0 : List Int) (l1 : List (S66)) : Option (Bool) := if (l0.length : Int) > 2147483647 then (laws_FnTreesTurn.j0 k l0 l1 true) else (laws_FnTreesTurn.j0 k l0 l1 (decide ((l1.length : Int) > 2147483647)))
theorem laws_FnTreesTurn.mono_l : ∀ k, (∀ y0 y1 y2, LeO (laws_FnTreesTurn.j0 k y0 y1 y2) (laws_FnTreesTurn.j0 (k + 1) y0 y1 y2)) ∧ (∀ y0 y1 y2 y3, LeO (laws_FnTreesTurn.l0 k y0 y1 y2 y3) (laws_FnTreesTurn.l0 (k + 1) y0 y1 y2 y3)) ∧ (∀ y0 y1 y2 y3 y4, LeO (laws_FnTreesTurn.j2 k y0 y1 y2 y3 y4) (laws_FnTreesTurn.j2 (k + 1) y0 y1 y2 y3 y4)) ∧ (∀ y0 y1 y2 y3 y4 y5 y6 y7 y8 y9 y10 y11 y12 y13, LeO (laws_FnTreesTurn.j3 k y0 y1 y2 y3 y4 y5 y6 y7 y8 y9 y10 y11 y12 y13) (laws_FnTreesTurn.j3 (k + 1) y0 y1 y2 y3 y4 y5 y6 y7 y8 y9 y10 y11 y12 y13)) ∧ (∀ y0 y1 y2 y3 y4 y5 y6 y7 y8 y9 y10 y11 y12 y13, LeO (laws_FnTreesTurn.l1 k y0 y1 y2 y3 y4 y5 y6 y7 y8 y9 y10 y11 y12 y13) (laws_FnTreesTurn.l1 (k + 1) y0 y1 y2 y3 y4 y5 y6 y7 y8 y9 y10 y11 y12 y13))
  | 0 => ⟨fun _ _ _ r h => by simp [laws_FnTreesTurn.j0] at h, fun _ _ _ _ r h => by simp [laws_FnTreesTurn.l0] at h, fun _ _ _ _ _ r h => by simp [laws_FnTreesTurn.j2] at h, fun _ _ _ _ _ _ _ _ _ _ _ _ _ _ r h => by simp [laws_FnTreesTurn.j3] at h, fun _ _ _ _ _ _ _ _ _ _ _ _ _ _ r h => by simp [laws_FnTreesTurn.l1] at h⟩
  | k + 1 => by
    obtain ⟨ih0, ih1, ih2, ih3, ih4⟩ := laws_FnTreesTurn.mono_l k
    refine ⟨?_, ?_, ?_, ?_, ?_⟩
    · intro y0 y1 y2
      unfold laws_FnTreesTurn.j0
      repeat' first
      | (with_reducible exact ih0 _ _ _)
      | (with_reducible exact ih1 _ _ _ _)
      | (with_reducible exact ih2 _ _ _ _ _)
      | (with_reducible exact ih3 _ _ _ _ _ _ _ _ _ _ _ _ _ _)
      | (with_reducible exact ih4 _ _ _ _ _ _ _ _ _ _ _ _ _ _)
      | (with_reducible exact spec_Turned.mono _ _)
      | (with_reducible exact LeO.refl _)
      | (with_reducible exact LeO.none _)
      | (with_reducible refine LeO.ite ?_ ?_)
      | (with_reducible refine LeO.bind ?_ (fun _ => ?_))
      | exact ih0 _ _ _
      | exact ih1 _ _ _ _
      | exact ih2 _ _ _ _ _
      | exact ih3 _ _ _ _ _ _ _ _ _ _ _ _ _ _
      | exact ih4 _ _ _ _ _ _ _ _ _ _ _ _ _ _
      | exact spec_Turned.mono _ _
      | exact LeO.none _
      | refine LeO.ite ?_ ?_
      | refine LeO.bind ?_ (fun _ => ?_)
    · intro y0 y1 y2 y3
      unfold laws_FnTreesTurn.l0
      repeat' first
      | (with_reducible exact ih0 _ _ _)
      | (with_reducible exact ih1 _ _ _ _)
      | (with_reducible exact ih2 _ _ _ _ _)
      | (with_reducible exact ih3 _ _ _ _ _ _ _ _ _ _ _ _ _ _)
      | (with_reducible exact ih4 _ _ _ _ _ _ _ _ _ _ _ _ _ _)
      | (with_reducible exact spec_Turned.mono _ _)
      | (with_reducible exact LeO.refl _)
      | (with_reducible exact LeO.none _)
      | (with_reducible refine LeO.ite ?_ ?_)
      | (with_reducible refine LeO.bind ?_ (fun _ => ?_))
      | exact ih0 _ _ _
      | exact ih1 _ _ _ _
      | exact ih2 _ _ _ _ _
      | exact ih3 _ _ _ _ _ _ _ _ _ _ _ _ _ _
      | exact ih4 _ _ _ _ _ _ _ _ _ _ _ _ _ _
      | exact spec_Turned.mono _ _
      | exact LeO.none _
      | refine LeO.ite ?_ ?_
      | refine LeO.bind ?_ (fun _ => ?_)
    · intro y0 y1 y2 y3 y4
      unfold laws_FnTreesTurn.j2
      repeat' first
      | (with_reducible exact ih0 _ _ _)
      | (with_reducible exact ih1 _ _ _ _)
      | (with_reducible exact ih2 _ _ _ _ _)
      | (with_reducible exact ih3 _ _ _ _ _ _ _ _ _ _ _ _ _ _)
      | (with_reducible exact ih4 _ _ _ _ _ _ _ _ _ _ _ _ _ _)
      | (with_reducible exact spec_Turned.mono _ _)
      | (with_reducible exact LeO.refl _)
      | (with_reducible exact LeO.none _)
      | (with_reducible refine LeO.ite ?_ ?_)
      | (with_reducible refine LeO.bind ?_ (fun _ => ?_))
      | exact ih0 _ _ _
      | exact ih1 _ _ _ _
      | exact ih2 _ _ _ _ _
      | exact ih3 _ _ _ _ _ _ _ _ _ _ _ _ _ _
      | exact ih4 _ _ _ _ _ _ _ _ _ _ _ _ _ _
      | exact spec_Turned.mono _ _
      | exact LeO.none _
      | refine LeO.ite ?_ ?_
      | refine LeO.bind ?_ (fun _ => ?_)
    · intro y0 y1 y2 y3 y4 y5 y6 y7 y8 y9 y10 y11 y12 y13
      unfold laws_FnTreesTurn.j3
      repeat' first
      | (with_reducible exact ih0 _ _ _)
      | (with_reducible exact ih1 _ _ _ _)
      | (with_reducible exact ih2 _ _ _ _ _)
      | (with_reducible exact ih3 _ _ _ _ _ _ _ _ _ _ _ _ _ _)
      | (with_reducible exact ih4 _ _ _ _ _ _ _ _ _ _ _ _ _ _)
      | (with_reducible exact spec_Turned.mono _ _)
      | (with_reducible exact LeO.refl _)
      | (with_reducible exact LeO.none _)
      | (with_reducible refine LeO.ite ?_ ?_)
      | (with_reducible refine LeO.bind ?_ (fun _ => ?_))
      | exact ih0 _ _ _
      | exact ih1 _ _ _ _
      | exact ih2 _ _ _ _ _
      | exact ih3 _ _ _ _ _ _ _ _ _ _ _ _ _ _
      | exact ih4 _ _ _ _ _ _ _ _ _ _ _ _ _ _
      | exact spec_Turned.mono _ _
      | exact LeO.none _
      | refine LeO.ite ?_ ?_
      | refine LeO.bind ?_ (fun _ => ?_)
    · intro y0 y1 y2 y3 y4 y5 y6 y7 y8 y9 y10 y11 y12 y13
      unfold laws_FnTreesTurn.l1
      repeat' first
      | (with_reducible exact ih0 _ _ _)
      | (with_reducible exact ih1 _ _ _ _)
      | (with_reducible exact ih2 _ _ _ _ _)
      | (with_reducible exact ih3 _ _ _ _ _ _ _ _ _ _ _ _ _ _)
      | (with_reducible exact ih4 _ _ _ _ _ _ _ _ _ _ _ _ _ _)
      | (with_reducible exact spec_Turned.mono _ _)
      | (with_reducible exact LeO.refl _)
      | (with_reducible exact LeO.none _)
      | (with_reducible refine LeO.ite ?_ ?_)
      | (with_reducible refine LeO.bind ?_ (fun _ => ?_))
      | exact ih0 _ _ _
      | exact ih1 _ _ _ _
      | exact ih2 _ _ _ _ _
      | exact ih3 _ _ _ _ _ _ _ _ _ _ _ _ _ _
      | exact ih4 _ _ _ _ _ _ _ _ _ _ _ _ _ _
      | exact spec_Turned.mono _ _
      | exact LeO.none _
      | refine LeO.ite ?_ ?_
      | refine LeO.bind ?_ (fun _ => ?_)
theorem laws_FnTreesTurn.mono : ∀ a0 a1 k, LeO (laws_FnTreesTurn.f k a0 a1) (laws_FnTreesTurn.f (k + 1) a0 a1) := by
  intro a0 a1 k
  obtain ⟨ih0, ih1, ih2, ih3, ih4⟩ := laws_FnTreesTurn.mono_l k
  unfold laws_FnTreesTurn.f
  repeat' first
      | (with_reducible exact ih0 _ _ _)
      | (with_reducible exact ih1 _ _ _ _)
      | (with_reducible exact ih2 _ _ _ _ _)
      | (with_reducible exact ih3 _ _ _ _ _ _ _ _ _ _ _ _ _ _)
      | (with_reducible exact ih4 _ _ _ _ _ _ _ _ _ _ _ _ _ _)
      | (with_reducible exact spec_Turned.mono _ _)
      | (with_reducible exact LeO.refl _)
      | (with_reducible exact LeO.none _)
      | (with_reducible refine LeO.ite ?_ ?_)
      | (with_reducible refine LeO.bind ?_ (fun _ => ?_))
      | exact ih0 _ _ _
      | exact ih1 _ _ _ _
      | exact ih2 _ _ _ _ _
      | exact ih3 _ _ _ _ _ _ _ _ _ _ _ _ _ _
      | exact ih4 _ _ _ _ _ _ _ _ _ _ _ _ _ _
      | exact spec_Turned.mono _ _
      | exact LeO.none _
      | refine LeO.ite ?_ ?_
      | refine LeO.bind ?_ (fun _ => ?_)
def laws_FnTreesTurn.T21 : Bool × List (List Nat × List Nat) := (true, [([], []), ([], []), ([1], [1]), ([], []), ([2, 3], [2, 3]), ([4], [4]), ([], []), ([6], [6]), ([], []), ([8], [8]), ([], []), ([9, 10], [9, 10]), ([7, 11], [7, 11]), ([12], [12]), ([0, 5, 13], [0, 5, 13]), ([14], [14]), ([15, 14], [15]), ([16], [16]), ([17, 16], [16, 17]), ([16], [16]), ([18, 19, 16], [16, 18, 19]), ([20, 16], [16, 20]), ([16], [16]), ([22, 16], [16, 22]), ([16], [16]), ([24, 16], [16, 24]), ([16], [16]), ([25, 26, 16], [16, 25, 26]), ([23, 27, 16], [16, 23, 27]), ([28, 16], [16, 28]), ([21, 29, 16], [16, 21, 29]), ([16, 30], [16, 30])])
def laws_FnTreesTurn.B21 : List Nat := [0, 0, 2, 0, 14, 30, 0, 64, 0, 256, 0, 1792, 4032, 8128, 16383, 32767, 65535, 131071, 262143, 131071, 1048575, 2097151, 131071, 4325375, 131071, 16908287, 131071, 117571583, 264372223, 532807679, 1073741823, 2147483647]
theorem laws_FnTreesTurn.tab21 : rtab .any (opsOf Try.f11 21) = laws_FnTreesTurn.T21 := by kernel_rfl
theorem laws_FnTreesTurn.bits21 : waitsOk laws_FnTreesTurn.T21.2 laws_FnTreesTurn.B21 = true := by kernel_rfl
set_option maxHeartbeats 8000000 in
set_option maxRecDepth 100000 in
theorem laws_FnTreesTurn.calls (k : Nat) (A0 : Option Addr) (c0 : Nat) (l0 : List Int) (A1 : Option Addr) (c1 : Nat) (l1 : List (S66)) (r : Bool) (w : World) (hr0 : Kd.C (Kd.int .i64) w A0 l0.length l0) (hc0 : l0.length ≤ c0) (hr1 : Kd.C k66 w A1 l1.length l1) (hc1 : l1.length ≤ c1) (h : laws_FnTreesTurn.f k l0 l1 = some r) :
    Calls Try.prog 11 #[.slice A0 l0.length c0, .slice A1 l1.length c1] w fun e w' => e = .returned (.bool r) ∧ Below w.heap.size w w' := by
  have hu66 := Try.underlying66
  have hu46 := Try.underlying46
  have HR0 := Aside0.mk hr0
  have HC0 := Aside0.mk hc0
  clear hr0 hc0
  have HR1 := Aside0.mk hr1
  have HC1 := Aside0.mk hc1
  clear hr1 hc1
  have HB := Aside0.mk (Below.refl w.heap.size w)
  have H : (if (l0.length : Int) > 2147483647 then (laws_FnTreesTurn.j0 k l0 l1 true) else (laws_FnTreesTurn.j0 k l0 l1 (decide ((l1.length : Int) > 2147483647)))) = some r := h
  clear h
  have HC3 := Aside0.mk H
  clear H
  go_enter Try.func11, Try.ntmps11
  go_upto_region 1 with (fail)
  go_cut [22] (fun v22 wc => ∃ (kq : Nat) (x22_2 : Bool), v22 = .bool x22_2 ∧ Aside0 (laws_FnTreesTurn.j0 kq l0 l1 x22_2 = some r) ∧ Aside0 (kq ≤ k) ∧ Aside0 (Below w.heap.size w wc))
  case first =>
    have H := HC3.out
    clear HC3
    by_cases c4 : (l0.length : Int) > 2147483647
    · rw [if_pos c4] at H
      have c4b0 : decide (2147483647 < (l0.length : Int)) = true := decide_eq_true c4
      have c4b1 : decide (2147483647 < l0.length) = true := decide_eq_true (by omega)
      clear c4
      (first | rw [c4b0] | (simp only [i64_w, i32_w]; rw [c4b0]) | skip)
      have H' := Aside0.mk H
      clear H
      go_wp2
      go_meet
      case rel => exact ⟨_, (true), (by first | rfl | (simp; done) | (simp [*]; done)), H', ⟨by first | omega | exact Nat.le_refl _⟩, ⟨by repeat (first | (with_reducible first | exact HB.out | apply below_alloc | apply pw_below_drewN | apply below_drew1) | exact HB.out)⟩⟩
    · rw [if_neg c4] at H
      have c4b0 : decide (2147483647 < (l0.length : Int)) = false := decide_eq_false c4
      have c4b1 : decide (2147483647 < l0.length) = false := decide_eq_false (by omega)
      clear c4
      (first | rw [c4b0] | (simp only [i64_w, i32_w]; rw [c4b0]) | skip)
      have H' := Aside0.mk H
      clear H
      go_wp2
      go_meet
      case rel => exact ⟨_, (decide ((l1.length : Int) > 2147483647)), (by first | rfl | (simp; done) | (simp [*]; done)), H', ⟨by first | omega | exact Nat.le_refl _⟩, ⟨by repeat (first | (with_reducible first | exact HB.out | apply below_alloc | apply pw_below_drewN | apply below_drew1) | exact HB.out)⟩⟩
  case rest =>
    clear HC3
    try clear c1
    try clear p2
    try clear c4
    try clear c4b0
    try clear c4b1
    obtain ⟨kq, x22_2, rfl, HA, HJ2, HB⟩ := hcut
    cases kq with
    | zero => exact absurd HA.out (by simp [laws_FnTreesTurn.j0])
    | succ kj2 =>
      have H := HA.out
      clear HA
      simp only [laws_FnTreesTurn.j0] at H
      by_cases c5 : x22_2 = true
      · subst c5
        have H1 : (some true) = some r := by rw [if_pos rfl] at H; exact H
        clear H
        have H := H1
        clear H1
        obtain rfl := Option.some.inj H
        go_wp2
        go_ret
        exact ⟨by first | rfl | (simp [errW_none, errW_some] <;> rfl) | (simp [*, errW_none, errW_some] <;> rfl), by repeat (first | (with_reducible first | exact HB.out | apply below_alloc | apply pw_below_drewN | apply below_drew1) | exact HB.out)⟩
      · replace c5 := Bool.eq_false_iff.mpr c5
        subst c5
        have H1 : (if (l0.length : Int) = 0 then (some true) else ((spec_Turned.f kj2 l0).bind fun t126 => ((some (([] : List (S66)) : List (S66))).bind fun y129 => (if y129.length + l1.length < 5864062014805 then ((some (y129 ++ l1 : List (S66))).bind fun y132 => (if y132.length < 5864062014805 then (laws_FnTreesTurn.l0 kj2 l0 t126 (y132 ++ [(⟨4, 0, 0⟩ : S66)]) 0) else (none))) else (none))))) = some r := by rw [if_neg (show ¬ (false = true) by decide)] at H; exact H
        clear H
        have H := H1
        clear H1
        by_cases c6 : (l0.length : Int) = 0
        · rw [if_pos c6] at H
          have c6b0 : ((l0.length : Int) == 0) = true := beq_iff_eq.mpr c6
          have c6b1 : ((l0.length : Int) != 0) = false := bne_eq_false_iff_eq.mpr c6
          clear c6
          obtain rfl := Option.some.inj H
          go_wp2
          go_ret
          exact ⟨by first | rfl | (simp [errW_none, errW_some] <;> rfl) | (simp [*, errW_none, errW_some] <;> rfl), by repeat (first | (with_reducible first | exact HB.out | apply below_alloc | apply pw_below_drewN | apply below_drew1) | exact HB.out)⟩
        · rw [if_neg c6] at H
          have c6b0 : ((l0.length : Int) == 0) = false := beq_eq_false_iff_ne.mpr c6
          have c6b1 : ((l0.length : Int) != 0) = true := bne_iff_ne.mpr c6
          have c6b2 : ¬ (l0 = []) := fun h_ => c6 (by rw [h_]; rfl)
          replace H := Option.bind_eq_some_iff.mp H
          obtain ⟨t126, A70, H⟩ := H
          replace H : ((some (([] : List (S66)) : List (S66))).bind fun y129 => (if y129.length + l1.length < 5864062014805 then ((some (y129 ++ l1 : List (S66))).bind fun y132 => (if y132.length < 5864062014805 then (laws_FnTreesTurn.l0 kj2 l0 t126 (y132 ++ [(⟨4, 0, 0⟩ : S66)]) 0) else (none))) else (none))) = some r := H
          have A7 := Aside0.mk A70
          clear A70
          obtain ⟨y129, hy129⟩ : ∃ y_ : List (S66), y_ = (([] : List (S66))) := ⟨_, rfl⟩
          replace H : (if y129.length + l1.length < 5864062014805 then ((some (y129 ++ l1 : List (S66))).bind fun y132 => (if y132.length < 5864062014805 then (laws_FnTreesTurn.l0 kj2 l0 t126 (y132 ++ [(⟨4, 0, 0⟩ : S66)]) 0) else (none))) else (none)) = some r := by first | (rw [hy129]; with_reducible exact H) | (have H2_ := (Option.bind_some _ _).symm.trans H; rw [hy129]; with_reducible exact H2_) | (have H2_ := (Option.bind_some _ _).symm.trans H; with_reducible exact H2_) | with_reducible exact H | (rw [hy129]; exact H) | exact H
          have Ny129 := Aside0.mk hy129
          clear hy129
          by_cases c8 : y129.length + l1.length < 5864062014805
          · rw [if_pos c8] at H
            have LMc8 := Aside0.mk c8
            clear c8
            obtain ⟨y132, hy132⟩ : ∃ y_ : List (S66), y_ = (y129 ++ l1) := ⟨_, rfl⟩
            replace H : (if y132.length < 5864062014805 then (laws_FnTreesTurn.l0 kj2 l0 t126 (y132 ++ [(⟨4, 0, 0⟩ : S66)]) 0) else (none)) = some r := by first | (rw [hy132]; with_reducible exact H) | (have H2_ := (Option.bind_some _ _).symm.trans H; rw [hy132]; with_reducible exact H2_) | (have H2_ := (Option.bind_some _ _).symm.trans H; with_reducible exact H2_) | with_reducible exact H | (rw [hy132]; exact H) | exact H
            have Ny132 := Aside0.mk hy132
            clear hy132
            by_cases c9 : y132.length < 5864062014805
            · rw [if_pos c9] at H
              have LMc9 := Aside0.mk c9
              clear c9
              obtain ⟨y135, hy135⟩ : ∃ y_ : List (S66), y_ = (y132 ++ [(⟨4, 0, 0⟩ : S66)]) := ⟨_, rfl⟩
              replace H : (laws_FnTreesTurn.l0 kj2 l0 t126 y135 0) = some r := by first | (rw [hy135]; with_reducible exact H) | (have H2_ := (Option.bind_some _ _).symm.trans H; rw [hy135]; with_reducible exact H2_) | (have H2_ := (Option.bind_some _ _).symm.trans H; with_reducible exact H2_) | with_reducible exact H | (rw [hy135]; exact H) | exact H
              have Ny135 := Aside0.mk hy135
              clear hy135
              have H' := Aside0.mk H
              clear H
              go_wp2_with (first | ((with_reducible refine gate_callee (f := 35) rfl ?_); refine goesL_ (some 27) rfl rfl Try.func35 (by kernel_rfl) rfl #[.slice A0 l0.length c0] rfl (by (try simp only [List.map_toArray, List.map_cons, List.map_nil]); first | done | rfl | (simp only [List.length_drop, List.length_take]; rfl)) ?_; (with_reducible refine (spec_Turned.calls kj2 _ _ l0 t126 _ ?side1 ?side2 A7.out).mono ?_); (case side1 => repeat (first | exact (Kd.C_below HR0.out HB.out) | (with_reducible refine Kd.C_alloc ?_ _) | (with_reducible refine Kd.C_drewN ?_ _) | (with_reducible refine Kd.C_drew ?_))); (case side2 => exact HC0.out); rintro e w10 ⟨v127, rfl, ho0, hb⟩; refine ⟨_, rfl, ?_⟩; have n0_ := Aside0.mk (Kd.R_lower ho0 (below_size (by repeat (first | (with_reducible first | exact HB.out | apply below_alloc | apply pw_below_drewN | apply below_drew1) | exact HB.out)))); have n1_ := Aside0.mk (below_step (by repeat (first | (with_reducible first | exact HB.out | apply below_alloc | apply pw_below_drewN | apply below_drew1) | exact HB.out)) hb); clear HB; have HO128 := n0_; have HB := n1_; clear n0_ n1_; (try clear hb); (try clear hb2); (try clear hk); (try clear hi); (try clear ho0)) | ((with_reducible refine gate_dst (N := 28) rfl ?_); (try (refine gate_guard (by rfl) ?_; dsimp only)); refine Kd.R_lit k66 _ 66 ?hg (N := 28) ?hd (xs := ([] : List (S66))) (inner := []) (ok := fun _ => True) (okp := fun _ => True) ?hr ?hp (fun _ hk => hk) trivial (Below.refl _ _) (Nat.le_refl _) (by simp) ?_; (case hd => rfl); (case hg => rfl); (case hr => first | (go_simp; done) | (go_simp; rfl)); (case hp => exact (Reps.none _ _)); intro v130 w11 ho12 hb hg_ hnew_; clear hg_ hnew_; (first | rw [← Ny129.out] at ho12 | (simp only [Int.reduceToNat] at ho12; rw [← Ny129.out] at ho12)); have n0_ := Aside0.mk (Kd.R_below (by (with_reducible repeat (first | apply Kd.R_alloc | apply Kd.R_drewN | apply Kd.R_drew)); exact HO128.out) hb); have n1_ := Aside0.mk (Kd.R_lower ho12 (below_size (by repeat (first | (with_reducible first | exact HB.out | apply below_alloc | apply pw_below_drewN | apply below_drew1) | exact HB.out)))); have n2_ := Aside0.mk (below_step (by repeat (first | (with_reducible first | exact HB.out | apply below_alloc | apply pw_below_drewN | apply below_drew1) | exact HB.out)) hb); clear HO128; clear HB; have HO128 := n0_; have HO131 := n1_; have HB := n2_; clear n0_ n1_ n2_; clear hb ho12) | ((with_reducible refine gate_builtin (b := .append) (xs := #[.tmp 28, .tmp 29]) rfl ?_); (try (refine gate_guard (by rfl) ?_; dsimp only)); at_builtin; refine Kd.R_append_rows k66 (w0 := w) w.heap.size rfl (.tmp 28) (.tmp 29) 42 66 (.agg #[(.int .i64 0), (.int .i64 0), (.int .i64 0)]) 24 rfl Try.underlying42 info66 rfl (by decide) (by omega) v130 y129 l1 _ _ _ (fun _ => True) (fun _ => False) rfl rfl ?aO ?aR (fun _ _ h => h) (fun _ h => h.elim) ?aF ?aB ?aS ?aL ?_; (case aR => repeat (first | exact (Kd.C_below HR1.out HB.out) | (with_reducible refine Kd.C_alloc ?_ _) | (with_reducible refine Kd.C_drewN ?_ _) | (with_reducible refine Kd.C_drew ?_))); (case aB => exact (by repeat (first | (with_reducible first | exact HB.out | apply below_alloc | apply pw_below_drewN | apply below_drew1) | exact HB.out))); (case aF => exact (fun _ _ => trivial)); (case aO => exact (by (with_reducible repeat (first | apply Kd.R_alloc | apply Kd.R_drewN | apply Kd.R_drew)); exact HO131.out)); (case aS => exact (below_size (by repeat (first | (with_reducible first | exact HB.out | apply below_alloc | apply pw_below_drewN | apply below_drew1) | exact HB.out)))); (case aL => have := LMc8.out; omega); intro v133 w13 ho hb hg hat; rw [← Ny132.out] at ho; have n0_ := Aside0.mk (Kd.R_over' (by (with_reducible repeat (first | apply Kd.R_alloc | apply Kd.R_drewN | apply Kd.R_drew)); exact HO128.out) (Kd.R_typed (by (with_reducible repeat (first | apply Kd.R_alloc | apply Kd.R_drewN | apply Kd.R_drew)); exact HO131.out)) (by decide) hg); have n1_ := Aside0.mk (hb); have n2_ := Aside0.mk (ho); clear HO128; clear HB; clear HO131; have HO128 := n0_; have HB := n1_; have HO134 := n2_; clear n0_ n1_ n2_; clear ho hb hg hat) | ((with_reducible refine gate_builtin (b := .append) (xs := #[.tmp 30, .tmp 32]) rfl ?_); (try (refine gate_guard (by rfl) ?_; dsimp only)); at_builtin; refine Kd.R_append k66 (w0 := w) w.heap.size rfl (.tmp 30) (.tmp 32) 42 66 (.agg #[(.int .i64 0), (.int .i64 0), (.int .i64 0)]) 24 rfl Try.underlying42 info66 rfl (by decide) (by omega) v133 y132 (⟨4, 0, 0⟩ : S66) [.int .i64 4, .int .i64 0, .int .i64 0] (fun _ => True) (fun _ => False) rfl rfl ?aP (fun _ hk => hk.elim) ?aF ?aO ?aB ?aS ?aL ?_; (case aP => exact k66_mkM _ _ _ (⟨4, 0, 0⟩ : S66)); (case aB => exact (by repeat (first | (with_reducible first | exact HB.out | apply below_alloc | apply pw_below_drewN | apply below_drew1) | exact HB.out))); (case aF => exact (fun _ _ => trivial)); (case aO => exact (by (with_reducible repeat (first | apply Kd.R_alloc | apply Kd.R_drewN | apply Kd.R_drew)); exact HO134.out)); (case aS => exact (below_size (by repeat (first | (with_reducible first | exact HB.out | apply below_alloc | apply pw_below_drewN | apply below_drew1) | exact HB.out)))); (case aL => have := LMc9.out; omega); intro v136 w14 ho hb hg hat; rw [← Ny135.out] at ho; have n0_ := Aside0.mk (Kd.R_over' (by (with_reducible repeat (first | apply Kd.R_alloc | apply Kd.R_drewN | apply Kd.R_drew)); exact HO128.out) (Kd.R_typed (by (with_reducible repeat (first | apply Kd.R_alloc | apply Kd.R_drewN | apply Kd.R_drew)); exact HO134.out)) (by decide) hg); have n1_ := Aside0.mk (hb); have n2_ := Aside0.mk (ho); clear HO128; clear HB; clear HO134; have HO128 := n0_; have HB := n1_; have HO137 := n2_; clear n0_ n1_ n2_; clear ho hb hg hat))
              go_loopg [7] kj2 (fun kq v7 w' => ∃ (x7_2 : Int), v7 = .int .i64 x7_2 ∧ Aside0 (laws_FnTreesTurn.l0 kq l0 t126 y135 x7_2 = some r) ∧ Aside0 (kq ≤ kj2) ∧ Aside0 (Kd.R (Kd.int .i64) 3 w' w.heap.size (fun _ => True) v127 t126) ∧ Aside0 (Kd.R k66 66 w' w.heap.size (fun _ => True) v136 y135) ∧ Aside0 (Below w.heap.size w w'))
              case atStart => exact ⟨(0), (by first | rfl | (simp; done) | (simp [*]; done)), H', ⟨Nat.le_refl _⟩, ⟨by (with_reducible repeat (first | apply Kd.R_alloc | apply Kd.R_drewN | apply Kd.R_drew)); exact HO128.out⟩, ⟨by (with_reducible repeat (first | apply Kd.R_alloc | apply Kd.R_drewN | apply Kd.R_drew)); exact HO137.out⟩, ⟨by repeat (first | (with_reducible first | exact HB.out | apply below_alloc | apply pw_below_drewN | apply below_drew1) | exact HB.out)⟩⟩
              case round =>
                clear H'
                try clear c1
                try clear p2
                try clear c3
                try clear c4
                try clear c4b0
                try clear c4b1
                try clear c5
                try clear c6
                try clear c6b0
                try clear c6b1
                try clear c6b2
                try clear c8
                try clear c9
                try clear c11
                try clear p2
                obtain ⟨x7_2, rfl, HA, HK2, HO_5, HO_6, HB⟩ := hrel
                cases gk with
                | zero => exact absurd HA.out (by simp [laws_FnTreesTurn.l0])
                | succ k2 =>
                  have H := HA.out
                  clear HA
                  simp only [laws_FnTreesTurn.l0] at H
                  by_cases c15 : x7_2 < 2
                  · rw [if_pos c15] at H
                    have c15b0 : decide (x7_2 < 2) = true := decide_eq_true c15
                    clear c15
                    have HC16 := Aside0.mk H
                    clear H
                    go_upto_if 39 with (fail)
                    go_cut [8] (fun v8 wc => ∃ (kq : Nat) (x8_15 : Int), v8 = fnV x8_15 ∧ Aside0 (laws_FnTreesTurn.j2 kq l0 t126 y135 x7_2 x8_15 = some r) ∧ Aside0 (kq ≤ k2) ∧ Aside0 (Kd.R (Kd.int .i64) 3 wc w.heap.size (fun _ => True) v127 t126) ∧ Aside0 (Kd.R k66 66 wc w.heap.size (fun _ => True) v136 y135) ∧ Aside0 (Below w.heap.size w wc))
                    case first =>
                      have H := HC16.out
                      clear HC16
                      by_cases c17 : x7_2 = 1
                      · rw [if_pos c17] at H
                        have c17b0 : (x7_2 == 1) = true := beq_iff_eq.mpr c17
                        have c17b1 : (x7_2 != 1) = false := bne_eq_false_iff_eq.mpr c17
                        clear c17
                        (first | rw [c17b0] | (simp only [i64_w, i32_w]; rw [c17b0]) | skip)
                        have H' := Aside0.mk H
                        clear H
                        go_wp2
                        go_meet
                        case rel => exact ⟨_, (33), (by first | rfl | (simp; done) | (simp [*]; done)), H', ⟨by have := HJ2.out; have := HK2.out; first | omega | exact Nat.le_refl _⟩, ⟨by (with_reducible repeat (first | apply Kd.R_alloc | apply Kd.R_drewN | apply Kd.R_drew)); exact HO_5.out⟩, ⟨by (with_reducible repeat (first | apply Kd.R_alloc | apply Kd.R_drewN | apply Kd.R_drew)); exact HO_6.out⟩, ⟨by repeat (first | (with_reducible first | exact HB.out | apply below_alloc | apply pw_below_drewN | apply below_drew1) | exact HB.out)⟩⟩
                      · rw [if_neg c17] at H
                        have c17b0 : (x7_2 == 1) = false := beq_eq_false_iff_ne.mpr c17
                        have c17b1 : (x7_2 != 1) = true := bne_iff_ne.mpr c17
                        (first | rw [c17b0] | (simp only [i64_w, i32_w]; rw [c17b0]) | skip)
                        have H' := Aside0.mk H
                        clear H
                        go_wp2
                        go_meet
                        case rel => exact ⟨_, (23), (by first | rfl | (simp; done) | (simp [*]; done)), H', ⟨by have := HJ2.out; have := HK2.out; first | omega | exact Nat.le_refl _⟩, ⟨by (with_reducible repeat (first | apply Kd.R_alloc | apply Kd.R_drewN | apply Kd.R_drew)); exact HO_5.out⟩, ⟨by (with_reducible repeat (first | apply Kd.R_alloc | apply Kd.R_drewN | apply Kd.R_drew)); exact HO_6.out⟩, ⟨by repeat (first | (with_reducible first | exact HB.out | apply below_alloc | apply pw_below_drewN | apply below_drew1) | exact HB.out)⟩⟩
                    case rest =>
                      clear HC16
                      try clear c1
                      try clear p2
                      try clear c3
                      try clear c4
                      try clear c4b0
                      try clear c4b1
                      try clear c5
                      try clear c6
                      try clear c6b0
                      try clear c6b1
                      try clear c6b2
                      try clear c8
                      try clear c9
                      try clear c11
                      try clear c15
                      try clear c15b0
                      try clear c17
                      try clear c17b0
                      try clear c17b1
                      try clear p2
                      obtain ⟨kq, x8_15, rfl, HA, HJ15, HO_5, HO_6, HB⟩ := hcut
                      cases kq with
                      | zero => exact absurd HA.out (by simp [laws_FnTreesTurn.j2])
                      | succ kj15 =>
                        have H := HA.out
                        clear HA
                        simp only [laws_FnTreesTurn.j2] at H
                        replace H := Option.bind_eq_some_iff.mp H
                        obtain ⟨t138, A180, H⟩ := H
                        replace H : ((laws_treeLast.f t138 1).bind fun bt141 => ((impl_BtreeRun.f x8_15 t126 y135).bind fun t151 => ((laws_treeLast.f t151 1).bind fun bt154 => (if bt141.2.2.2.2 = true then (if bt154.2.2.2.2 = true then (if (bt154.2.2.1.length : Int) = (bt141.2.2.1.length : Int) then (if (bt141.2.2.2.1.length : Int) = (bt141.2.2.1.length : Int) then (laws_FnTreesTurn.j3 kj15 l0 t126 y135 x7_2 (bt141.2.2.1.length : Int) ((bt154.2.2.2.1.length : Int) != (bt141.2.2.1.length : Int)) bt141.1 bt141.2.1 bt141.2.2.1 bt141.2.2.2.1 bt154.1 bt154.2.1 bt154.2.2.1 bt154.2.2.2.1) else (laws_FnTreesTurn.j3 kj15 l0 t126 y135 x7_2 (bt141.2.2.1.length : Int) true bt141.1 bt141.2.1 bt141.2.2.1 bt141.2.2.2.1 bt154.1 bt154.2.1 bt154.2.2.1 bt154.2.2.2.1)) else (laws_FnTreesTurn.j3 kj15 l0 t126 y135 x7_2 (bt141.2.2.1.length : Int) true bt141.1 bt141.2.1 bt141.2.2.1 bt141.2.2.2.1 bt154.1 bt154.2.1 bt154.2.2.1 bt154.2.2.2.1)) else (laws_FnTreesTurn.j3 kj15 l0 t126 y135 x7_2 (bt141.2.2.1.length : Int) true bt141.1 bt141.2.1 bt141.2.2.1 bt141.2.2.2.1 bt154.1 bt154.2.1 bt154.2.2.1 bt154.2.2.2.1)) else (laws_FnTreesTurn.j3 kj15 l0 t126 y135 x7_2 (bt141.2.2.1.length : Int) true bt141.1 bt141.2.1 bt141.2.2.1 bt141.2.2.2.1 bt154.1 bt154.2.1 bt154.2.2.1 bt154.2.2.2.1))))) = some r := H
                        have A18 := Aside0.mk A180
                        clear A180
                        replace H := Option.bind_eq_some_iff.mp H
                        obtain ⟨⟨t141, t142, t143, t146, t149⟩, A190, H⟩ := H
                        replace H : ((impl_BtreeRun.f x8_15 t126 y135).bind fun t151 => ((laws_treeLast.f t151 1).bind fun bt154 => (if t149 = true then (if bt154.2.2.2.2 = true then (if (bt154.2.2.1.length : Int) = (t143.length : Int) then (if (t146.length : Int) = (t143.length : Int) then (laws_FnTreesTurn.j3 kj15 l0 t126 y135 x7_2 (t143.length : Int) ((bt154.2.2.2.1.length : Int) != (t143.length : Int)) t141 t142 t143 t146 bt154.1 bt154.2.1 bt154.2.2.1 bt154.2.2.2.1) else (laws_FnTreesTurn.j3 kj15 l0 t126 y135 x7_2 (t143.length : Int) true t141 t142 t143 t146 bt154.1 bt154.2.1 bt154.2.2.1 bt154.2.2.2.1)) else (laws_FnTreesTurn.j3 kj15 l0 t126 y135 x7_2 (t143.length : Int) true t141 t142 t143 t146 bt154.1 bt154.2.1 bt154.2.2.1 bt154.2.2.2.1)) else (laws_FnTreesTurn.j3 kj15 l0 t126 y135 x7_2 (t143.length : Int) true t141 t142 t143 t146 bt154.1 bt154.2.1 bt154.2.2.1 bt154.2.2.2.1)) else (laws_FnTreesTurn.j3 kj15 l0 t126 y135 x7_2 (t143.length : Int) true t141 t142 t143 t146 bt154.1 bt154.2.1 bt154.2.2.1 bt154.2.2.2.1)))) = some r := H
                        have A19 := Aside0.mk A190
                        clear A190
                        replace H := Option.bind_eq_some_iff.mp H
                        obtain ⟨t151, A200, H⟩ := H
                        replace H : ((laws_treeLast.f t151 1).bind fun bt154 => (if t149 = true then (if bt154.2.2.2.2 = true then (if (bt154.2.2.1.length : Int) = (t143.length : Int) then (if (t146.length : Int) = (t143.length : Int) then (laws_FnTreesTurn.j3 kj15 l0 t126 y135 x7_2 (t143.length : Int) ((bt154.2.2.2.1.length : Int) != (t143.length : Int)) t141 t142 t143 t146 bt154.1 bt154.2.1 bt154.2.2.1 bt154.2.2.2.1) else (laws_FnTreesTurn.j3 kj15 l0 t126 y135 x7_2 (t143.length : Int) true t141 t142 t143 t146 bt154.1 bt154.2.1 bt154.2.2.1 bt154.2.2.2.1)) else (laws_FnTreesTurn.j3 kj15 l0 t126 y135 x7_2 (t143.length : Int) true t141 t142 t143 t146 bt154.1 bt154.2.1 bt154.2.2.1 bt154.2.2.2.1)) else (laws_FnTreesTurn.j3 kj15 l0 t126 y135 x7_2 (t143.length : Int) true t141 t142 t143 t146 bt154.1 bt154.2.1 bt154.2.2.1 bt154.2.2.2.1)) else (laws_FnTreesTurn.j3 kj15 l0 t126 y135 x7_2 (t143.length : Int) true t141 t142 t143 t146 bt154.1 bt154.2.1 bt154.2.2.1 bt154.2.2.2.1))) = some r := H
                        have A20 := Aside0.mk A200
                        clear A200
                        replace H := Option.bind_eq_some_iff.mp H
                        obtain ⟨⟨t154, t155, t156, t159, t162⟩, A210, H⟩ := H
                        replace H : (if t149 = true then (if t162 = true then (if (t156.length : Int) = (t143.length : Int) then (if (t146.length : Int) = (t143.length : Int) then (laws_FnTreesTurn.j3 kj15 l0 t126 y135 x7_2 (t143.length : Int) ((t159.length : Int) != (t143.length : Int)) t141 t142 t143 t146 t154 t155 t156 t159) else (laws_FnTreesTurn.j3 kj15 l0 t126 y135 x7_2 (t143.length : Int) true t141 t142 t143 t146 t154 t155 t156 t159)) else (laws_FnTreesTurn.j3 kj15 l0 t126 y135 x7_2 (t143.length : Int) true t141 t142 t143 t146 t154 t155 t156 t159)) else (laws_FnTreesTurn.j3 kj15 l0 t126 y135 x7_2 (t143.length : Int) true t141 t142 t143 t146 t154 t155 t156 t159)) else (laws_FnTreesTurn.j3 kj15 l0 t126 y135 x7_2 (t143.length : Int) true t141 t142 t143 t146 t154 t155 t156 t159)) = some r := H
                        have A21 := Aside0.mk A210
                        clear A210
                        have HC22 := Aside0.mk H
                        clear H
                        obtain ⟨Ao23, co23, eo23⟩ := Kd.R_slice HO_6.out
                        subst eo23
                        go_upto_region 16 with (first | ((with_reducible refine gate_dst (N := 44) rfl ?_); refine goesRunL_ (some 44) rfl rfl x8_15 #[.slice A0 l0.length c0, .slice Ao23 y135.length co23] rfl (by rfl) (by (try simp only [List.map_toArray, List.map_cons, List.map_nil]); first | done | rfl | (simp only [List.length_drop, List.length_take]; rfl)) ?_; (with_reducible refine (impl_BtreeRun.calls x8_15 _ _ l0 _ _ y135 t138 _ ?side1 ?side2 ?side3 ?side4 A18.out).mono ?_); (case side1 => repeat (first | exact (Kd.C_below HR0.out HB.out) | (with_reducible refine Kd.C_alloc ?_ _) | (with_reducible refine Kd.C_drewN ?_ _) | (with_reducible refine Kd.C_drew ?_))); (case side2 => exact HC0.out); (case side3 => repeat (first | exact (Kd.R_reads' HO_6.out).2.2 | (with_reducible refine Kd.C_alloc ?_ _) | (with_reducible refine Kd.C_drewN ?_ _) | (with_reducible refine Kd.C_drew ?_))); (case side4 => exact (Kd.R_reads' HO_6.out).2.1); rintro e w24 ⟨v139, rfl, ho0, hb⟩; refine ⟨_, rfl, ?_⟩; have n0_ := Aside0.mk (Kd.R_below (by (with_reducible repeat (first | apply Kd.R_alloc | apply Kd.R_drewN | apply Kd.R_drew)); exact HO_5.out) hb); have n1_ := Aside0.mk (Kd.R_below (by (with_reducible repeat (first | apply Kd.R_alloc | apply Kd.R_drewN | apply Kd.R_drew)); exact HO_6.out) hb); have n2_ := Aside0.mk (Kd.S_lower (Kd.S_new' ho0 (Kd.R_lt (by (with_reducible repeat (first | apply Kd.R_alloc | apply Kd.R_drewN | apply Kd.R_drew)); exact HO_5.out))) (below_size (by repeat (first | (with_reducible first | exact HB.out | apply below_alloc | apply pw_below_drewN | apply below_drew1) | exact HB.out)))); have n3_ := Aside0.mk (below_step (by repeat (first | (with_reducible first | exact HB.out | apply below_alloc | apply pw_below_drewN | apply below_drew1) | exact HB.out)) hb); clear HO_5; clear HO_6; clear HB; have HO_5 := n0_; have HO_6 := n1_; have HO140 := n2_; have HB := n3_; clear n0_ n1_ n2_ n3_; (try clear hb); (try clear hb2); (try clear hk); (try clear hi); (try clear ho0); obtain ⟨Ao25, co25, eo25⟩ := Kd.S_slice HO140.out; subst eo25) | ((with_reducible refine gate_callee (f := 36) rfl ?_); refine goesL_ (some 45) rfl rfl Try.func36 (by kernel_rfl) rfl #[.slice Ao25 t138.length co25, .int .i64 1] rfl (by (try simp only [List.map_toArray, List.map_cons, List.map_nil]); first | done | rfl | (simp only [List.length_drop, List.length_take]; rfl)) ?_; (with_reducible refine (laws_treeLast.calls (fun k_ => ((True ∧ some k_ ≠ (v127 : Value).ownBlock) ∧ some k_ ≠ (.slice Ao23 y135.length co23 : Value).ownBlock)) _ _ t138 1 t141 t142 t143 t146 t149 _ ?side1 A19.out).mono ?_); (case side1 => exact Kd.S_V (Kd.S_apart' (HO140.out) (Kd.R_typed HO_6.out) (by decide))); rintro e w26 ⟨v144, v147, rfl, ho0, ho1, hb⟩; refine ⟨_, rfl, ?_⟩; have n0_ := Aside0.mk (Kd.R_below (by (with_reducible repeat (first | apply Kd.R_alloc | apply Kd.R_drewN | apply Kd.R_drew)); exact HO_5.out) hb); have n1_ := Aside0.mk (Kd.R_below (by (with_reducible repeat (first | apply Kd.R_alloc | apply Kd.R_drewN | apply Kd.R_drew)); exact HO_6.out) hb); have n2_ := Aside0.mk (Kd.S_below (by (with_reducible repeat (first | apply Kd.S_alloc | apply Kd.S_drewN | apply Kd.S_drew)); exact HO140.out) hb); have n3_ := Aside0.mk (Kd.V_lower (Kd.V_mono (ok' := fun k_ => some k_ ≠ (v127 : Value).ownBlock ∧ some k_ ≠ (.slice Ao23 y135.length co23 : Value).ownBlock) ho0 (fun k_ hk_ => ⟨Or.elim hk_ (fun hs_ => hs_.1.2) (fun hn_ => (Kd.fresh' (Kd.R_lt (by (with_reducible repeat (first | apply Kd.R_alloc | apply Kd.R_drewN | apply Kd.R_drew)); exact HO_5.out)) k_ hn_)), Or.elim hk_ (fun hs_ => hs_.2) (fun hn_ => (Kd.fresh' (Kd.R_lt (by (with_reducible repeat (first | apply Kd.R_alloc | apply Kd.R_drewN | apply Kd.R_drew)); exact HO_6.out)) k_ hn_))⟩)) (below_size (by repeat (first | (with_reducible first | exact HB.out | apply below_alloc | apply pw_below_drewN | apply below_drew1) | exact HB.out)))); have n4_ := Aside0.mk (Kd.V_lower (Kd.V_mono (ok' := fun k_ => some k_ ≠ (v127 : Value).ownBlock ∧ some k_ ≠ (.slice Ao23 y135.length co23 : Value).ownBlock) ho1 (fun k_ hk_ => ⟨Or.elim hk_ (fun hs_ => hs_.1.2) (fun hn_ => (Kd.fresh' (Kd.R_lt (by (with_reducible repeat (first | apply Kd.R_alloc | apply Kd.R_drewN | apply Kd.R_drew)); exact HO_5.out)) k_ hn_)), Or.elim hk_ (fun hs_ => hs_.2) (fun hn_ => (Kd.fresh' (Kd.R_lt (by (with_reducible repeat (first | apply Kd.R_alloc | apply Kd.R_drewN | apply Kd.R_drew)); exact HO_6.out)) k_ hn_))⟩)) (below_size (by repeat (first | (with_reducible first | exact HB.out | apply below_alloc | apply pw_below_drewN | apply below_drew1) | exact HB.out)))); have n5_ := Aside0.mk (below_step (by repeat (first | (with_reducible first | exact HB.out | apply below_alloc | apply pw_below_drewN | apply below_drew1) | exact HB.out)) hb); clear HO_5; clear HO_6; clear HO140; clear HB; have HO_5 := n0_; have HO_6 := n1_; have HO140 := n2_; have HO145 := n3_; have HO148 := n4_; have HB := n5_; clear n0_ n1_ n2_ n3_ n4_ n5_; (try clear hb); (try clear hb2); (try clear hk); (try clear hi); (try clear ho0); (try clear ho1)) | ((with_reducible refine gate_dst (N := 9) rfl ?_); (try (refine gate_guard (by rfl) ?_; dsimp only)); refine box_event ?hg (N := 9) ?hd (cs := #[.int .i64 0, .bool false, .slice none 0 0, .slice none 0 0]) (t := 46) ?hr ?_; (case hd => rfl); (case hg => rfl); (case hr => first | (go_simp; done) | (go_simp; rfl)); intro gb150 hg w27 hbox hb; have n0_ := Aside0.mk (Kd.R_below (by (with_reducible repeat (first | apply Kd.R_alloc | apply Kd.R_drewN | apply Kd.R_drew)); exact HO_5.out) hb); have n1_ := Aside0.mk (Kd.R_below (by (with_reducible repeat (first | apply Kd.R_alloc | apply Kd.R_drewN | apply Kd.R_drew)); exact HO_6.out) hb); have n2_ := Aside0.mk (Kd.S_below (Kd.S_elderB (by (with_reducible repeat (first | apply Kd.S_alloc | apply Kd.S_drewN | apply Kd.S_drew)); exact HO140.out) gb150 (Nat.le_of_eq hg.symm)) hb); have n3_ := Aside0.mk (Kd.V_below (Kd.V_elderB (by (with_reducible repeat (first | apply Kd.V_alloc | apply Kd.V_drewN | apply Kd.V_drew)); exact HO145.out) gb150 (Nat.le_of_eq hg.symm)) hb); have n4_ := Aside0.mk (Kd.V_below (Kd.V_elderB (by (with_reducible repeat (first | apply Kd.V_alloc | apply Kd.V_drewN | apply Kd.V_drew)); exact HO148.out) gb150 (Nat.le_of_eq hg.symm)) hb); have n5_ := Aside0.mk (below_step (by repeat (first | (with_reducible first | exact HB.out | apply below_alloc | apply pw_below_drewN | apply below_drew1) | exact HB.out)) hb); have n6_ := Aside0.mk (hbox); have n7_ := Aside0.mk ((by rw [hg]; exact (below_size (by repeat (first | (with_reducible first | exact HB.out | apply below_alloc | apply pw_below_drewN | apply below_drew1) | exact HB.out))) : w.heap.size ≤ gb150)); have n8_ := Aside0.mk ((by rw [hg]; exact (below_size (by repeat (first | (with_reducible first | exact HB.out | apply below_alloc | apply pw_below_drewN | apply below_drew1) | exact HB.out))) : w.heap.size ≤ gb150)); clear HO_5; clear HO_6; clear HO140; clear HO145; clear HO148; clear HB; have HO_5 := n0_; have HO_6 := n1_; have HO140 := n2_; have HO145 := n3_; have HO148 := n4_; have HB := n5_; have BK150 := n6_; have GW150 := n7_; have GE150 := n8_; clear n0_ n1_ n2_ n3_ n4_ n5_ n6_ n7_ n8_; clear hb hbox hg; have hcz28_0 : w27.cell? ⟨gb150, 0, none⟩ = some (.int .i64 0) := (blk_cell BK150.out 0).trans rfl; have hcz28_1 : w27.cell? ⟨gb150, 1, none⟩ = some (.bool false) := (blk_cell BK150.out 1).trans rfl; have hcz28_2 : w27.cell? ⟨gb150, 2, none⟩ = some (.slice none 0 0) := (blk_cell BK150.out 2).trans rfl; have hcz28_3 : w27.cell? ⟨gb150, 3, none⟩ = some (.slice none 0 0) := (blk_cell BK150.out 3).trans rfl; have hfz28_0 := blk_frozen BK150.out 0; have hfz28_1 := blk_frozen BK150.out 1; have hfz28_2 := blk_frozen BK150.out 2; have hfz28_3 := blk_frozen BK150.out 3; obtain ⟨Ao29, co29, eo29⟩ := Kd.V_slice HO145.out; subst eo29; obtain ⟨Ao30, co30, eo30⟩ := Kd.V_slice HO148.out; subst eo30; obtain ⟨Ao31, co31, eo31⟩ := Kd.R_slice HO_5.out; subst eo31) | ((with_reducible refine gate_dst (N := 52) rfl ?_); refine goesRunL_ (some 52) rfl rfl x8_15 #[.slice Ao31 t126.length co31, .slice Ao23 y135.length co23] rfl (by rfl) (by (try simp only [List.map_toArray, List.map_cons, List.map_nil]); first | done | rfl | (simp only [List.length_drop, List.length_take]; rfl)) ?_; (with_reducible refine (impl_BtreeRun.calls x8_15 _ _ t126 _ _ y135 t151 _ ?side1 ?side2 ?side3 ?side4 A20.out).mono ?_); (case side1 => refine (Kd.R_reads' (e := 3) (base := w.heap.size) (ok := fun k_ => True) (n := t126.length) (c := co31) ?_).2.2; exact (by (with_reducible repeat (first | apply Kd.R_alloc | apply Kd.R_drewN | apply Kd.R_drew)); exact (Kd.R_mono (Kd.R_far (p := ⟨gb150, 3, none⟩) (Kd.R_far (p := ⟨gb150, 2, none⟩) (Kd.R_far (p := ⟨gb150, 1, none⟩) (Kd.R_far (p := ⟨gb150, 0, none⟩) (Kd.R_types HO_5.out BK150.out (by decide)) (fun _ hk => hk.2) (.int .i64 t141)) (fun _ hk => hk.2) (.bool t142)) (fun _ hk => hk.2) (.slice Ao29 t143.length co29)) (fun _ hk => hk.2) (.slice Ao30 t146.length co30)) (fun _ h_ => h_.1)))); (case side2 => exact (Kd.R_reads' HO_5.out).2.1); (case side3 => refine (Kd.R_reads' (e := 66) (base := w.heap.size) (ok := fun k_ => True) (n := y135.length) (c := co23) ?_).2.2; exact (by (with_reducible repeat (first | apply Kd.R_alloc | apply Kd.R_drewN | apply Kd.R_drew)); exact (Kd.R_mono (Kd.R_far (p := ⟨gb150, 3, none⟩) (Kd.R_far (p := ⟨gb150, 2, none⟩) (Kd.R_far (p := ⟨gb150, 1, none⟩) (Kd.R_far (p := ⟨gb150, 0, none⟩) (Kd.R_types HO_6.out BK150.out (by decide)) (fun _ hk => hk.2) (.int .i64 t141)) (fun _ hk => hk.2) (.bool t142)) (fun _ hk => hk.2) (.slice Ao29 t143.length co29)) (fun _ hk => hk.2) (.slice Ao30 t146.length co30)) (fun _ h_ => h_.1)))); (case side4 => exact (Kd.R_reads' HO_6.out).2.1); rintro e w32 ⟨v152, rfl, ho0, hb⟩; refine ⟨_, rfl, ?_⟩; have n0_ := Aside0.mk (Kd.R_below (by (with_reducible repeat (first | apply Kd.R_alloc | apply Kd.R_drewN | apply Kd.R_drew)); exact (Kd.R_mono (Kd.R_far (p := ⟨gb150, 3, none⟩) (Kd.R_far (p := ⟨gb150, 2, none⟩) (Kd.R_far (p := ⟨gb150, 1, none⟩) (Kd.R_far (p := ⟨gb150, 0, none⟩) (Kd.R_types HO_5.out BK150.out (by decide)) (fun _ hk => hk.2) (.int .i64 t141)) (fun _ hk => hk.2) (.bool t142)) (fun _ hk => hk.2) (.slice Ao29 t143.length co29)) (fun _ hk => hk.2) (.slice Ao30 t146.length co30)) (fun _ h_ => h_.1))) hb); have n1_ := Aside0.mk (Kd.R_below (by (with_reducible repeat (first | apply Kd.R_alloc | apply Kd.R_drewN | apply Kd.R_drew)); exact (Kd.R_mono (Kd.R_far (p := ⟨gb150, 3, none⟩) (Kd.R_far (p := ⟨gb150, 2, none⟩) (Kd.R_far (p := ⟨gb150, 1, none⟩) (Kd.R_far (p := ⟨gb150, 0, none⟩) (Kd.R_types HO_6.out BK150.out (by decide)) (fun _ hk => hk.2) (.int .i64 t141)) (fun _ hk => hk.2) (.bool t142)) (fun _ hk => hk.2) (.slice Ao29 t143.length co29)) (fun _ hk => hk.2) (.slice Ao30 t146.length co30)) (fun _ h_ => h_.1))) hb); have n2_ := Aside0.mk (Kd.S_elder' (by (with_reducible repeat (first | apply Kd.S_alloc | apply Kd.S_drewN | apply Kd.S_drew)); exact (Kd.S_mono (Kd.S_far (p := ⟨gb150, 3, none⟩) (Kd.S_far (p := ⟨gb150, 2, none⟩) (Kd.S_far (p := ⟨gb150, 1, none⟩) (Kd.S_far (p := ⟨gb150, 0, none⟩) (Kd.S_mono HO140.out (fun k_ hk => (⟨hk, hk.2⟩ : _ ∧ k_ ≠ gb150))) (fun _ hk => hk.2) (.int .i64 t141)) (fun _ hk => hk.2) (.bool t142)) (fun _ hk => hk.2) (.slice Ao29 t143.length co29)) (fun _ hk => hk.2) (.slice Ao30 t146.length co30)) (fun _ h_ => h_.1))) (Kd.S_base ho0) hb); have n3_ := Aside0.mk (Kd.V_elder' (by (with_reducible repeat (first | apply Kd.V_alloc | apply Kd.V_drewN | apply Kd.V_drew)); exact (Kd.V_mono (Kd.V_far (p := ⟨gb150, 3, none⟩) (Kd.V_far (p := ⟨gb150, 2, none⟩) (Kd.V_far (p := ⟨gb150, 1, none⟩) (Kd.V_far (p := ⟨gb150, 0, none⟩) (Kd.V_mono HO145.out (fun k_ hk => (⟨hk, hk.2⟩ : _ ∧ k_ ≠ gb150))) (fun _ hk => hk.2) (.int .i64 t141)) (fun _ hk => hk.2) (.bool t142)) (fun _ hk => hk.2) (.slice Ao29 t143.length co29)) (fun _ hk => hk.2) (.slice Ao30 t146.length co30)) (fun _ h_ => h_.1))) (Kd.S_base ho0) hb); have n4_ := Aside0.mk (Kd.V_elder' (by (with_reducible repeat (first | apply Kd.V_alloc | apply Kd.V_drewN | apply Kd.V_drew)); exact (Kd.V_mono (Kd.V_far (p := ⟨gb150, 3, none⟩) (Kd.V_far (p := ⟨gb150, 2, none⟩) (Kd.V_far (p := ⟨gb150, 1, none⟩) (Kd.V_far (p := ⟨gb150, 0, none⟩) (Kd.V_mono HO148.out (fun k_ hk => (⟨hk, hk.2⟩ : _ ∧ k_ ≠ gb150))) (fun _ hk => hk.2) (.int .i64 t141)) (fun _ hk => hk.2) (.bool t142)) (fun _ hk => hk.2) (.slice Ao29 t143.length co29)) (fun _ hk => hk.2) (.slice Ao30 t146.length co30)) (fun _ h_ => h_.1))) (Kd.S_base ho0) hb); have n5_ := Aside0.mk (Kd.S_lower (Kd.S_newB (Kd.S_new' (Kd.S_new' ho0 (Kd.R_lt (by (with_reducible repeat (first | apply Kd.R_alloc | apply Kd.R_drewN | apply Kd.R_drew)); exact (Kd.R_mono (Kd.R_far (p := ⟨gb150, 3, none⟩) (Kd.R_far (p := ⟨gb150, 2, none⟩) (Kd.R_far (p := ⟨gb150, 1, none⟩) (Kd.R_far (p := ⟨gb150, 0, none⟩) (Kd.R_types HO_5.out BK150.out (by decide)) (fun _ hk => hk.2) (.int .i64 t141)) (fun _ hk => hk.2) (.bool t142)) (fun _ hk => hk.2) (.slice Ao29 t143.length co29)) (fun _ hk => hk.2) (.slice Ao30 t146.length co30)) (fun _ h_ => h_.1))))) (Kd.S_lt (by (with_reducible repeat (first | apply Kd.S_alloc | apply Kd.S_drewN | apply Kd.S_drew)); exact (Kd.S_mono (Kd.S_far (p := ⟨gb150, 3, none⟩) (Kd.S_far (p := ⟨gb150, 2, none⟩) (Kd.S_far (p := ⟨gb150, 1, none⟩) (Kd.S_far (p := ⟨gb150, 0, none⟩) (Kd.S_mono HO140.out (fun k_ hk => (⟨hk, hk.2⟩ : _ ∧ k_ ≠ gb150))) (fun _ hk => hk.2) (.int .i64 t141)) (fun _ hk => hk.2) (.bool t142)) (fun _ hk => hk.2) (.slice Ao29 t143.length co29)) (fun _ hk => hk.2) (.slice Ao30 t146.length co30)) (fun _ h_ => h_.1))))) (g := gb150) (o := .cells #[.int .i64 t141, .bool t142, .slice Ao29 t143.length co29, .slice Ao30 t146.length co30] 46 (0, 0)) (by (with_reducible repeat (first | refine blk_drewN ?_ _ | refine blk_drew ?_ | refine blk_alloc ?_ _)); refine blk_put (cs := #[.int .i64 t141, .bool t142, .slice Ao29 t143.length co29, .slice none 0 0]) ?_ 3 _ rfl; (with_reducible repeat (first | refine blk_drewN ?_ _ | refine blk_drew ?_ | refine blk_alloc ?_ _)); refine blk_put (cs := #[.int .i64 t141, .bool t142, .slice none 0 0, .slice none 0 0]) ?_ 2 _ rfl; (with_reducible repeat (first | refine blk_drewN ?_ _ | refine blk_drew ?_ | refine blk_alloc ?_ _)); refine blk_put (cs := #[.int .i64 t141, .bool false, .slice none 0 0, .slice none 0 0]) ?_ 1 _ rfl; (with_reducible repeat (first | refine blk_drewN ?_ _ | refine blk_drew ?_ | refine blk_alloc ?_ _)); refine blk_put (cs := #[.int .i64 0, .bool false, .slice none 0 0, .slice none 0 0]) ?_ 0 _ rfl; (with_reducible repeat (first | refine blk_drewN ?_ _ | refine blk_drew ?_ | refine blk_alloc ?_ _)); exact BK150.out)) (below_size (by repeat (first | (with_reducible first | exact HB.out | apply below_alloc | apply pw_below_drewN | apply below_drew1 | refine below_set ?_ GE150.out) | exact HB.out)))); have n6_ := Aside0.mk (blk_below (g := gb150) (o := .cells #[.int .i64 t141, .bool t142, .slice Ao29 t143.length co29, .slice Ao30 t146.length co30] 46 (0, 0)) (by (with_reducible repeat (first | refine blk_drewN ?_ _ | refine blk_drew ?_ | refine blk_alloc ?_ _)); refine blk_put (cs := #[.int .i64 t141, .bool t142, .slice Ao29 t143.length co29, .slice none 0 0]) ?_ 3 _ rfl; (with_reducible repeat (first | refine blk_drewN ?_ _ | refine blk_drew ?_ | refine blk_alloc ?_ _)); refine blk_put (cs := #[.int .i64 t141, .bool t142, .slice none 0 0, .slice none 0 0]) ?_ 2 _ rfl; (with_reducible repeat (first | refine blk_drewN ?_ _ | refine blk_drew ?_ | refine blk_alloc ?_ _)); refine blk_put (cs := #[.int .i64 t141, .bool false, .slice none 0 0, .slice none 0 0]) ?_ 1 _ rfl; (with_reducible repeat (first | refine blk_drewN ?_ _ | refine blk_drew ?_ | refine blk_alloc ?_ _)); refine blk_put (cs := #[.int .i64 0, .bool false, .slice none 0 0, .slice none 0 0]) ?_ 0 _ rfl; (with_reducible repeat (first | refine blk_drewN ?_ _ | refine blk_drew ?_ | refine blk_alloc ?_ _)); exact BK150.out) hb); have n7_ := Aside0.mk (below_step (by repeat (first | (with_reducible first | exact HB.out | apply below_alloc | apply pw_below_drewN | apply below_drew1 | refine below_set ?_ GE150.out) | exact HB.out)) hb); clear HO_5; clear HO_6; clear HO140; clear HO145; clear HO148; clear BK150; clear HB; have HO_5 := n0_; have HO_6 := n1_; have HO140 := n2_; have HO145 := n3_; have HO148 := n4_; have HO153 := n5_; have BK150 := n6_; have HB := n7_; clear n0_ n1_ n2_ n3_ n4_ n5_ n6_ n7_; (try clear hb); (try clear hb2); (try clear hk); (try clear hi); (try clear ho0); obtain ⟨Ao33, co33, eo33⟩ := Kd.S_slice HO153.out; subst eo33) | ((with_reducible refine gate_callee (f := 36) rfl ?_); refine goesL_ (some 53) rfl rfl Try.func36 (by kernel_rfl) rfl #[.slice Ao33 t151.length co33, .int .i64 1] rfl (by (try simp only [List.map_toArray, List.map_cons, List.map_nil]); first | done | rfl | (simp only [List.length_drop, List.length_take]; rfl)) ?_; (with_reducible refine (laws_treeLast.calls (fun k_ => ((((True ∧ some k_ ≠ (.slice Ao31 t126.length co31 : Value).ownBlock) ∧ some k_ ≠ (.slice Ao25 t138.length co25 : Value).ownBlock) ∧ k_ ≠ gb150) ∧ some k_ ≠ (.slice Ao23 y135.length co23 : Value).ownBlock)) _ _ t151 1 t154 t155 t156 t159 t162 _ ?side1 A21.out).mono ?_); (case side1 => exact Kd.S_V (Kd.S_apart' (HO153.out) (Kd.R_typed HO_6.out) (by decide))); rintro e w34 ⟨v157, v160, rfl, ho0, ho1, hb⟩; refine ⟨_, rfl, ?_⟩; have n0_ := Aside0.mk (Kd.R_below (by (with_reducible repeat (first | apply Kd.R_alloc | apply Kd.R_drewN | apply Kd.R_drew)); exact HO_5.out) hb); have n1_ := Aside0.mk (Kd.R_below (by (with_reducible repeat (first | apply Kd.R_alloc | apply Kd.R_drewN | apply Kd.R_drew)); exact HO_6.out) hb); have n2_ := Aside0.mk (Kd.S_below (by (with_reducible repeat (first | apply Kd.S_alloc | apply Kd.S_drewN | apply Kd.S_drew)); exact HO140.out) hb); have n3_ := Aside0.mk (Kd.V_below (by (with_reducible repeat (first | apply Kd.V_alloc | apply Kd.V_drewN | apply Kd.V_drew)); exact HO145.out) hb); have n4_ := Aside0.mk (Kd.V_below (by (with_reducible repeat (first | apply Kd.V_alloc | apply Kd.V_drewN | apply Kd.V_drew)); exact HO148.out) hb); have n5_ := Aside0.mk (Kd.S_below (by (with_reducible repeat (first | apply Kd.S_alloc | apply Kd.S_drewN | apply Kd.S_drew)); exact HO153.out) hb); have n6_ := Aside0.mk (Kd.V_lower (Kd.V_mono (ok' := fun k_ => some k_ ≠ (.slice Ao31 t126.length co31 : Value).ownBlock ∧ some k_ ≠ (.slice Ao23 y135.length co23 : Value).ownBlock ∧ some k_ ≠ (.slice Ao25 t138.length co25 : Value).ownBlock ∧ k_ ≠ gb150) ho0 (fun k_ hk_ => ⟨Or.elim hk_ (fun hs_ => hs_.1.1.1.2) (fun hn_ => (Kd.fresh' (Kd.R_lt (by (with_reducible repeat (first | apply Kd.R_alloc | apply Kd.R_drewN | apply Kd.R_drew)); exact HO_5.out)) k_ hn_)), Or.elim hk_ (fun hs_ => hs_.2) (fun hn_ => (Kd.fresh' (Kd.R_lt (by (with_reducible repeat (first | apply Kd.R_alloc | apply Kd.R_drewN | apply Kd.R_drew)); exact HO_6.out)) k_ hn_)), Or.elim hk_ (fun hs_ => hs_.1.1.2) (fun hn_ => (Kd.fresh' (Kd.S_lt (by (with_reducible repeat (first | apply Kd.S_alloc | apply Kd.S_drewN | apply Kd.S_drew)); exact HO140.out)) k_ hn_)), Or.elim hk_ (fun hs_ => hs_.1.2) (fun hn_ => (Kd.freshB (g := gb150) (o := .cells #[.int .i64 t141, .bool t142, .slice Ao29 t143.length co29, .slice Ao30 t146.length co30] 46 (0, 0)) (by (with_reducible repeat (first | refine blk_drewN ?_ _ | refine blk_drew ?_ | refine blk_alloc ?_ _)); exact BK150.out) k_ hn_))⟩)) (below_size (by repeat (first | (with_reducible first | exact HB.out | apply below_alloc | apply pw_below_drewN | apply below_drew1 | refine below_set ?_ GE150.out) | exact HB.out)))); have n7_ := Aside0.mk (Kd.V_lower (Kd.V_mono (ok' := fun k_ => some k_ ≠ (.slice Ao31 t126.length co31 : Value).ownBlock ∧ some k_ ≠ (.slice Ao23 y135.length co23 : Value).ownBlock ∧ some k_ ≠ (.slice Ao25 t138.length co25 : Value).ownBlock ∧ k_ ≠ gb150) ho1 (fun k_ hk_ => ⟨Or.elim hk_ (fun hs_ => hs_.1.1.1.2) (fun hn_ => (Kd.fresh' (Kd.R_lt (by (with_reducible repeat (first | apply Kd.R_alloc | apply Kd.R_drewN | apply Kd.R_drew)); exact HO_5.out)) k_ hn_)), Or.elim hk_ (fun hs_ => hs_.2) (fun hn_ => (Kd.fresh' (Kd.R_lt (by (with_reducible repeat (first | apply Kd.R_alloc | apply Kd.R_drewN | apply Kd.R_drew)); exact HO_6.out)) k_ hn_)), Or.elim hk_ (fun hs_ => hs_.1.1.2) (fun hn_ => (Kd.fresh' (Kd.S_lt (by (with_reducible repeat (first | apply Kd.S_alloc | apply Kd.S_drewN | apply Kd.S_drew)); exact HO140.out)) k_ hn_)), Or.elim hk_ (fun hs_ => hs_.1.2) (fun hn_ => (Kd.freshB (g := gb150) (o := .cells #[.int .i64 t141, .bool t142, .slice Ao29 t143.length co29, .slice Ao30 t146.length co30] 46 (0, 0)) (by (with_reducible repeat (first | refine blk_drewN ?_ _ | refine blk_drew ?_ | refine blk_alloc ?_ _)); exact BK150.out) k_ hn_))⟩)) (below_size (by repeat (first | (with_reducible first | exact HB.out | apply below_alloc | apply pw_below_drewN | apply below_drew1 | refine below_set ?_ GE150.out) | exact HB.out)))); have n8_ := Aside0.mk (blk_below (g := gb150) (o := .cells #[.int .i64 t141, .bool t142, .slice Ao29 t143.length co29, .slice Ao30 t146.length co30] 46 (0, 0)) (by (with_reducible repeat (first | refine blk_drewN ?_ _ | refine blk_drew ?_ | refine blk_alloc ?_ _)); exact BK150.out) hb); have n9_ := Aside0.mk (below_step (by repeat (first | (with_reducible first | exact HB.out | apply below_alloc | apply pw_below_drewN | apply below_drew1 | refine below_set ?_ GE150.out) | exact HB.out)) hb); clear HO_5; clear HO_6; clear HO140; clear HO145; clear HO148; clear HO153; clear BK150; clear HB; have HO_5 := n0_; have HO_6 := n1_; have HO140 := n2_; have HO145 := n3_; have HO148 := n4_; have HO153 := n5_; have HO158 := n6_; have HO161 := n7_; have BK150 := n8_; have HB := n9_; clear n0_ n1_ n2_ n3_ n4_ n5_ n6_ n7_ n8_ n9_; (try clear hb); (try clear hb2); (try clear hk); (try clear hi); (try clear ho0); (try clear ho1)) | ((with_reducible refine gate_dst (N := 11) rfl ?_); (try (refine gate_guard (by rfl) ?_; dsimp only)); refine box_event ?hg (N := 11) ?hd (cs := #[.int .i64 0, .bool false, .slice none 0 0, .slice none 0 0]) (t := 46) ?hr ?_; (case hd => rfl); (case hg => rfl); (case hr => first | (go_simp; done) | (go_simp; rfl)); intro gb163 hg w35 hbox hb; have n0_ := Aside0.mk (Kd.R_below (by (with_reducible repeat (first | apply Kd.R_alloc | apply Kd.R_drewN | apply Kd.R_drew)); exact HO_5.out) hb); have n1_ := Aside0.mk (Kd.R_below (by (with_reducible repeat (first | apply Kd.R_alloc | apply Kd.R_drewN | apply Kd.R_drew)); exact HO_6.out) hb); have n2_ := Aside0.mk (Kd.S_below (Kd.S_elderB (by (with_reducible repeat (first | apply Kd.S_alloc | apply Kd.S_drewN | apply Kd.S_drew)); exact HO140.out) gb163 (Nat.le_of_eq hg.symm)) hb); have n3_ := Aside0.mk (Kd.V_below (Kd.V_elderB (by (with_reducible repeat (first | apply Kd.V_alloc | apply Kd.V_drewN | apply Kd.V_drew)); exact HO145.out) gb163 (Nat.le_of_eq hg.symm)) hb); have n4_ := Aside0.mk (Kd.V_below (Kd.V_elderB (by (with_reducible repeat (first | apply Kd.V_alloc | apply Kd.V_drewN | apply Kd.V_drew)); exact HO148.out) gb163 (Nat.le_of_eq hg.symm)) hb); have n5_ := Aside0.mk (Kd.S_below (Kd.S_elderB (by (with_reducible repeat (first | apply Kd.S_alloc | apply Kd.S_drewN | apply Kd.S_drew)); exact HO153.out) gb163 (Nat.le_of_eq hg.symm)) hb); have n6_ := Aside0.mk (Kd.V_below (Kd.V_elderB (by (with_reducible repeat (first | apply Kd.V_alloc | apply Kd.V_drewN | apply Kd.V_drew)); exact HO158.out) gb163 (Nat.le_of_eq hg.symm)) hb); have n7_ := Aside0.mk (Kd.V_below (Kd.V_elderB (by (with_reducible repeat (first | apply Kd.V_alloc | apply Kd.V_drewN | apply Kd.V_drew)); exact HO161.out) gb163 (Nat.le_of_eq hg.symm)) hb); have n8_ := Aside0.mk (blk_below (g := gb150) (o := .cells #[.int .i64 t141, .bool t142, .slice Ao29 t143.length co29, .slice Ao30 t146.length co30] 46 (0, 0)) (by (with_reducible repeat (first | refine blk_drewN ?_ _ | refine blk_drew ?_ | refine blk_alloc ?_ _)); exact BK150.out) hb); have n9_ := Aside0.mk (below_step (by repeat (first | (with_reducible first | exact HB.out | apply below_alloc | apply pw_below_drewN | apply below_drew1 | refine below_set ?_ GE150.out) | exact HB.out)) hb); have n10_ := Aside0.mk (hbox); have n11_ := Aside0.mk ((by rw [hg]; exact (below_size (by repeat (first | (with_reducible first | exact HB.out | apply below_alloc | apply pw_below_drewN | apply below_drew1 | refine below_set ?_ GE150.out) | exact HB.out))) : w.heap.size ≤ gb163)); have n12_ := Aside0.mk ((by rw [hg]; exact (below_size (by repeat (first | (with_reducible first | exact HB.out | apply below_alloc | apply pw_below_drewN | apply below_drew1 | refine below_set ?_ GE150.out) | exact HB.out))) : w.heap.size ≤ gb163)); have n13_ := Aside0.mk ((by rw [hg]; exact Nat.ne_of_lt (blk_lt (g := gb150) (o := .cells #[.int .i64 t141, .bool t142, .slice Ao29 t143.length co29, .slice Ao30 t146.length co30] 46 (0, 0)) (by (with_reducible repeat (first | refine blk_drewN ?_ _ | refine blk_drew ?_ | refine blk_alloc ?_ _)); exact BK150.out)) : gb150 ≠ gb163)); have n14_ := Aside0.mk ((by rw [hg]; exact Nat.ne_of_gt (blk_lt (g := gb150) (o := .cells #[.int .i64 t141, .bool t142, .slice Ao29 t143.length co29, .slice Ao30 t146.length co30] 46 (0, 0)) (by (with_reducible repeat (first | refine blk_drewN ?_ _ | refine blk_drew ?_ | refine blk_alloc ?_ _)); exact BK150.out)) : gb163 ≠ gb150)); clear HO_5; clear HO_6; clear HO140; clear HO145; clear HO148; clear HO153; clear HO158; clear HO161; clear BK150; clear HB; have HO_5 := n0_; have HO_6 := n1_; have HO140 := n2_; have HO145 := n3_; have HO148 := n4_; have HO153 := n5_; have HO158 := n6_; have HO161 := n7_; have BK150 := n8_; have HB := n9_; have BK163 := n10_; have GW163 := n11_; have GE163 := n12_; have NB150_163 := n13_; have NB163_150 := n14_; clear n0_ n1_ n2_ n3_ n4_ n5_ n6_ n7_ n8_ n9_ n10_ n11_ n12_ n13_ n14_; clear hb hbox hg; have hnb36 := NB163_150.out; have hnc36 := NB150_163.out; have hcz37_0 : w35.cell? ⟨gb163, 0, none⟩ = some (.int .i64 0) := (blk_cell BK163.out 0).trans rfl; have hcz37_1 : w35.cell? ⟨gb163, 1, none⟩ = some (.bool false) := (blk_cell BK163.out 1).trans rfl; have hcz37_2 : w35.cell? ⟨gb163, 2, none⟩ = some (.slice none 0 0) := (blk_cell BK163.out 2).trans rfl; have hcz37_3 : w35.cell? ⟨gb163, 3, none⟩ = some (.slice none 0 0) := (blk_cell BK163.out 3).trans rfl; have hfz37_0 := blk_frozen BK163.out 0; have hfz37_1 := blk_frozen BK163.out 1; have hfz37_2 := blk_frozen BK163.out 2; have hfz37_3 := blk_frozen BK163.out 3; obtain ⟨Ao38, co38, eo38⟩ := Kd.V_slice HO158.out; subst eo38; obtain ⟨Ao39, co39, eo39⟩ := Kd.V_slice HO161.out; subst eo39; have hcz40_0 : w35.cell? ⟨gb150, 0, none⟩ = some (.int .i64 t141) := (blk_cell BK150.out 0).trans rfl; have hcz40_1 : w35.cell? ⟨gb150, 1, none⟩ = some (.bool t142) := (blk_cell BK150.out 1).trans rfl; have hcz40_2 : w35.cell? ⟨gb150, 2, none⟩ = some (.slice Ao29 t143.length co29) := (blk_cell BK150.out 2).trans rfl; have hcz40_3 : w35.cell? ⟨gb150, 3, none⟩ = some (.slice Ao30 t146.length co30) := (blk_cell BK150.out 3).trans rfl; have hfz40_0 := blk_frozen BK150.out 0; have hfz40_1 := blk_frozen BK150.out 1; have hfz40_2 := blk_frozen BK150.out 2; have hfz40_3 := blk_frozen BK150.out 3))
                        (try simp only [Act.put, List.setIfInBounds_toArray, List.set_cons_zero, List.set_cons_succ])
                        go_cut [85] (fun v85 wc => ∃ (kq : Nat) (x85_21 : Bool), v85 = .bool x85_21 ∧ Aside0 (laws_FnTreesTurn.j3 kq l0 t126 y135 x7_2 (t143.length : Int) x85_21 t141 t142 t143 t146 t154 t155 t156 t159 = some r) ∧ Aside0 (kq ≤ kj15) ∧ Aside0 (Kd.R (Kd.int .i64) 3 wc w.heap.size (fun _ => True) (.slice Ao31 t126.length co31) t126) ∧ Aside0 (Kd.R k66 66 wc w.heap.size (fun _ => True) (.slice Ao23 y135.length co23) y135) ∧ Aside0 (Kd.V (Kd.int .i64) 3 wc w.heap.size (fun k_ => some k_ ≠ ((.slice Ao31 t126.length co31) : Value).ownBlock ∧ some k_ ≠ ((.slice Ao23 y135.length co23) : Value).ownBlock ∧ k_ ≠ gb150 ∧ k_ ≠ gb163) (.slice Ao29 t143.length co29) t143) ∧ Aside0 (Kd.V (Kd.int .i64) 3 wc w.heap.size (fun k_ => some k_ ≠ ((.slice Ao31 t126.length co31) : Value).ownBlock ∧ some k_ ≠ ((.slice Ao23 y135.length co23) : Value).ownBlock ∧ k_ ≠ gb150 ∧ k_ ≠ gb163) (.slice Ao30 t146.length co30) t146) ∧ Aside0 (Kd.V (Kd.int .i64) 3 wc w.heap.size (fun k_ => some k_ ≠ ((.slice Ao31 t126.length co31) : Value).ownBlock ∧ some k_ ≠ ((.slice Ao23 y135.length co23) : Value).ownBlock ∧ k_ ≠ gb150 ∧ k_ ≠ gb163) (.slice Ao38 t156.length co38) t156) ∧ Aside0 (Kd.V (Kd.int .i64) 3 wc w.heap.size (fun k_ => some k_ ≠ ((.slice Ao31 t126.length co31) : Value).ownBlock ∧ some k_ ≠ ((.slice Ao23 y135.length co23) : Value).ownBlock ∧ k_ ≠ gb150 ∧ k_ ≠ gb163) (.slice Ao39 t159.length co39) t159) ∧ Aside0 (wc.heap[gb150]? = some (.cells #[.int .i64 t141, .bool t142, (.slice Ao29 t143.length co29), (.slice Ao30 t146.length co30)] 46 (0, 0))) ∧ Aside0 (wc.heap[gb163]? = some (.cells #[.int .i64 t154, .bool t155, (.slice Ao38 t156.length co38), (.slice Ao39 t159.length co39)] 46 (0, 0))) ∧ Aside0 (Below w.heap.size w wc))
                        case first =>
                          have H := HC22.out
                          clear HC22
                          by_cases c41 : t149 = true
                          · subst c41
                            have H1 : (if t162 = true then (if (t156.length : Int) = (t143.length : Int) then (if (t146.length : Int) = (t143.length : Int) then (laws_FnTreesTurn.j3 kj15 l0 t126 y135 x7_2 (t143.length : Int) ((t159.length : Int) != (t143.length : Int)) t141 t142 t143 t146 t154 t155 t156 t159) else (laws_FnTreesTurn.j3 kj15 l0 t126 y135 x7_2 (t143.length : Int) true t141 t142 t143 t146 t154 t155 t156 t159)) else (laws_FnTreesTurn.j3 kj15 l0 t126 y135 x7_2 (t143.length : Int) true t141 t142 t143 t146 t154 t155 t156 t159)) else (laws_FnTreesTurn.j3 kj15 l0 t126 y135 x7_2 (t143.length : Int) true t141 t142 t143 t146 t154 t155 t156 t159)) = some r := by rw [if_pos rfl] at H; exact H
                            clear H
                            have H := H1
                            clear H1
                            by_cases c42 : t162 = true
                            · subst c42
                              have H1 : (if (t156.length : Int) = (t143.length : Int) then (if (t146.length : Int) = (t143.length : Int) then (laws_FnTreesTurn.j3 kj15 l0 t126 y135 x7_2 (t143.length : Int) ((t159.length : Int) != (t143.length : Int)) t141 t142 t143 t146 t154 t155 t156 t159) else (laws_FnTreesTurn.j3 kj15 l0 t126 y135 x7_2 (t143.length : Int) true t141 t142 t143 t146 t154 t155 t156 t159)) else (laws_FnTreesTurn.j3 kj15 l0 t126 y135 x7_2 (t143.length : Int) true t141 t142 t143 t146 t154 t155 t156 t159)) = some r := by rw [if_pos rfl] at H; exact H
                              clear H
                              have H := H1
                              clear H1
                              by_cases c43 : (t156.length : Int) = (t143.length : Int)
                              · rw [if_pos c43] at H
                                have c43b0 : ((t156.length : Int) == (t143.length : Int)) = true := beq_iff_eq.mpr c43
                                have c43b1 : ((t156.length : Int) != (t143.length : Int)) = false := bne_eq_false_iff_eq.mpr c43
                                have c43b2 : (t156.length == t143.length) = true := by first | simpa using c43 | (simp at c43 ⊢; omega)
                                clear c43
                                (first | rw [c43b0] | (simp only [i64_w, i32_w]; rw [c43b0]) | skip)
                                by_cases c44 : (t146.length : Int) = (t143.length : Int)
                                · rw [if_pos c44] at H
                                  have c44b0 : ((t146.length : Int) == (t143.length : Int)) = true := beq_iff_eq.mpr c44
                                  have c44b1 : ((t146.length : Int) != (t143.length : Int)) = false := bne_eq_false_iff_eq.mpr c44
                                  have c44b2 : (t146.length == t143.length) = true := by first | simpa using c44 | (simp at c44 ⊢; omega)
                                  clear c44
                                  have H' := Aside0.mk H
                                  clear H
                                  have hnb45 := NB163_150.out
                                  have hnc45 := NB150_163.out
                                  have hcz46_0 : w35.cell? ⟨gb163, 0, none⟩ = some (.int .i64 0) := (blk_cell BK163.out 0).trans rfl
                                  have hcz46_1 : w35.cell? ⟨gb163, 1, none⟩ = some (.bool false) := (blk_cell BK163.out 1).trans rfl
                                  have hcz46_2 : w35.cell? ⟨gb163, 2, none⟩ = some (.slice none 0 0) := (blk_cell BK163.out 2).trans rfl
                                  have hcz46_3 : w35.cell? ⟨gb163, 3, none⟩ = some (.slice none 0 0) := (blk_cell BK163.out 3).trans rfl
                                  have hfz46_0 := blk_frozen BK163.out 0
                                  have hfz46_1 := blk_frozen BK163.out 1
                                  have hfz46_2 := blk_frozen BK163.out 2
                                  have hfz46_3 := blk_frozen BK163.out 3
                                  have hcz47_0 : w35.cell? ⟨gb150, 0, none⟩ = some (.int .i64 t141) := (blk_cell BK150.out 0).trans rfl
                                  have hcz47_1 : w35.cell? ⟨gb150, 1, none⟩ = some (.bool t142) := (blk_cell BK150.out 1).trans rfl
                                  have hcz47_2 : w35.cell? ⟨gb150, 2, none⟩ = some (.slice Ao29 t143.length co29) := (blk_cell BK150.out 2).trans rfl
                                  have hcz47_3 : w35.cell? ⟨gb150, 3, none⟩ = some (.slice Ao30 t146.length co30) := (blk_cell BK150.out 3).trans rfl
                                  have hfz47_0 := blk_frozen BK150.out 0
                                  have hfz47_1 := blk_frozen BK150.out 1
                                  have hfz47_2 := blk_frozen BK150.out 2
                                  have hfz47_3 := blk_frozen BK150.out 3
                                  go_wp2
                                  go_meet
                                  case rel => exact ⟨_, (((t159.length : Int) != (t143.length : Int))), (by first | rfl | (simp; done) | (simp [*]; done)), H', ⟨by have := HJ2.out; have := HK2.out; have := HJ15.out; first | omega | exact Nat.le_refl _⟩, ⟨by (with_reducible repeat (first | apply Kd.R_alloc | apply Kd.R_drewN | apply Kd.R_drew)); exact Kd.R_mono (Kd.R_far (p := ⟨gb163, 3, none⟩) (Kd.R_far (p := ⟨gb163, 2, none⟩) (Kd.R_far (p := ⟨gb163, 1, none⟩) (Kd.R_far (p := ⟨gb163, 0, none⟩) (Kd.R_types HO_5.out BK163.out (by decide)) (fun _ hk => hk.2) (.int .i64 t154)) (fun _ hk => hk.2) (.bool t155)) (fun _ hk => hk.2) (.slice Ao38 t156.length co38)) (fun _ hk => hk.2) (.slice Ao39 t159.length co39)) (fun _ hk => trivial)⟩, ⟨by (with_reducible repeat (first | apply Kd.R_alloc | apply Kd.R_drewN | apply Kd.R_drew)); exact Kd.R_mono (Kd.R_far (p := ⟨gb163, 3, none⟩) (Kd.R_far (p := ⟨gb163, 2, none⟩) (Kd.R_far (p := ⟨gb163, 1, none⟩) (Kd.R_far (p := ⟨gb163, 0, none⟩) (Kd.R_types HO_6.out BK163.out (by decide)) (fun _ hk => hk.2) (.int .i64 t154)) (fun _ hk => hk.2) (.bool t155)) (fun _ hk => hk.2) (.slice Ao38 t156.length co38)) (fun _ hk => hk.2) (.slice Ao39 t159.length co39)) (fun _ hk => trivial)⟩, ⟨by (with_reducible repeat (first | apply Kd.V_alloc | apply Kd.V_drewN | apply Kd.V_drew)); exact Kd.V_mono (Kd.V_far (p := ⟨gb163, 3, none⟩) (Kd.V_far (p := ⟨gb163, 2, none⟩) (Kd.V_far (p := ⟨gb163, 1, none⟩) (Kd.V_far (p := ⟨gb163, 0, none⟩) (Kd.V_mono HO145.out (fun k_ hk => (⟨hk, hk.2⟩ : _ ∧ k_ ≠ gb163))) (fun _ hk => hk.2) (.int .i64 t154)) (fun _ hk => hk.2) (.bool t155)) (fun _ hk => hk.2) (.slice Ao38 t156.length co38)) (fun _ hk => hk.2) (.slice Ao39 t159.length co39)) (fun _ hk => ⟨hk.1.1.1.1.1, ⟨hk.1.1.1.1.2, ⟨hk.1.1.1.2, hk.1.2⟩⟩⟩)⟩, ⟨by (with_reducible repeat (first | apply Kd.V_alloc | apply Kd.V_drewN | apply Kd.V_drew)); exact Kd.V_mono (Kd.V_far (p := ⟨gb163, 3, none⟩) (Kd.V_far (p := ⟨gb163, 2, none⟩) (Kd.V_far (p := ⟨gb163, 1, none⟩) (Kd.V_far (p := ⟨gb163, 0, none⟩) (Kd.V_mono HO148.out (fun k_ hk => (⟨hk, hk.2⟩ : _ ∧ k_ ≠ gb163))) (fun _ hk => hk.2) (.int .i64 t154)) (fun _ hk => hk.2) (.bool t155)) (fun _ hk => hk.2) (.slice Ao38 t156.length co38)) (fun _ hk => hk.2) (.slice Ao39 t159.length co39)) (fun _ hk => ⟨hk.1.1.1.1.1, ⟨hk.1.1.1.1.2, ⟨hk.1.1.1.2, hk.1.2⟩⟩⟩)⟩, ⟨by (with_reducible repeat (first | apply Kd.V_alloc | apply Kd.V_drewN | apply Kd.V_drew)); exact Kd.V_mono (Kd.V_far (p := ⟨gb163, 3, none⟩) (Kd.V_far (p := ⟨gb163, 2, none⟩) (Kd.V_far (p := ⟨gb163, 1, none⟩) (Kd.V_far (p := ⟨gb163, 0, none⟩) (Kd.V_mono HO158.out (fun k_ hk => (⟨hk, hk.2⟩ : _ ∧ k_ ≠ gb163))) (fun _ hk => hk.2) (.int .i64 t154)) (fun _ hk => hk.2) (.bool t155)) (fun _ hk => hk.2) (.slice Ao38 t156.length co38)) (fun _ hk => hk.2) (.slice Ao39 t159.length co39)) (fun _ hk => ⟨hk.1.1.1, ⟨hk.1.1.2.1, ⟨hk.1.1.2.2.2, hk.1.2⟩⟩⟩)⟩, ⟨by (with_reducible repeat (first | apply Kd.V_alloc | apply Kd.V_drewN | apply Kd.V_drew)); exact Kd.V_mono (Kd.V_far (p := ⟨gb163, 3, none⟩) (Kd.V_far (p := ⟨gb163, 2, none⟩) (Kd.V_far (p := ⟨gb163, 1, none⟩) (Kd.V_far (p := ⟨gb163, 0, none⟩) (Kd.V_mono HO161.out (fun k_ hk => (⟨hk, hk.2⟩ : _ ∧ k_ ≠ gb163))) (fun _ hk => hk.2) (.int .i64 t154)) (fun _ hk => hk.2) (.bool t155)) (fun _ hk => hk.2) (.slice Ao38 t156.length co38)) (fun _ hk => hk.2) (.slice Ao39 t159.length co39)) (fun _ hk => ⟨hk.1.1.1, ⟨hk.1.1.2.1, ⟨hk.1.1.2.2.2, hk.1.2⟩⟩⟩)⟩, ⟨by (with_reducible repeat (first | refine blk_drewN ?_ _ | refine blk_drew ?_ | refine blk_alloc ?_ _)); refine blk_far ?_ NB150_163.out _; (with_reducible repeat (first | refine blk_drewN ?_ _ | refine blk_drew ?_ | refine blk_alloc ?_ _)); refine blk_far ?_ NB150_163.out _; (with_reducible repeat (first | refine blk_drewN ?_ _ | refine blk_drew ?_ | refine blk_alloc ?_ _)); refine blk_far ?_ NB150_163.out _; (with_reducible repeat (first | refine blk_drewN ?_ _ | refine blk_drew ?_ | refine blk_alloc ?_ _)); refine blk_far ?_ NB150_163.out _; (with_reducible repeat (first | refine blk_drewN ?_ _ | refine blk_drew ?_ | refine blk_alloc ?_ _)); exact BK150.out⟩, ⟨by (with_reducible repeat (first | refine blk_drewN ?_ _ | refine blk_drew ?_ | refine blk_alloc ?_ _)); refine blk_put (cs := #[.int .i64 t154, .bool t155, .slice Ao38 t156.length co38, .slice none 0 0]) ?_ 3 _ rfl; (with_reducible repeat (first | refine blk_drewN ?_ _ | refine blk_drew ?_ | refine blk_alloc ?_ _)); refine blk_put (cs := #[.int .i64 t154, .bool t155, .slice none 0 0, .slice none 0 0]) ?_ 2 _ rfl; (with_reducible repeat (first | refine blk_drewN ?_ _ | refine blk_drew ?_ | refine blk_alloc ?_ _)); refine blk_put (cs := #[.int .i64 t154, .bool false, .slice none 0 0, .slice none 0 0]) ?_ 1 _ rfl; (with_reducible repeat (first | refine blk_drewN ?_ _ | refine blk_drew ?_ | refine blk_alloc ?_ _)); refine blk_put (cs := #[.int .i64 0, .bool false, .slice none 0 0, .slice none 0 0]) ?_ 0 _ rfl; (with_reducible repeat (first | refine blk_drewN ?_ _ | refine blk_drew ?_ | refine blk_alloc ?_ _)); exact BK163.out⟩, ⟨by repeat (first | (with_reducible first | exact HB.out | apply below_alloc | apply pw_below_drewN | apply below_drew1 | refine below_set ?_ GE150.out | refine below_set ?_ GE163.out) | exact HB.out)⟩⟩
                                · rw [if_neg c44] at H
                                  have c44b0 : ((t146.length : Int) == (t143.length : Int)) = false := beq_eq_false_iff_ne.mpr c44
                                  have c44b1 : ((t146.length : Int) != (t143.length : Int)) = true := bne_iff_ne.mpr c44
                                  have c44b2 : (t146.length == t143.length) = false := by first | simpa using c44 | (simp at c44 ⊢; omega)
                                  have H' := Aside0.mk H
                                  clear H
                                  have hnb48 := NB163_150.out
                                  have hnc48 := NB150_163.out
                                  have hcz49_0 : w35.cell? ⟨gb163, 0, none⟩ = some (.int .i64 0) := (blk_cell BK163.out 0).trans rfl
                                  have hcz49_1 : w35.cell? ⟨gb163, 1, none⟩ = some (.bool false) := (blk_cell BK163.out 1).trans rfl
                                  have hcz49_2 : w35.cell? ⟨gb163, 2, none⟩ = some (.slice none 0 0) := (blk_cell BK163.out 2).trans rfl
                                  have hcz49_3 : w35.cell? ⟨gb163, 3, none⟩ = some (.slice none 0 0) := (blk_cell BK163.out 3).trans rfl
                                  have hfz49_0 := blk_frozen BK163.out 0
                                  have hfz49_1 := blk_frozen BK163.out 1
                                  have hfz49_2 := blk_frozen BK163.out 2
                                  have hfz49_3 := blk_frozen BK163.out 3
                                  have hcz50_0 : w35.cell? ⟨gb150, 0, none⟩ = some (.int .i64 t141) := (blk_cell BK150.out 0).trans rfl
                                  have hcz50_1 : w35.cell? ⟨gb150, 1, none⟩ = some (.bool t142) := (blk_cell BK150.out 1).trans rfl
                                  have hcz50_2 : w35.cell? ⟨gb150, 2, none⟩ = some (.slice Ao29 t143.length co29) := (blk_cell BK150.out 2).trans rfl
                                  have hcz50_3 : w35.cell? ⟨gb150, 3, none⟩ = some (.slice Ao30 t146.length co30) := (blk_cell BK150.out 3).trans rfl
                                  have hfz50_0 := blk_frozen BK150.out 0
                                  have hfz50_1 := blk_frozen BK150.out 1
                                  have hfz50_2 := blk_frozen BK150.out 2
                                  have hfz50_3 := blk_frozen BK150.out 3
                                  go_wp2
                                  go_meet
                                  case rel => exact ⟨_, (true), (by first | rfl | (simp; done) | (simp [*]; done)), H', ⟨by have := HJ2.out; have := HK2.out; have := HJ15.out; first | omega | exact Nat.le_refl _⟩, ⟨by (with_reducible repeat (first | apply Kd.R_alloc | apply Kd.R_drewN | apply Kd.R_drew)); exact Kd.R_mono (Kd.R_far (p := ⟨gb163, 3, none⟩) (Kd.R_far (p := ⟨gb163, 2, none⟩) (Kd.R_far (p := ⟨gb163, 1, none⟩) (Kd.R_far (p := ⟨gb163, 0, none⟩) (Kd.R_types HO_5.out BK163.out (by decide)) (fun _ hk => hk.2) (.int .i64 t154)) (fun _ hk => hk.2) (.bool t155)) (fun _ hk => hk.2) (.slice Ao38 t156.length co38)) (fun _ hk => hk.2) (.slice Ao39 t159.length co39)) (fun _ hk => trivial)⟩, ⟨by (with_reducible repeat (first | apply Kd.R_alloc | apply Kd.R_drewN | apply Kd.R_drew)); exact Kd.R_mono (Kd.R_far (p := ⟨gb163, 3, none⟩) (Kd.R_far (p := ⟨gb163, 2, none⟩) (Kd.R_far (p := ⟨gb163, 1, none⟩) (Kd.R_far (p := ⟨gb163, 0, none⟩) (Kd.R_types HO_6.out BK163.out (by decide)) (fun _ hk => hk.2) (.int .i64 t154)) (fun _ hk => hk.2) (.bool t155)) (fun _ hk => hk.2) (.slice Ao38 t156.length co38)) (fun _ hk => hk.2) (.slice Ao39 t159.length co39)) (fun _ hk => trivial)⟩, ⟨by (with_reducible repeat (first | apply Kd.V_alloc | apply Kd.V_drewN | apply Kd.V_drew)); exact Kd.V_mono (Kd.V_far (p := ⟨gb163, 3, none⟩) (Kd.V_far (p := ⟨gb163, 2, none⟩) (Kd.V_far (p := ⟨gb163, 1, none⟩) (Kd.V_far (p := ⟨gb163, 0, none⟩) (Kd.V_mono HO145.out (fun k_ hk => (⟨hk, hk.2⟩ : _ ∧ k_ ≠ gb163))) (fun _ hk => hk.2) (.int .i64 t154)) (fun _ hk => hk.2) (.bool t155)) (fun _ hk => hk.2) (.slice Ao38 t156.length co38)) (fun _ hk => hk.2) (.slice Ao39 t159.length co39)) (fun _ hk => ⟨hk.1.1.1.1.1, ⟨hk.1.1.1.1.2, ⟨hk.1.1.1.2, hk.1.2⟩⟩⟩)⟩, ⟨by (with_reducible repeat (first | apply Kd.V_alloc | apply Kd.V_drewN | apply Kd.V_drew)); exact Kd.V_mono (Kd.V_far (p := ⟨gb163, 3, none⟩) (Kd.V_far (p := ⟨gb163, 2, none⟩) (Kd.V_far (p := ⟨gb163, 1, none⟩) (Kd.V_far (p := ⟨gb163, 0, none⟩) (Kd.V_mono HO148.out (fun k_ hk => (⟨hk, hk.2⟩ : _ ∧ k_ ≠ gb163))) (fun _ hk => hk.2) (.int .i64 t154)) (fun _ hk => hk.2) (.bool t155)) (fun _ hk => hk.2) (.slice Ao38 t156.length co38)) (fun _ hk => hk.2) (.slice Ao39 t159.length co39)) (fun _ hk => ⟨hk.1.1.1.1.1, ⟨hk.1.1.1.1.2, ⟨hk.1.1.1.2, hk.1.2⟩⟩⟩)⟩, ⟨by (with_reducible repeat (first | apply Kd.V_alloc | apply Kd.V_drewN | apply Kd.V_drew)); exact Kd.V_mono (Kd.V_far (p := ⟨gb163, 3, none⟩) (Kd.V_far (p := ⟨gb163, 2, none⟩) (Kd.V_far (p := ⟨gb163, 1, none⟩) (Kd.V_far (p := ⟨gb163, 0, none⟩) (Kd.V_mono HO158.out (fun k_ hk => (⟨hk, hk.2⟩ : _ ∧ k_ ≠ gb163))) (fun _ hk => hk.2) (.int .i64 t154)) (fun _ hk => hk.2) (.bool t155)) (fun _ hk => hk.2) (.slice Ao38 t156.length co38)) (fun _ hk => hk.2) (.slice Ao39 t159.length co39)) (fun _ hk => ⟨hk.1.1.1, ⟨hk.1.1.2.1, ⟨hk.1.1.2.2.2, hk.1.2⟩⟩⟩)⟩, ⟨by (with_reducible repeat (first | apply Kd.V_alloc | apply Kd.V_drewN | apply Kd.V_drew)); exact Kd.V_mono (Kd.V_far (p := ⟨gb163, 3, none⟩) (Kd.V_far (p := ⟨gb163, 2, none⟩) (Kd.V_far (p := ⟨gb163, 1, none⟩) (Kd.V_far (p := ⟨gb163, 0, none⟩) (Kd.V_mono HO161.out (fun k_ hk => (⟨hk, hk.2⟩ : _ ∧ k_ ≠ gb163))) (fun _ hk => hk.2) (.int .i64 t154)) (fun _ hk => hk.2) (.bool t155)) (fun _ hk => hk.2) (.slice Ao38 t156.length co38)) (fun _ hk => hk.2) (.slice Ao39 t159.length co39)) (fun _ hk => ⟨hk.1.1.1, ⟨hk.1.1.2.1, ⟨hk.1.1.2.2.2, hk.1.2⟩⟩⟩)⟩, ⟨by (with_reducible repeat (first | refine blk_drewN ?_ _ | refine blk_drew ?_ | refine blk_alloc ?_ _)); refine blk_far ?_ NB150_163.out _; (with_reducible repeat (first | refine blk_drewN ?_ _ | refine blk_drew ?_ | refine blk_alloc ?_ _)); refine blk_far ?_ NB150_163.out _; (with_reducible repeat (first | refine blk_drewN ?_ _ | refine blk_drew ?_ | refine blk_alloc ?_ _)); refine blk_far ?_ NB150_163.out _; (with_reducible repeat (first | refine blk_drewN ?_ _ | refine blk_drew ?_ | refine blk_alloc ?_ _)); refine blk_far ?_ NB150_163.out _; (with_reducible repeat (first | refine blk_drewN ?_ _ | refine blk_drew ?_ | refine blk_alloc ?_ _)); exact BK150.out⟩, ⟨by (with_reducible repeat (first | refine blk_drewN ?_ _ | refine blk_drew ?_ | refine blk_alloc ?_ _)); refine blk_put (cs := #[.int .i64 t154, .bool t155, .slice Ao38 t156.length co38, .slice none 0 0]) ?_ 3 _ rfl; (with_reducible repeat (first | refine blk_drewN ?_ _ | refine blk_drew ?_ | refine blk_alloc ?_ _)); refine blk_put (cs := #[.int .i64 t154, .bool t155, .slice none 0 0, .slice none 0 0]) ?_ 2 _ rfl; (with_reducible repeat (first | refine blk_drewN ?_ _ | refine blk_drew ?_ | refine blk_alloc ?_ _)); refine blk_put (cs := #[.int .i64 t154, .bool false, .slice none 0 0, .slice none 0 0]) ?_ 1 _ rfl; (with_reducible repeat (first | refine blk_drewN ?_ _ | refine blk_drew ?_ | refine blk_alloc ?_ _)); refine blk_put (cs := #[.int .i64 0, .bool false, .slice none 0 0, .slice none 0 0]) ?_ 0 _ rfl; (with_reducible repeat (first | refine blk_drewN ?_ _ | refine blk_drew ?_ | refine blk_alloc ?_ _)); exact BK163.out⟩, ⟨by repeat (first | (with_reducible first | exact HB.out | apply below_alloc | apply pw_below_drewN | apply below_drew1 | refine below_set ?_ GE150.out | refine below_set ?_ GE163.out) | exact HB.out)⟩⟩
                              · rw [if_neg c43] at H
                                have c43b0 : ((t156.length : Int) == (t143.length : Int)) = false := beq_eq_false_iff_ne.mpr c43
                                have c43b1 : ((t156.length : Int) != (t143.length : Int)) = true := bne_iff_ne.mpr c43
                                have c43b2 : (t156.length == t143.length) = false := by first | simpa using c43 | (simp at c43 ⊢; omega)
                                (first | rw [c43b0] | (simp only [i64_w, i32_w]; rw [c43b0]) | skip)
                                have H' := Aside0.mk H
                                clear H
                                have hnb51 := NB163_150.out
                                have hnc51 := NB150_163.out
                                have hcz52_0 : w35.cell? ⟨gb163, 0, none⟩ = some (.int .i64 0) := (blk_cell BK163.out 0).trans rfl
                                have hcz52_1 : w35.cell? ⟨gb163, 1, none⟩ = some (.bool false) := (blk_cell BK163.out 1).trans rfl
                                have hcz52_2 : w35.cell? ⟨gb163, 2, none⟩ = some (.slice none 0 0) := (blk_cell BK163.out 2).trans rfl
                                have hcz52_3 : w35.cell? ⟨gb163, 3, none⟩ = some (.slice none 0 0) := (blk_cell BK163.out 3).trans rfl
                                have hfz52_0 := blk_frozen BK163.out 0
                                have hfz52_1 := blk_frozen BK163.out 1
                                have hfz52_2 := blk_frozen BK163.out 2
                                have hfz52_3 := blk_frozen BK163.out 3
                                go_wp2
                                go_meet
                                case rel => exact ⟨_, (true), (by first | rfl | (simp; done) | (simp [*]; done)), H', ⟨by have := HJ2.out; have := HK2.out; have := HJ15.out; first | omega | exact Nat.le_refl _⟩, ⟨by (with_reducible repeat (first | apply Kd.R_alloc | apply Kd.R_drewN | apply Kd.R_drew)); exact Kd.R_mono (Kd.R_far (p := ⟨gb163, 3, none⟩) (Kd.R_far (p := ⟨gb163, 2, none⟩) (Kd.R_far (p := ⟨gb163, 1, none⟩) (Kd.R_far (p := ⟨gb163, 0, none⟩) (Kd.R_types HO_5.out BK163.out (by decide)) (fun _ hk => hk.2) (.int .i64 t154)) (fun _ hk => hk.2) (.bool t155)) (fun _ hk => hk.2) (.slice Ao38 t156.length co38)) (fun _ hk => hk.2) (.slice Ao39 t159.length co39)) (fun _ hk => trivial)⟩, ⟨by (with_reducible repeat (first | apply Kd.R_alloc | apply Kd.R_drewN | apply Kd.R_drew)); exact Kd.R_mono (Kd.R_far (p := ⟨gb163, 3, none⟩) (Kd.R_far (p := ⟨gb163, 2, none⟩) (Kd.R_far (p := ⟨gb163, 1, none⟩) (Kd.R_far (p := ⟨gb163, 0, none⟩) (Kd.R_types HO_6.out BK163.out (by decide)) (fun _ hk => hk.2) (.int .i64 t154)) (fun _ hk => hk.2) (.bool t155)) (fun _ hk => hk.2) (.slice Ao38 t156.length co38)) (fun _ hk => hk.2) (.slice Ao39 t159.length co39)) (fun _ hk => trivial)⟩, ⟨by (with_reducible repeat (first | apply Kd.V_alloc | apply Kd.V_drewN | apply Kd.V_drew)); exact Kd.V_mono (Kd.V_far (p := ⟨gb163, 3, none⟩) (Kd.V_far (p := ⟨gb163, 2, none⟩) (Kd.V_far (p := ⟨gb163, 1, none⟩) (Kd.V_far (p := ⟨gb163, 0, none⟩) (Kd.V_mono HO145.out (fun k_ hk => (⟨hk, hk.2⟩ : _ ∧ k_ ≠ gb163))) (fun _ hk => hk.2) (.int .i64 t154)) (fun _ hk => hk.2) (.bool t155)) (fun _ hk => hk.2) (.slice Ao38 t156.length co38)) (fun _ hk => hk.2) (.slice Ao39 t159.length co39)) (fun _ hk => ⟨hk.1.1.1.1.1, ⟨hk.1.1.1.1.2, ⟨hk.1.1.1.2, hk.1.2⟩⟩⟩)⟩, ⟨by (with_reducible repeat (first | apply Kd.V_alloc | apply Kd.V_drewN | apply Kd.V_drew)); exact Kd.V_mono (Kd.V_far (p := ⟨gb163, 3, none⟩) (Kd.V_far (p := ⟨gb163, 2, none⟩) (Kd.V_far (p := ⟨gb163, 1, none⟩) (Kd.V_far (p := ⟨gb163, 0, none⟩) (Kd.V_mono HO148.out (fun k_ hk => (⟨hk, hk.2⟩ : _ ∧ k_ ≠ gb163))) (fun _ hk => hk.2) (.int .i64 t154)) (fun _ hk => hk.2) (.bool t155)) (fun _ hk => hk.2) (.slice Ao38 t156.length co38)) (fun _ hk => hk.2) (.slice Ao39 t159.length co39)) (fun _ hk => ⟨hk.1.1.1.1.1, ⟨hk.1.1.1.1.2, ⟨hk.1.1.1.2, hk.1.2⟩⟩⟩)⟩, ⟨by (with_reducible repeat (first | apply Kd.V_alloc | apply Kd.V_drewN | apply Kd.V_drew)); exact Kd.V_mono (Kd.V_far (p := ⟨gb163, 3, none⟩) (Kd.V_far (p := ⟨gb163, 2, none⟩) (Kd.V_far (p := ⟨gb163, 1, none⟩) (Kd.V_far (p := ⟨gb163, 0, none⟩) (Kd.V_mono HO158.out (fun k_ hk => (⟨hk, hk.2⟩ : _ ∧ k_ ≠ gb163))) (fun _ hk => hk.2) (.int .i64 t154)) (fun _ hk => hk.2) (.bool t155)) (fun _ hk => hk.2) (.slice Ao38 t156.length co38)) (fun _ hk => hk.2) (.slice Ao39 t159.length co39)) (fun _ hk => ⟨hk.1.1.1, ⟨hk.1.1.2.1, ⟨hk.1.1.2.2.2, hk.1.2⟩⟩⟩)⟩, ⟨by (with_reducible repeat (first | apply Kd.V_alloc | apply Kd.V_drewN | apply Kd.V_drew)); exact Kd.V_mono (Kd.V_far (p := ⟨gb163, 3, none⟩) (Kd.V_far (p := ⟨gb163, 2, none⟩) (Kd.V_far (p := ⟨gb163, 1, none⟩) (Kd.V_far (p := ⟨gb163, 0, none⟩) (Kd.V_mono HO161.out (fun k_ hk => (⟨hk, hk.2⟩ : _ ∧ k_ ≠ gb163))) (fun _ hk => hk.2) (.int .i64 t154)) (fun _ hk => hk.2) (.bool t155)) (fun _ hk => hk.2) (.slice Ao38 t156.length co38)) (fun _ hk => hk.2) (.slice Ao39 t159.length co39)) (fun _ hk => ⟨hk.1.1.1, ⟨hk.1.1.2.1, ⟨hk.1.1.2.2.2, hk.1.2⟩⟩⟩)⟩, ⟨by (with_reducible repeat (first | refine blk_drewN ?_ _ | refine blk_drew ?_ | refine blk_alloc ?_ _)); refine blk_far ?_ NB150_163.out _; (with_reducible repeat (first | refine blk_drewN ?_ _ | refine blk_drew ?_ | refine blk_alloc ?_ _)); refine blk_far ?_ NB150_163.out _; (with_reducible repeat (first | refine blk_drewN ?_ _ | refine blk_drew ?_ | refine blk_alloc ?_ _)); refine blk_far ?_ NB150_163.out _; (with_reducible repeat (first | refine blk_drewN ?_ _ | refine blk_drew ?_ | refine blk_alloc ?_ _)); refine blk_far ?_ NB150_163.out _; (with_reducible repeat (first | refine blk_drewN ?_ _ | refine blk_drew ?_ | refine blk_alloc ?_ _)); exact BK150.out⟩, ⟨by (with_reducible repeat (first | refine blk_drewN ?_ _ | refine blk_drew ?_ | refine blk_alloc ?_ _)); refine blk_put (cs := #[.int .i64 t154, .bool t155, .slice Ao38 t156.length co38, .slice none 0 0]) ?_ 3 _ rfl; (with_reducible repeat (first | refine blk_drewN ?_ _ | refine blk_drew ?_ | refine blk_alloc ?_ _)); refine blk_put (cs := #[.int .i64 t154, .bool t155, .slice none 0 0, .slice none 0 0]) ?_ 2 _ rfl; (with_reducible repeat (first | refine blk_drewN ?_ _ | refine blk_drew ?_ | refine blk_alloc ?_ _)); refine blk_put (cs := #[.int .i64 t154, .bool false, .slice none 0 0, .slice none 0 0]) ?_ 1 _ rfl; (with_reducible repeat (first | refine blk_drewN ?_ _ | refine blk_drew ?_ | refine blk_alloc ?_ _)); refine blk_put (cs := #[.int .i64 0, .bool false, .slice none 0 0, .slice none 0 0]) ?_ 0 _ rfl; (with_reducible repeat (first | refine blk_drewN ?_ _ | refine blk_drew ?_ | refine blk_alloc ?_ _)); exact BK163.out⟩, ⟨by repeat (first | (with_reducible first | exact HB.out | apply below_alloc | apply pw_below_drewN | apply below_drew1 | refine below_set ?_ GE150.out | refine below_set ?_ GE163.out) | exact HB.out)⟩⟩
                            · replace c42 := Bool.eq_false_iff.mpr c42
                              subst c42
                              have H1 : (laws_FnTreesTurn.j3 kj15 l0 t126 y135 x7_2 (t143.length : Int) true t141 t142 t143 t146 t154 t155 t156 t159) = some r := by rw [if_neg (show ¬ (false = true) by decide)] at H; exact H
                              clear H
                              have H := H1
                              clear H1
                              have H' := Aside0.mk H
                              clear H
                              go_wp2
                              go_meet
                              case rel => exact ⟨_, (true), (by first | rfl | (simp; done) | (simp [*]; done)), H', ⟨by have := HJ2.out; have := HK2.out; have := HJ15.out; first | omega | exact Nat.le_refl _⟩, ⟨by (with_reducible repeat (first | apply Kd.R_alloc | apply Kd.R_drewN | apply Kd.R_drew)); exact Kd.R_mono (Kd.R_far (p := ⟨gb163, 3, none⟩) (Kd.R_far (p := ⟨gb163, 2, none⟩) (Kd.R_far (p := ⟨gb163, 1, none⟩) (Kd.R_far (p := ⟨gb163, 0, none⟩) (Kd.R_types HO_5.out BK163.out (by decide)) (fun _ hk => hk.2) (.int .i64 t154)) (fun _ hk => hk.2) (.bool t155)) (fun _ hk => hk.2) (.slice Ao38 t156.length co38)) (fun _ hk => hk.2) (.slice Ao39 t159.length co39)) (fun _ hk => trivial)⟩, ⟨by (with_reducible repeat (first | apply Kd.R_alloc | apply Kd.R_drewN | apply Kd.R_drew)); exact Kd.R_mono (Kd.R_far (p := ⟨gb163, 3, none⟩) (Kd.R_far (p := ⟨gb163, 2, none⟩) (Kd.R_far (p := ⟨gb163, 1, none⟩) (Kd.R_far (p := ⟨gb163, 0, none⟩) (Kd.R_types HO_6.out BK163.out (by decide)) (fun _ hk => hk.2) (.int .i64 t154)) (fun _ hk => hk.2) (.bool t155)) (fun _ hk => hk.2) (.slice Ao38 t156.length co38)) (fun _ hk => hk.2) (.slice Ao39 t159.length co39)) (fun _ hk => trivial)⟩, ⟨by (with_reducible repeat (first | apply Kd.V_alloc | apply Kd.V_drewN | apply Kd.V_drew)); exact Kd.V_mono (Kd.V_far (p := ⟨gb163, 3, none⟩) (Kd.V_far (p := ⟨gb163, 2, none⟩) (Kd.V_far (p := ⟨gb163, 1, none⟩) (Kd.V_far (p := ⟨gb163, 0, none⟩) (Kd.V_mono HO145.out (fun k_ hk => (⟨hk, hk.2⟩ : _ ∧ k_ ≠ gb163))) (fun _ hk => hk.2) (.int .i64 t154)) (fun _ hk => hk.2) (.bool t155)) (fun _ hk => hk.2) (.slice Ao38 t156.length co38)) (fun _ hk => hk.2) (.slice Ao39 t159.length co39)) (fun _ hk => ⟨hk.1.1.1.1.1, ⟨hk.1.1.1.1.2, ⟨hk.1.1.1.2, hk.1.2⟩⟩⟩)⟩, ⟨by (with_reducible repeat (first | apply Kd.V_alloc | apply Kd.V_drewN | apply Kd.V_drew)); exact Kd.V_mono (Kd.V_far (p := ⟨gb163, 3, none⟩) (Kd.V_far (p := ⟨gb163, 2, none⟩) (Kd.V_far (p := ⟨gb163, 1, none⟩) (Kd.V_far (p := ⟨gb163, 0, none⟩) (Kd.V_mono HO148.out (fun k_ hk => (⟨hk, hk.2⟩ : _ ∧ k_ ≠ gb163))) (fun _ hk => hk.2) (.int .i64 t154)) (fun _ hk => hk.2) (.bool t155)) (fun _ hk => hk.2) (.slice Ao38 t156.length co38)) (fun _ hk => hk.2) (.slice Ao39 t159.length co39)) (fun _ hk => ⟨hk.1.1.1.1.1, ⟨hk.1.1.1.1.2, ⟨hk.1.1.1.2, hk.1.2⟩⟩⟩)⟩, ⟨by (with_reducible repeat (first | apply Kd.V_alloc | apply Kd.V_drewN | apply Kd.V_drew)); exact Kd.V_mono (Kd.V_far (p := ⟨gb163, 3, none⟩) (Kd.V_far (p := ⟨gb163, 2, none⟩) (Kd.V_far (p := ⟨gb163, 1, none⟩) (Kd.V_far (p := ⟨gb163, 0, none⟩) (Kd.V_mono HO158.out (fun k_ hk => (⟨hk, hk.2⟩ : _ ∧ k_ ≠ gb163))) (fun _ hk => hk.2) (.int .i64 t154)) (fun _ hk => hk.2) (.bool t155)) (fun _ hk => hk.2) (.slice Ao38 t156.length co38)) (fun _ hk => hk.2) (.slice Ao39 t159.length co39)) (fun _ hk => ⟨hk.1.1.1, ⟨hk.1.1.2.1, ⟨hk.1.1.2.2.2, hk.1.2⟩⟩⟩)⟩, ⟨by (with_reducible repeat (first | apply Kd.V_alloc | apply Kd.V_drewN | apply Kd.V_drew)); exact Kd.V_mono (Kd.V_far (p := ⟨gb163, 3, none⟩) (Kd.V_far (p := ⟨gb163, 2, none⟩) (Kd.V_far (p := ⟨gb163, 1, none⟩) (Kd.V_far (p := ⟨gb163, 0, none⟩) (Kd.V_mono HO161.out (fun k_ hk => (⟨hk, hk.2⟩ : _ ∧ k_ ≠ gb163))) (fun _ hk => hk.2) (.int .i64 t154)) (fun _ hk => hk.2) (.bool t155)) (fun _ hk => hk.2) (.slice Ao38 t156.length co38)) (fun _ hk => hk.2) (.slice Ao39 t159.length co39)) (fun _ hk => ⟨hk.1.1.1, ⟨hk.1.1.2.1, ⟨hk.1.1.2.2.2, hk.1.2⟩⟩⟩)⟩, ⟨by (with_reducible repeat (first | refine blk_drewN ?_ _ | refine blk_drew ?_ | refine blk_alloc ?_ _)); refine blk_far ?_ NB150_163.out _; (with_reducible repeat (first | refine blk_drewN ?_ _ | refine blk_drew ?_ | refine blk_alloc ?_ _)); refine blk_far ?_ NB150_163.out _; (with_reducible repeat (first | refine blk_drewN ?_ _ | refine blk_drew ?_ | refine blk_alloc ?_ _)); refine blk_far ?_ NB150_163.out _; (with_reducible repeat (first | refine blk_drewN ?_ _ | refine blk_drew ?_ | refine blk_alloc ?_ _)); refine blk_far ?_ NB150_163.out _; (with_reducible repeat (first | refine blk_drewN ?_ _ | refine blk_drew ?_ | refine blk_alloc ?_ _)); exact BK150.out⟩, ⟨by (with_reducible repeat (first | refine blk_drewN ?_ _ | refine blk_drew ?_ | refine blk_alloc ?_ _)); refine blk_put (cs := #[.int .i64 t154, .bool t155, .slice Ao38 t156.length co38, .slice none 0 0]) ?_ 3 _ rfl; (with_reducible repeat (first | refine blk_drewN ?_ _ | refine blk_drew ?_ | refine blk_alloc ?_ _)); refine blk_put (cs := #[.int .i64 t154, .bool t155, .slice none 0 0, .slice none 0 0]) ?_ 2 _ rfl; (with_reducible repeat (first | refine blk_drewN ?_ _ | refine blk_drew ?_ | refine blk_alloc ?_ _)); refine blk_put (cs := #[.int .i64 t154, .bool false, .slice none 0 0, .slice none 0 0]) ?_ 1 _ rfl; (with_reducible repeat (first | refine blk_drewN ?_ _ | refine blk_drew ?_ | refine blk_alloc ?_ _)); refine blk_put (cs := #[.int .i64 0, .bool false, .slice none 0 0, .slice none 0 0]) ?_ 0 _ rfl; (with_reducible repeat (first | refine blk_drewN ?_ _ | refine blk_drew ?_ | refine blk_alloc ?_ _)); exact BK163.out⟩, ⟨by repeat (first | (with_reducible first | exact HB.out | apply below_alloc | apply pw_below_drewN | apply below_drew1 | refine below_set ?_ GE150.out | refine below_set ?_ GE163.out) | exact HB.out)⟩⟩
                          · replace c41 := Bool.eq_false_iff.mpr c41
                            subst c41
                            have H1 : (laws_FnTreesTurn.j3 kj15 l0 t126 y135 x7_2 (t143.length : Int) true t141 t142 t143 t146 t154 t155 t156 t159) = some r := by rw [if_neg (show ¬ (false = true) by decide)] at H; exact H
                            clear H
                            have H := H1
                            clear H1
                            have H' := Aside0.mk H
                            clear H
                            go_wp2
                            go_meet
                            case rel => exact ⟨_, (true), (by first | rfl | (simp; done) | (simp [*]; done)), H', ⟨by have := HJ2.out; have := HK2.out; have := HJ15.out; first | omega | exact Nat.le_refl _⟩, ⟨by (with_reducible repeat (first | apply Kd.R_alloc | apply Kd.R_drewN | apply Kd.R_drew)); exact Kd.R_mono (Kd.R_far (p := ⟨gb163, 3, none⟩) (Kd.R_far (p := ⟨gb163, 2, none⟩) (Kd.R_far (p := ⟨gb163, 1, none⟩) (Kd.R_far (p := ⟨gb163, 0, none⟩) (Kd.R_types HO_5.out BK163.out (by decide)) (fun _ hk => hk.2) (.int .i64 t154)) (fun _ hk => hk.2) (.bool t155)) (fun _ hk => hk.2) (.slice Ao38 t156.length co38)) (fun _ hk => hk.2) (.slice Ao39 t159.length co39)) (fun _ hk => trivial)⟩, ⟨by (with_reducible repeat (first | apply Kd.R_alloc | apply Kd.R_drewN | apply Kd.R_drew)); exact Kd.R_mono (Kd.R_far (p := ⟨gb163, 3, none⟩) (Kd.R_far (p := ⟨gb163, 2, none⟩) (Kd.R_far (p := ⟨gb163, 1, none⟩) (Kd.R_far (p := ⟨gb163, 0, none⟩) (Kd.R_types HO_6.out BK163.out (by decide)) (fun _ hk => hk.2) (.int .i64 t154)) (fun _ hk => hk.2) (.bool t155)) (fun _ hk => hk.2) (.slice Ao38 t156.length co38)) (fun _ hk => hk.2) (.slice Ao39 t159.length co39)) (fun _ hk => trivial)⟩, ⟨by (with_reducible repeat (first | apply Kd.V_alloc | apply Kd.V_drewN | apply Kd.V_drew)); exact Kd.V_mono (Kd.V_far (p := ⟨gb163, 3, none⟩) (Kd.V_far (p := ⟨gb163, 2, none⟩) (Kd.V_far (p := ⟨gb163, 1, none⟩) (Kd.V_far (p := ⟨gb163, 0, none⟩) (Kd.V_mono HO145.out (fun k_ hk => (⟨hk, hk.2⟩ : _ ∧ k_ ≠ gb163))) (fun _ hk => hk.2) (.int .i64 t154)) (fun _ hk => hk.2) (.bool t155)) (fun _ hk => hk.2) (.slice Ao38 t156.length co38)) (fun _ hk => hk.2) (.slice Ao39 t159.length co39)) (fun _ hk => ⟨hk.1.1.1.1.1, ⟨hk.1.1.1.1.2, ⟨hk.1.1.1.2, hk.1.2⟩⟩⟩)⟩, ⟨by (with_reducible repeat (first | apply Kd.V_alloc | apply Kd.V_drewN | apply Kd.V_drew)); exact Kd.V_mono (Kd.V_far (p := ⟨gb163, 3, none⟩) (Kd.V_far (p := ⟨gb163, 2, none⟩) (Kd.V_far (p := ⟨gb163, 1, none⟩) (Kd.V_far (p := ⟨gb163, 0, none⟩) (Kd.V_mono HO148.out (fun k_ hk => (⟨hk, hk.2⟩ : _ ∧ k_ ≠ gb163))) (fun _ hk => hk.2) (.int .i64 t154)) (fun _ hk => hk.2) (.bool t155)) (fun _ hk => hk.2) (.slice Ao38 t156.length co38)) (fun _ hk => hk.2) (.slice Ao39 t159.length co39)) (fun _ hk => ⟨hk.1.1.1.1.1, ⟨hk.1.1.1.1.2, ⟨hk.1.1.1.2, hk.1.2⟩⟩⟩)⟩, ⟨by (with_reducible repeat (first | apply Kd.V_alloc | apply Kd.V_drewN | apply Kd.V_drew)); exact Kd.V_mono (Kd.V_far (p := ⟨gb163, 3, none⟩) (Kd.V_far (p := ⟨gb163, 2, none⟩) (Kd.V_far (p := ⟨gb163, 1, none⟩) (Kd.V_far (p := ⟨gb163, 0, none⟩) (Kd.V_mono HO158.out (fun k_ hk => (⟨hk, hk.2⟩ : _ ∧ k_ ≠ gb163))) (fun _ hk => hk.2) (.int .i64 t154)) (fun _ hk => hk.2) (.bool t155)) (fun _ hk => hk.2) (.slice Ao38 t156.length co38)) (fun _ hk => hk.2) (.slice Ao39 t159.length co39)) (fun _ hk => ⟨hk.1.1.1, ⟨hk.1.1.2.1, ⟨hk.1.1.2.2.2, hk.1.2⟩⟩⟩)⟩, ⟨by (with_reducible repeat (first | apply Kd.V_alloc | apply Kd.V_drewN | apply Kd.V_drew)); exact Kd.V_mono (Kd.V_far (p := ⟨gb163, 3, none⟩) (Kd.V_far (p := ⟨gb163, 2, none⟩) (Kd.V_far (p := ⟨gb163, 1, none⟩) (Kd.V_far (p := ⟨gb163, 0, none⟩) (Kd.V_mono HO161.out (fun k_ hk => (⟨hk, hk.2⟩ : _ ∧ k_ ≠ gb163))) (fun _ hk => hk.2) (.int .i64 t154)) (fun _ hk => hk.2) (.bool t155)) (fun _ hk => hk.2) (.slice Ao38 t156.length co38)) (fun _ hk => hk.2) (.slice Ao39 t159.length co39)) (fun _ hk => ⟨hk.1.1.1, ⟨hk.1.1.2.1, ⟨hk.1.1.2.2.2, hk.1.2⟩⟩⟩)⟩, ⟨by (with_reducible repeat (first | refine blk_drewN ?_ _ | refine blk_drew ?_ | refine blk_alloc ?_ _)); refine blk_far ?_ NB150_163.out _; (with_reducible repeat (first | refine blk_drewN ?_ _ | refine blk_drew ?_ | refine blk_alloc ?_ _)); refine blk_far ?_ NB150_163.out _; (with_reducible repeat (first | refine blk_drewN ?_ _ | refine blk_drew ?_ | refine blk_alloc ?_ _)); refine blk_far ?_ NB150_163.out _; (with_reducible repeat (first | refine blk_drewN ?_ _ | refine blk_drew ?_ | refine blk_alloc ?_ _)); refine blk_far ?_ NB150_163.out _; (with_reducible repeat (first | refine blk_drewN ?_ _ | refine blk_drew ?_ | refine blk_alloc ?_ _)); exact BK150.out⟩, ⟨by (with_reducible repeat (first | refine blk_drewN ?_ _ | refine blk_drew ?_ | refine blk_alloc ?_ _)); refine blk_put (cs := #[.int .i64 t154, .bool t155, .slice Ao38 t156.length co38, .slice none 0 0]) ?_ 3 _ rfl; (with_reducible repeat (first | refine blk_drewN ?_ _ | refine blk_drew ?_ | refine blk_alloc ?_ _)); refine blk_put (cs := #[.int .i64 t154, .bool t155, .slice none 0 0, .slice none 0 0]) ?_ 2 _ rfl; (with_reducible repeat (first | refine blk_drewN ?_ _ | refine blk_drew ?_ | refine blk_alloc ?_ _)); refine blk_put (cs := #[.int .i64 t154, .bool false, .slice none 0 0, .slice none 0 0]) ?_ 1 _ rfl; (with_reducible repeat (first | refine blk_drewN ?_ _ | refine blk_drew ?_ | refine blk_alloc ?_ _)); refine blk_put (cs := #[.int .i64 0, .bool false, .slice none 0 0, .slice none 0 0]) ?_ 0 _ rfl; (with_reducible repeat (first | refine blk_drewN ?_ _ | refine blk_drew ?_ | refine blk_alloc ?_ _)); exact BK163.out⟩, ⟨by repeat (first | (with_reducible first | exact HB.out | apply below_alloc | apply pw_below_drewN | apply below_drew1 | refine below_set ?_ GE150.out | refine below_set ?_ GE163.out) | exact HB.out)⟩⟩
                        case rest =>
                          clear HC22
                          try clear c1
                          try clear p2
                          try clear c3
                          try clear c4
                          try clear c4b0
                          try clear c4b1
                          try clear c5
                          try clear c6
                          try clear c6b0
                          try clear c6b1
                          try clear c6b2
                          try clear c8
                          try clear c9
                          try clear c11
                          try clear c15
                          try clear c15b0
                          try clear c17
                          try clear c17b0
                          try clear c17b1
                          try clear c33
                          try clear c35
                          try clear c36
                          try clear c41
                          try clear c42
                          try clear c43
                          try clear c43b0
                          try clear c43b1
                          try clear c43b2
                          try clear c44
                          try clear c44b0
                          try clear c44b1
                          try clear c44b2
                          try clear c45
                          try clear c48
                          try clear c51
                          try clear hcz28_0
                          try clear hcz28_1
                          try clear hcz28_2
                          try clear hcz28_3
                          try clear hcz37_0
                          try clear hcz37_1
                          try clear hcz37_2
                          try clear hcz37_3
                          try clear hcz40_0
                          try clear hcz40_1
                          try clear hcz40_2
                          try clear hcz40_3
                          try clear hcz46_0
                          try clear hcz46_1
                          try clear hcz46_2
                          try clear hcz46_3
                          try clear hcz47_0
                          try clear hcz47_1
                          try clear hcz47_2
                          try clear hcz47_3
                          try clear hcz49_0
                          try clear hcz49_1
                          try clear hcz49_2
                          try clear hcz49_3
                          try clear hcz50_0
                          try clear hcz50_1
                          try clear hcz50_2
                          try clear hcz50_3
                          try clear hcz52_0
                          try clear hcz52_1
                          try clear hcz52_2
                          try clear hcz52_3
                          try clear hfz28_0
                          try clear hfz28_1
                          try clear hfz28_2
                          try clear hfz28_3
                          try clear hfz37_0
                          try clear hfz37_1
                          try clear hfz37_2
                          try clear hfz37_3
                          try clear hfz40_0
                          try clear hfz40_1
                          try clear hfz40_2
                          try clear hfz40_3
                          try clear hfz46_0
                          try clear hfz46_1
                          try clear hfz46_2
                          try clear hfz46_3
                          try clear hfz47_0
                          try clear hfz47_1
                          try clear hfz47_2
                          try clear hfz47_3
                          try clear hfz49_0
                          try clear hfz49_1
                          try clear hfz49_2
                          try clear hfz49_3
                          try clear hfz50_0
                          try clear hfz50_1
                          try clear hfz50_2
                          try clear hfz50_3
                          try clear hfz52_0
                          try clear hfz52_1
                          try clear hfz52_2
                          try clear hfz52_3
                          try clear p2
                          obtain ⟨kq, x85_21, rfl, HA, HJ21, HO_5, HO_6, HO_151002, HO_151003, HO_164002, HO_164003, BK150, BK163, HB⟩ := hcut
                          cases kq with
                          | zero => exact absurd HA.out (by simp [laws_FnTreesTurn.j3])
                          | succ kj21 =>
                            have H := HA.out
                            clear HA
                            simp only [laws_FnTreesTurn.j3] at H
                            by_cases c53 : x85_21 = true
                            · subst c53
                              have H1 : (none) = some r := by rw [if_pos rfl] at H; exact H
                              exact absurd H1 (by simp)
                            · replace c53 := Bool.eq_false_iff.mpr c53
                              subst c53
                              have H1 : (laws_FnTreesTurn.l1 kj21 l0 t126 y135 x7_2 (t143.length : Int) 0 t141 t142 t143 t146 t154 t155 t156 t159) = some r := by rw [if_neg (show ¬ (false = true) by decide)] at H; exact H
                              clear H
                              have H := H1
                              clear H1
                              have H' := Aside0.mk H
                              clear H
                              go_wp2
                              go_loopg [14] kj21 (fun kq v14 w' => ∃ (x14_5 : Int), v14 = .int .i64 x14_5 ∧ Aside0 (laws_FnTreesTurn.l1 kq l0 t126 y135 x7_2 (t143.length : Int) x14_5 t141 t142 t143 t146 t154 t155 t156 t159 = some r) ∧ Aside0 (kq ≤ kj21) ∧ Aside0 (Kd.R (Kd.int .i64) 3 w' w.heap.size (fun _ => True) (.slice Ao31 t126.length co31) t126) ∧ Aside0 (Kd.R k66 66 w' w.heap.size (fun _ => True) (.slice Ao23 y135.length co23) y135) ∧ Aside0 (Kd.V (Kd.int .i64) 3 w' w.heap.size (fun k_ => some k_ ≠ ((.slice Ao31 t126.length co31) : Value).ownBlock ∧ some k_ ≠ ((.slice Ao23 y135.length co23) : Value).ownBlock ∧ k_ ≠ gb150 ∧ k_ ≠ gb163) (.slice Ao29 t143.length co29) t143) ∧ Aside0 (Kd.V (Kd.int .i64) 3 w' w.heap.size (fun k_ => some k_ ≠ ((.slice Ao31 t126.length co31) : Value).ownBlock ∧ some k_ ≠ ((.slice Ao23 y135.length co23) : Value).ownBlock ∧ k_ ≠ gb150 ∧ k_ ≠ gb163) (.slice Ao30 t146.length co30) t146) ∧ Aside0 (Kd.V (Kd.int .i64) 3 w' w.heap.size (fun k_ => some k_ ≠ ((.slice Ao31 t126.length co31) : Value).ownBlock ∧ some k_ ≠ ((.slice Ao23 y135.length co23) : Value).ownBlock ∧ k_ ≠ gb150 ∧ k_ ≠ gb163) (.slice Ao38 t156.length co38) t156) ∧ Aside0 (Kd.V (Kd.int .i64) 3 w' w.heap.size (fun k_ => some k_ ≠ ((.slice Ao31 t126.length co31) : Value).ownBlock ∧ some k_ ≠ ((.slice Ao23 y135.length co23) : Value).ownBlock ∧ k_ ≠ gb150 ∧ k_ ≠ gb163) (.slice Ao39 t159.length co39) t159) ∧ Aside0 (w'.heap[gb150]? = some (.cells #[.int .i64 t141, .bool t142, (.slice Ao29 t143.length co29), (.slice Ao30 t146.length co30)] 46 (0, 0))) ∧ Aside0 (w'.heap[gb163]? = some (.cells #[.int .i64 t154, .bool t155, (.slice Ao38 t156.length co38), (.slice Ao39 t159.length co39)] 46 (0, 0))) ∧ Aside0 (Below w.heap.size w w'))
                              case atStart => exact ⟨(0), (by first | rfl | (simp; done) | (simp [*]; done)), H', ⟨Nat.le_refl _⟩, ⟨by (with_reducible repeat (first | apply Kd.R_alloc | apply Kd.R_drewN | apply Kd.R_drew)); exact HO_5.out⟩, ⟨by (with_reducible repeat (first | apply Kd.R_alloc | apply Kd.R_drewN | apply Kd.R_drew)); exact HO_6.out⟩, ⟨by (with_reducible repeat (first | apply Kd.V_alloc | apply Kd.V_drewN | apply Kd.V_drew)); exact HO_151002.out⟩, ⟨by (with_reducible repeat (first | apply Kd.V_alloc | apply Kd.V_drewN | apply Kd.V_drew)); exact HO_151003.out⟩, ⟨by (with_reducible repeat (first | apply Kd.V_alloc | apply Kd.V_drewN | apply Kd.V_drew)); exact HO_164002.out⟩, ⟨by (with_reducible repeat (first | apply Kd.V_alloc | apply Kd.V_drewN | apply Kd.V_drew)); exact HO_164003.out⟩, ⟨by (with_reducible repeat (first | refine blk_drewN ?_ _ | refine blk_drew ?_ | refine blk_alloc ?_ _)); exact BK150.out⟩, ⟨by (with_reducible repeat (first | refine blk_drewN ?_ _ | refine blk_drew ?_ | refine blk_alloc ?_ _)); exact BK163.out⟩, ⟨by repeat (first | (with_reducible first | exact HB.out | apply below_alloc | apply pw_below_drewN | apply below_drew1 | refine below_set ?_ GE150.out | refine below_set ?_ GE163.out) | exact HB.out)⟩⟩
                              case round =>
                                clear H'
                                try clear c1
                                try clear p2
                                try clear c3
                                try clear c4
                                try clear c4b0
                                try clear c4b1
                                try clear c5
                                try clear c6
                                try clear c6b0
                                try clear c6b1
                                try clear c6b2
                                try clear c8
                                try clear c9
                                try clear c11
                                try clear c15
                                try clear c15b0
                                try clear c17
                                try clear c17b0
                                try clear c17b1
                                try clear c33
                                try clear c35
                                try clear c36
                                try clear c41
                                try clear c42
                                try clear c43
                                try clear c43b0
                                try clear c43b1
                                try clear c43b2
                                try clear c44
                                try clear c44b0
                                try clear c44b1
                                try clear c44b2
                                try clear c45
                                try clear c48
                                try clear c51
                                try clear c53
                                try clear hcz28_0
                                try clear hcz28_1
                                try clear hcz28_2
                                try clear hcz28_3
                                try clear hcz37_0
                                try clear hcz37_1
                                try clear hcz37_2
                                try clear hcz37_3
                                try clear hcz40_0
                                try clear hcz40_1
                                try clear hcz40_2
                                try clear hcz40_3
                                try clear hcz46_0
                                try clear hcz46_1
                                try clear hcz46_2
                                try clear hcz46_3
                                try clear hcz47_0
                                try clear hcz47_1
                                try clear hcz47_2
                                try clear hcz47_3
                                try clear hcz49_0
                                try clear hcz49_1
                                try clear hcz49_2
                                try clear hcz49_3
                                try clear hcz50_0
                                try clear hcz50_1
                                try clear hcz50_2
                                try clear hcz50_3
                                try clear hcz52_0
                                try clear hcz52_1
                                try clear hcz52_2
                                try clear hcz52_3
                                try clear hfz28_0
                                try clear hfz28_1
                                try clear hfz28_2
                                try clear hfz28_3
                                try clear hfz37_0
                                try clear hfz37_1
                                try clear hfz37_2
                                try clear hfz37_3
                                try clear hfz40_0
                                try clear hfz40_1
                                try clear hfz40_2
                                try clear hfz40_3
                                try clear hfz46_0
                                try clear hfz46_1
                                try clear hfz46_2
                                try clear hfz46_3
                                try clear hfz47_0
                                try clear hfz47_1
                                try clear hfz47_2
                                try clear hfz47_3
                                try clear hfz49_0
                                try clear hfz49_1
                                try clear hfz49_2
                                try clear hfz49_3
                                try clear hfz50_0
                                try clear hfz50_1
                                try clear hfz50_2
                                try clear hfz50_3
                                try clear hfz52_0
                                try clear hfz52_1
                                try clear hfz52_2
                                try clear hfz52_3
                                try clear p2
                                obtain ⟨x14_5, rfl, HA, HK5, HO_5, HO_6, HO_151002, HO_151003, HO_164002, HO_164003, BK150, BK163, HB⟩ := hrel
                                cases gk with
                                | zero => exact absurd HA.out (by simp [laws_FnTreesTurn.l1])
                                | succ k5 =>
                                  have H := HA.out
                                  clear HA
                                  simp only [laws_FnTreesTurn.l1] at H
                                  by_cases c54 : x14_5 < (t143.length : Int)
                                  · rw [if_pos c54] at H
                                    have c54b0 : decide (x14_5 < (t143.length : Int)) = true := decide_eq_true c54
                                    clear c54
                                    by_cases c55 : 0 ≤ x14_5
                                    · rw [if_pos c55] at H
                                      have c55b0 : decide (0 ≤ x14_5) = true := decide_eq_true c55
                                      clear c55
                                      by_cases c56 : x14_5 < (t143.length : Int)
                                      · rw [if_pos c56] at H
                                        have c56b0 : decide (x14_5 < (t143.length : Int)) = true := decide_eq_true c56
                                        clear c56
                                        obtain ⟨ji57, hji57⟩ : ∃ j_ : Int, (wrap64 ((wrap64 ((t143.length : Int) - 1)) - x14_5)) = j_ := ⟨_, rfl⟩
                                        replace H : (if 0 ≤ (ji57) then (if (ji57) < (t156.length : Int) then ((spec_Alike.f l0 (rd t143 x14_5) (rd t156 (ji57))).bind fun t166 => (if t166 = true then (if x14_5 < (t146.length : Int) then (if (ji57) < (t159.length : Int) then (if (rd t146 x14_5) = (rd t159 (ji57)) then (laws_FnTreesTurn.l1 k5 l0 t126 y135 x7_2 (t143.length : Int) (wrap64 (x14_5 + 1)) t141 t142 t143 t146 t154 t155 t156 t159) else (none)) else (none)) else (none)) else (none))) else (none)) else (none)) = some r := by first | (rw [hji57] at H; exact H) | (simp only [hji57] at H ⊢; exact H)
                                        have hji57w : (IntKind.i64.wrap ((wrap64 ((t143.length : Int) - 1)) - x14_5)) = ji57 := (i64_w _).trans hji57
                                        have hji57v : (IntKind.i64.wrap ((IntKind.i64.wrap ((t143.length : Int) - 1)) - x14_5)) = ji57 := by simpa only [i64_w] using hji57
                                        by_cases c58 : 0 ≤ (ji57)
                                        · rw [if_pos c58] at H
                                          have c58b0 : decide (0 ≤ (ji57)) = true := decide_eq_true c58
                                          clear c58
                                          by_cases c59 : (ji57) < (t156.length : Int)
                                          · rw [if_pos c59] at H
                                            have c59b0 : decide ((ji57) < (t156.length : Int)) = true := decide_eq_true c59
                                            clear c59
                                            replace H := Option.bind_eq_some_iff.mp H
                                            obtain ⟨t166, A600, H⟩ := H
                                            replace H : (if t166 = true then (if x14_5 < (t146.length : Int) then (if (ji57) < (t159.length : Int) then (if (rd t146 x14_5) = (rd t159 (ji57)) then (laws_FnTreesTurn.l1 k5 l0 t126 y135 x7_2 (t143.length : Int) (wrap64 (x14_5 + 1)) t141 t142 t143 t146 t154 t155 t156 t159) else (none)) else (none)) else (none)) else (none)) = some r := H
                                            have A60 := Aside0.mk A600
                                            clear A600
                                            by_cases c61 : t166 = true
                                            · subst c61
                                              have H1 : (if x14_5 < (t146.length : Int) then (if (ji57) < (t159.length : Int) then (if (rd t146 x14_5) = (rd t159 (ji57)) then (laws_FnTreesTurn.l1 k5 l0 t126 y135 x7_2 (t143.length : Int) (wrap64 (x14_5 + 1)) t141 t142 t143 t146 t154 t155 t156 t159) else (none)) else (none)) else (none)) = some r := by rw [if_pos rfl] at H; exact H
                                              clear H
                                              have H := H1
                                              clear H1
                                              by_cases c62 : x14_5 < (t146.length : Int)
                                              · rw [if_pos c62] at H
                                                have c62b0 : decide (x14_5 < (t146.length : Int)) = true := decide_eq_true c62
                                                clear c62
                                                by_cases c63 : (ji57) < (t159.length : Int)
                                                · rw [if_pos c63] at H
                                                  have c63b0 : decide ((ji57) < (t159.length : Int)) = true := decide_eq_true c63
                                                  clear c63
                                                  by_cases c64 : (rd t146 x14_5) = (rd t159 (ji57))
                                                  · rw [if_pos c64] at H
                                                    have c64b0 : ((rd t146 x14_5) == (rd t159 (ji57))) = true := beq_iff_eq.mpr c64
                                                    have c64b1 : ((rd t146 x14_5) != (rd t159 (ji57))) = false := bne_eq_false_iff_eq.mpr c64
                                                    clear c64
                                                    have H' := Aside0.mk H
                                                    clear H
                                                    try go_wp2
                                                    have n0_ := Aside0.mk (Kd.R_drew HO_5.out)
                                                    have n1_ := Aside0.mk (Kd.R_drew HO_6.out)
                                                    have n2_ := Aside0.mk (Kd.V_drew HO_151002.out)
                                                    have n3_ := Aside0.mk (Kd.V_drew HO_151003.out)
                                                    have n4_ := Aside0.mk (Kd.V_drew HO_164002.out)
                                                    have n5_ := Aside0.mk (Kd.V_drew HO_164003.out)
                                                    have n6_ := Aside0.mk (blk_drew BK150.out)
                                                    have n7_ := Aside0.mk (blk_drew BK163.out)
                                                    have n8_ := Aside0.mk (below_drew1 HB.out)
                                                    clear HO_5
                                                    clear HO_6
                                                    clear HO_151002
                                                    clear HO_151003
                                                    clear HO_164002
                                                    clear HO_164003
                                                    clear BK150
                                                    clear BK163
                                                    clear HB
                                                    have HO_5 := n0_
                                                    have HO_6 := n1_
                                                    have HO_151002 := n2_
                                                    have HO_151003 := n3_
                                                    have HO_164002 := n4_
                                                    have HO_164003 := n5_
                                                    have BK150 := n6_
                                                    have BK163 := n7_
                                                    have HB := n8_
                                                    clear n0_ n1_ n2_ n3_ n4_ n5_ n6_ n7_ n8_
                                                    have p164 : 0 ≤ (x14_5 : Int) := of_decide_eq_true (by first | (with_reducible assumption) | assumption)
                                                    have q164 : x14_5 < (t143.length : Int) := of_decide_eq_true (by first | (with_reducible assumption) | assumption)
                                                    obtain ⟨ad164, e164, hx164_0⟩ := Kd.at_int (Kd.V_reads' HO_151002.out).2.2 x14_5 p164 q164
                                                    cases e164
                                                    replace p164 := eq_true p164
                                                    replace q164 := eq_true q164
                                                    have p165 : 0 ≤ ((ji57) : Int) := of_decide_eq_true (by first | (with_reducible assumption) | assumption)
                                                    have q165 : (ji57) < (t156.length : Int) := of_decide_eq_true (by first | (with_reducible assumption) | assumption)
                                                    obtain ⟨ad165, e165, hx165_0⟩ := Kd.at_int (Kd.V_reads' HO_164002.out).2.2 (ji57) p165 q165
                                                    cases e165
                                                    replace p165 := eq_true p165
                                                    replace q165 := eq_true q165
                                                    have p167 : 0 ≤ (x14_5 : Int) := of_decide_eq_true (by first | (with_reducible assumption) | assumption)
                                                    have q167 : x14_5 < (t146.length : Int) := of_decide_eq_true (by first | (with_reducible assumption) | assumption)
                                                    obtain ⟨ad167, e167, hx167_0⟩ := Kd.at_int (Kd.V_reads' HO_151003.out).2.2 x14_5 p167 q167
                                                    cases e167
                                                    replace p167 := eq_true p167
                                                    replace q167 := eq_true q167
                                                    have p168 : 0 ≤ ((ji57) : Int) := of_decide_eq_true (by first | (with_reducible assumption) | assumption)
                                                    have q168 : (ji57) < (t159.length : Int) := of_decide_eq_true (by first | (with_reducible assumption) | assumption)
                                                    obtain ⟨ad168, e168, hx168_0⟩ := Kd.at_int (Kd.V_reads' HO_164003.out).2.2 (ji57) p168 q168
                                                    cases e168
                                                    replace p168 := eq_true p168
                                                    replace q168 := eq_true q168
                                                    refine start_ (n := 32) (S := fun w' => w'.cell? ⟨gb150, 0, none⟩ = some (.int .i64 t141) ∧ w'.cell? ⟨gb150, 1, none⟩ = some (.bool t142) ∧ w'.cell? ⟨gb150, 2, none⟩ = some (.slice (some ad164) t143.length co29) ∧ w'.cell? ⟨gb150, 3, none⟩ = some (.slice (some ad167) t146.length co30) ∧ w'.cell? ⟨gb163, 0, none⟩ = some (.int .i64 t154) ∧ w'.cell? ⟨gb163, 1, none⟩ = some (.bool t155) ∧ w'.cell? ⟨gb163, 2, none⟩ = some (.slice (some ad165) t156.length co38) ∧ w'.cell? ⟨gb163, 3, none⟩ = some (.slice (some ad168) t159.length co39) ∧ w'.cell? (ad164.add (x14_5).toNat) = some (.int .i64 (rd t143 x14_5)) ∧ w'.cell? (ad165.add ((ji57)).toNat) = some (.int .i64 (rd t156 (ji57))) ∧ w'.cell? (ad167.add (x14_5).toNat) = some (.int .i64 (rd t146 x14_5)) ∧ w'.cell? (ad168.add ((ji57)).toNat) = some (.int .i64 (rd t159 (ji57)))) (ds := []) #[false, false, false, false, false, false, false, false, false, false, false, false, false, false, false, false, false, false, false, false, false, false, false, false, false, false, false, false, false, false, false, false] (by kernel_rfl) rfl rfl ⟨(blk_cell BK150.out 0).trans rfl, (blk_cell BK150.out 1).trans rfl, (blk_cell BK150.out 2).trans rfl, (blk_cell BK150.out 3).trans rfl, (blk_cell BK163.out 0).trans rfl, (blk_cell BK163.out 1).trans rfl, (blk_cell BK163.out 2).trans rfl, (blk_cell BK163.out 3).trans rfl, hx164_0, hx165_0, hx167_0, hx168_0⟩ (fun hHeld => ?_); refine with_tabW laws_FnTreesTurn.tab21 laws_FnTreesTurn.bits21 (fun HT_ HW_ => ?_)
                                                    generalize wr.drew = w65 at HO_5 HO_6 HO_151002 HO_151003 HO_164002 HO_164003 BK150 BK163 HB hx164_0 hx165_0 hx167_0 hx168_0 hHeld ⊢
                                                    refine pure_ (i := 0) (N := some 91) (v := ?_) (a' := ?_) #[true, false, false, false, false, false, false, false, false, false, false, false, false, false, false, false, false, false, false, false, false, false, false, false, false, false, false, false, false, false, false, false] rfl rfl (any_of HT_.out (by kernel_rfl)) (fun _ _ _ h => h) (Or.inl ⟨by rfl, ?_⟩) ?_ ?_
                                                    rotate_left
                                                    · intro w'
                                                      go_simp
                                                      with_reducible rfl
                                                    rotate_left
                                                    · simp only [Act.put, List.setIfInBounds_toArray, List.set_cons_zero, List.set_cons_succ, i64_w, i32_w]
                                                      rfl
                                                    refine pure_ (i := 1) (N := some 92) (v := ?_) (a' := ?_) #[true, true, false, false, false, false, false, false, false, false, false, false, false, false, false, false, false, false, false, false, false, false, false, false, false, false, false, false, false, false, false, false] rfl rfl (any_of HT_.out (by kernel_rfl)) (fun _ _ _ h => h) (Or.inl ⟨by rfl, ?_⟩) ?_ ?_
                                                    rotate_left
                                                    · intro w'
                                                      go_simp
                                                      with_reducible rfl
                                                    rotate_left
                                                    · simp only [Act.put, List.setIfInBounds_toArray, List.set_cons_zero, List.set_cons_succ, i64_w, i32_w]
                                                      rfl
                                                    refine pure_ (i := 3) (N := some 94) (v := ?_) (a' := ?_) #[true, true, false, true, false, false, false, false, false, false, false, false, false, false, false, false, false, false, false, false, false, false, false, false, false, false, false, false, false, false, false, false] rfl rfl (any_of HT_.out (by kernel_rfl)) (fun _ _ _ h => h) (Or.inl ⟨by rfl, ?_⟩) ?_ ?_
                                                    rotate_left
                                                    · intro w'
                                                      go_simp
                                                      with_reducible rfl
                                                    rotate_left
                                                    · simp only [Act.put, List.setIfInBounds_toArray, List.set_cons_zero, List.set_cons_succ, i64_w, i32_w]
                                                      rfl
                                                    refine pure_ (i := 6) (N := some 97) (v := ?_) (a' := ?_) #[true, true, false, true, false, false, true, false, false, false, false, false, false, false, false, false, false, false, false, false, false, false, false, false, false, false, false, false, false, false, false, false] rfl rfl (any_of HT_.out (by kernel_rfl)) (fun _ _ _ h => h) (Or.inl ⟨by rfl, ?_⟩) ?_ ?_
                                                    rotate_left
                                                    · intro w'
                                                      go_simp
                                                      with_reducible rfl
                                                    rotate_left
                                                    · simp only [Act.put, List.setIfInBounds_toArray, List.set_cons_zero, List.set_cons_succ, i64_w, i32_w]
                                                      rfl
                                                    refine pure_ (i := 8) (N := some 99) (v := ?_) (a' := ?_) #[true, true, false, true, false, false, true, false, true, false, false, false, false, false, false, false, false, false, false, false, false, false, false, false, false, false, false, false, false, false, false, false] rfl rfl (any_of HT_.out (by kernel_rfl)) (fun _ _ _ h => h) (Or.inl ⟨by rfl, ?_⟩) ?_ ?_
                                                    rotate_left
                                                    · intro w'
                                                      go_simp
                                                      with_reducible rfl
                                                    rotate_left
                                                    · simp only [Act.put, List.setIfInBounds_toArray, List.set_cons_zero, List.set_cons_succ, i64_w, i32_w]
                                                      rfl
                                                    refine pure_ (i := 9) (N := some 100) (v := ?_) (a' := ?_) #[true, true, false, true, false, false, true, false, true, true, false, false, false, false, false, false, false, false, false, false, false, false, false, false, false, false, false, false, false, false, false, false] rfl rfl (any_of HT_.out (by kernel_rfl)) (fun _ _ _ h => h) (Or.inl ⟨by rfl, ?_⟩) ?_ ?_
                                                    rotate_left
                                                    · intro w'
                                                      go_simp
                                                      with_reducible rfl
                                                    rotate_left
                                                    · simp only [Act.put, List.setIfInBounds_toArray, List.set_cons_zero, List.set_cons_succ, i64_w, i32_w]
                                                      rfl
                                                    refine pure_ (i := 10) (N := some 101) (v := ?_) (a' := ?_) #[true, true, false, true, false, false, true, false, true, true, true, false, false, false, false, false, false, false, false, false, false, false, false, false, false, false, false, false, false, false, false, false] rfl rfl (any_of HT_.out (by kernel_rfl)) (fun _ _ _ h => h) (Or.inl ⟨by rfl, ?_⟩) ?_ ?_
                                                    rotate_left
                                                    · intro w'
                                                      go_simp
                                                      with_reducible rfl
                                                    rotate_left
                                                    · simp only [Act.put, List.setIfInBounds_toArray, List.set_cons_zero, List.set_cons_succ, i64_w, i32_w]
                                                      rfl
                                                    refine pure_ (i := 11) (N := some 102) (v := ?_) (a' := ?_) #[true, true, false, true, false, false, true, false, true, true, true, true, false, false, false, false, false, false, false, false, false, false, false, false, false, false, false, false, false, false, false, false] rfl rfl (any_of HT_.out (by kernel_rfl)) (fun _ _ _ h => h) (Or.inl ⟨by rfl, ?_⟩) ?_ ?_
                                                    rotate_left
                                                    · intro w'
                                                      go_simp
                                                      with_reducible rfl
                                                    rotate_left
                                                    · simp only [Act.put, List.setIfInBounds_toArray, List.set_cons_zero, List.set_cons_succ, i64_w, i32_w]
                                                      rfl
                                                    refine take_ (i := 2) (N := some 93) (v := ?_) (a' := ?_) #[true, true, true, true, false, false, true, false, true, true, true, true, false, false, false, false, false, false, false, false, false, false, false, false, false, false, false, false, false, false, false, false] rfl rfl (take_ofW HT_.out HW_.out (by kernel_rfl)) (fun _ _ _ h => h) (Or.inl ⟨by rfl, ?_⟩) hHeld ?_ ?_
                                                    rotate_left
                                                    · rintro w' ⟨s0, s1, s2, s3, s4, s5, s6, s7, s8, s9, s10, s11⟩
                                                      go_simp
                                                      with_reducible rfl
                                                    rotate_left
                                                    · simp only [Act.put, List.setIfInBounds_toArray, List.set_cons_zero, List.set_cons_succ, i64_w, i32_w]
                                                      rfl
                                                    refine pure_ (i := 4) (N := some 95) (v := ?_) (a' := ?_) #[true, true, true, true, true, false, true, false, true, true, true, true, false, false, false, false, false, false, false, false, false, false, false, false, false, false, false, false, false, false, false, false] rfl rfl (any_of HT_.out (by kernel_rfl)) (fun _ _ _ h => h) (Or.inl ⟨by rfl, ?_⟩) ?_ ?_
                                                    rotate_left
                                                    · intro w'
                                                      go_simp
                                                      with_reducible rfl
                                                    rotate_left
                                                    · simp only [Act.put, List.setIfInBounds_toArray, List.set_cons_zero, List.set_cons_succ, i64_w, i32_w]
                                                      rfl
                                                    refine take_ (i := 5) (N := some 96) (v := ?_) (a' := ?_) #[true, true, true, true, true, true, true, false, true, true, true, true, false, false, false, false, false, false, false, false, false, false, false, false, false, false, false, false, false, false, false, false] rfl rfl (take_ofW HT_.out HW_.out (by kernel_rfl)) (fun _ _ _ h => h) (Or.inl ⟨by rfl, ?_⟩) hHeld ?_ ?_
                                                    rotate_left
                                                    · rintro w' ⟨s0, s1, s2, s3, s4, s5, s6, s7, s8, s9, s10, s11⟩
                                                      go_simp
                                                      with_reducible rfl
                                                    rotate_left
                                                    · simp only [Act.put, List.setIfInBounds_toArray, List.set_cons_zero, List.set_cons_succ, i64_w, i32_w]
                                                      rfl
                                                    refine take_ (i := 7) (N := some 98) (v := ?_) (a' := ?_) #[true, true, true, true, true, true, true, true, true, true, true, true, false, false, false, false, false, false, false, false, false, false, false, false, false, false, false, false, false, false, false, false] rfl rfl (take_ofW HT_.out HW_.out (by kernel_rfl)) (fun _ _ _ h => h) (Or.inl ⟨by rfl, ?_⟩) hHeld ?_ ?_
                                                    rotate_left
                                                    · rintro w' ⟨s0, s1, s2, s3, s4, s5, s6, s7, s8, s9, s10, s11⟩
                                                      go_simp
                                                      with_reducible rfl
                                                    rotate_left
                                                    · simp only [Act.put, List.setIfInBounds_toArray, List.set_cons_zero, List.set_cons_succ, i64_w, i32_w]
                                                      rfl
                                                    refine pure_ (i := 12) (N := some 103) (v := ?_) (a' := ?_) #[true, true, true, true, true, true, true, true, true, true, true, true, true, false, false, false, false, false, false, false, false, false, false, false, false, false, false, false, false, false, false, false] rfl rfl (any_of HT_.out (by kernel_rfl)) (fun _ _ _ h => h) (Or.inl ⟨by rfl, ?_⟩) ?_ ?_
                                                    rotate_left
                                                    · intro w'
                                                      go_simp
                                                      with_reducible rfl
                                                    rotate_left
                                                    · simp only [Act.put, List.setIfInBounds_toArray, List.set_cons_zero, List.set_cons_succ, i64_w, i32_w]
                                                      rfl
                                                    refine take_ (i := 13) (N := some 104) (v := ?_) (a' := ?_) #[true, true, true, true, true, true, true, true, true, true, true, true, true, true, false, false, false, false, false, false, false, false, false, false, false, false, false, false, false, false, false, false] rfl rfl (take_ofW HT_.out HW_.out (by kernel_rfl)) (fun _ _ _ h => h) (Or.inl ⟨by rfl, ?_⟩) hHeld ?_ ?_
                                                    rotate_left
                                                    · rintro w' ⟨s0, s1, s2, s3, s4, s5, s6, s7, s8, s9, s10, s11⟩
                                                      go_simp
                                                      with_reducible rfl
                                                    rotate_left
                                                    · simp only [Act.put, List.setIfInBounds_toArray, List.set_cons_zero, List.set_cons_succ, i64_w, i32_w]
                                                      rfl
                                                    refine one_ (i := 14) (N := some 105) #[true, true, true, true, true, true, true, true, true, true, true, true, true, true, true, false, false, false, false, false, false, false, false, false, false, false, false, false, false, false, false, false] rfl rfl (one_of HT_.out (by kernel_rfl)) (by decide) (fun K hK => ?_)
                                                    refine goes_ Try.func37 (by kernel_rfl) rfl #[.slice A0 l0.length c0, .int .i64 (rd t143 x14_5), .int .i64 (rd t156 (ji57))] (by rfl) rfl rfl (by (try simp only [List.map_toArray, List.map_cons, List.map_nil]); first | done | (simp only [hji57]; rfl) | rfl | (simp only [List.length_drop, List.length_take]; rfl)) ?_
                                                    with_reducible refine (spec_Alike.calls _ _ l0 (rd t143 x14_5) (rd t156 (ji57)) true _ ?side1 ?side2 A60.out).mono ?_
                                                    (case side1 => repeat (first | exact (Kd.C_below HR0.out HB.out) | (with_reducible refine Kd.C_alloc ?_ _) | (with_reducible refine Kd.C_drewN ?_ _) | (with_reducible refine Kd.C_drew ?_)))
                                                    (case side2 => exact HC0.out)
                                                    rintro e w' ⟨rfl, ⟨nd, rfl⟩⟩
                                                    refine ⟨_, rfl, ?_⟩
                                                    refine hK.out _ _ ⟨(blk_cell BK150.out 0).trans rfl, (blk_cell BK150.out 1).trans rfl, (blk_cell BK150.out 2).trans rfl, (blk_cell BK150.out 3).trans rfl, (blk_cell BK163.out 0).trans rfl, (blk_cell BK163.out 1).trans rfl, (blk_cell BK163.out 2).trans rfl, (blk_cell BK163.out 3).trans rfl, hHeld.2.2.2.2.2.2.2.2.1, hHeld.2.2.2.2.2.2.2.2.2.1, hHeld.2.2.2.2.2.2.2.2.2.2.1, hHeld.2.2.2.2.2.2.2.2.2.2.2⟩ (fun hHeld => ?_)
                                                    clear hK K
                                                    refine norm_ (a' := ?_) ?_ ?_
                                                    rotate_left
                                                    · show Act.put _ (some 105) _ = _
                                                      simp only [Act.put, List.setIfInBounds_toArray, List.set_cons_zero, List.set_cons_succ, i64_w, i32_w]
                                                      rfl
                                                    refine pure_ (i := 15) (N := some 106) (v := ?_) (a' := ?_) #[true, true, true, true, true, true, true, true, true, true, true, true, true, true, true, true, false, false, false, false, false, false, false, false, false, false, false, false, false, false, false, false] rfl rfl (any_of HT_.out (by kernel_rfl)) (fun _ _ _ h => h) (Or.inl ⟨by rfl, ?_⟩) ?_ ?_
                                                    rotate_left
                                                    · intro w'
                                                      go_simp
                                                      with_reducible rfl
                                                    rotate_left
                                                    · simp only [Act.put, List.setIfInBounds_toArray, List.set_cons_zero, List.set_cons_succ, i64_w, i32_w]
                                                      rfl
                                                    refine pure_ (i := 16) (N := some 107) (v := ?_) (a' := ?_) #[true, true, true, true, true, true, true, true, true, true, true, true, true, true, true, true, true, false, false, false, false, false, false, false, false, false, false, false, false, false, false, false] rfl rfl (any_of HT_.out (by kernel_rfl)) (fun _ _ _ h => h) (Or.inl ⟨by rfl, ?_⟩) ?_ ?_
                                                    rotate_left
                                                    · intro w'
                                                      go_simp
                                                      with_reducible rfl
                                                    rotate_left
                                                    · simp only [Act.put, List.setIfInBounds_toArray, List.set_cons_zero, List.set_cons_succ, i64_w, i32_w]
                                                      rfl
                                                    refine pure_ (i := 17) (N := some 108) (v := ?_) (a' := ?_) #[true, true, true, true, true, true, true, true, true, true, true, true, true, true, true, true, true, true, false, false, false, false, false, false, false, false, false, false, false, false, false, false] rfl rfl (any_of HT_.out (by kernel_rfl)) (fun _ _ _ h => h) (Or.inl ⟨by rfl, ?_⟩) ?_ ?_
                                                    rotate_left
                                                    · intro w'
                                                      go_simp
                                                      with_reducible rfl
                                                    rotate_left
                                                    · simp only [Act.put, List.setIfInBounds_toArray, List.set_cons_zero, List.set_cons_succ, i64_w, i32_w]
                                                      rfl
                                                    refine pure_ (i := 19) (N := some 110) (v := ?_) (a' := ?_) #[true, true, true, true, true, true, true, true, true, true, true, true, true, true, true, true, true, true, false, true, false, false, false, false, false, false, false, false, false, false, false, false] rfl rfl (any_of HT_.out (by kernel_rfl)) (fun _ _ _ h => h) (Or.inl ⟨by rfl, ?_⟩) ?_ ?_
                                                    rotate_left
                                                    · intro w'
                                                      go_simp
                                                      with_reducible rfl
                                                    rotate_left
                                                    · simp only [Act.put, List.setIfInBounds_toArray, List.set_cons_zero, List.set_cons_succ, i64_w, i32_w]
                                                      rfl
                                                    refine pure_ (i := 22) (N := some 113) (v := ?_) (a' := ?_) #[true, true, true, true, true, true, true, true, true, true, true, true, true, true, true, true, true, true, false, true, false, false, true, false, false, false, false, false, false, false, false, false] rfl rfl (any_of HT_.out (by kernel_rfl)) (fun _ _ _ h => h) (Or.inl ⟨by rfl, ?_⟩) ?_ ?_
                                                    rotate_left
                                                    · intro w'
                                                      go_simp
                                                      with_reducible rfl
                                                    rotate_left
                                                    · simp only [Act.put, List.setIfInBounds_toArray, List.set_cons_zero, List.set_cons_succ, i64_w, i32_w]
                                                      rfl
                                                    refine pure_ (i := 24) (N := some 115) (v := ?_) (a' := ?_) #[true, true, true, true, true, true, true, true, true, true, true, true, true, true, true, true, true, true, false, true, false, false, true, false, true, false, false, false, false, false, false, false] rfl rfl (any_of HT_.out (by kernel_rfl)) (fun _ _ _ h => h) (Or.inl ⟨by rfl, ?_⟩) ?_ ?_
                                                    rotate_left
                                                    · intro w'
                                                      go_simp
                                                      with_reducible rfl
                                                    rotate_left
                                                    · simp only [Act.put, List.setIfInBounds_toArray, List.set_cons_zero, List.set_cons_succ, i64_w, i32_w]
                                                      rfl
                                                    refine pure_ (i := 25) (N := some 116) (v := ?_) (a' := ?_) #[true, true, true, true, true, true, true, true, true, true, true, true, true, true, true, true, true, true, false, true, false, false, true, false, true, true, false, false, false, false, false, false] rfl rfl (any_of HT_.out (by kernel_rfl)) (fun _ _ _ h => h) (Or.inl ⟨by rfl, ?_⟩) ?_ ?_
                                                    rotate_left
                                                    · intro w'
                                                      go_simp
                                                      with_reducible rfl
                                                    rotate_left
                                                    · simp only [Act.put, List.setIfInBounds_toArray, List.set_cons_zero, List.set_cons_succ, i64_w, i32_w]
                                                      rfl
                                                    refine pure_ (i := 26) (N := some 117) (v := ?_) (a' := ?_) #[true, true, true, true, true, true, true, true, true, true, true, true, true, true, true, true, true, true, false, true, false, false, true, false, true, true, true, false, false, false, false, false] rfl rfl (any_of HT_.out (by kernel_rfl)) (fun _ _ _ h => h) (Or.inl ⟨by rfl, ?_⟩) ?_ ?_
                                                    rotate_left
                                                    · intro w'
                                                      go_simp
                                                      with_reducible rfl
                                                    rotate_left
                                                    · simp only [Act.put, List.setIfInBounds_toArray, List.set_cons_zero, List.set_cons_succ, i64_w, i32_w]
                                                      rfl
                                                    refine pure_ (i := 27) (N := some 118) (v := ?_) (a' := ?_) #[true, true, true, true, true, true, true, true, true, true, true, true, true, true, true, true, true, true, false, true, false, false, true, false, true, true, true, true, false, false, false, false] rfl rfl (any_of HT_.out (by kernel_rfl)) (fun _ _ _ h => h) (Or.inl ⟨by rfl, ?_⟩) ?_ ?_
                                                    rotate_left
                                                    · intro w'
                                                      go_simp
                                                      with_reducible rfl
                                                    rotate_left
                                                    · simp only [Act.put, List.setIfInBounds_toArray, List.set_cons_zero, List.set_cons_succ, i64_w, i32_w]
                                                      rfl
                                                    refine take_ (i := 18) (N := some 109) (v := ?_) (a' := ?_) #[true, true, true, true, true, true, true, true, true, true, true, true, true, true, true, true, true, true, true, true, false, false, true, false, true, true, true, true, false, false, false, false] rfl rfl (take_ofW HT_.out HW_.out (by kernel_rfl)) (fun _ _ _ h => h) (Or.inl ⟨by rfl, ?_⟩) hHeld ?_ ?_
                                                    rotate_left
                                                    · rintro w' ⟨s0, s1, s2, s3, s4, s5, s6, s7, s8, s9, s10, s11⟩
                                                      go_simp
                                                      with_reducible rfl
                                                    rotate_left
                                                    · simp only [Act.put, List.setIfInBounds_toArray, List.set_cons_zero, List.set_cons_succ, i64_w, i32_w]
                                                      rfl
                                                    refine pure_ (i := 20) (N := some 111) (v := ?_) (a' := ?_) #[true, true, true, true, true, true, true, true, true, true, true, true, true, true, true, true, true, true, true, true, true, false, true, false, true, true, true, true, false, false, false, false] rfl rfl (any_of HT_.out (by kernel_rfl)) (fun _ _ _ h => h) (Or.inl ⟨by rfl, ?_⟩) ?_ ?_
                                                    rotate_left
                                                    · intro w'
                                                      go_simp
                                                      with_reducible rfl
                                                    rotate_left
                                                    · simp only [Act.put, List.setIfInBounds_toArray, List.set_cons_zero, List.set_cons_succ, i64_w, i32_w]
                                                      rfl
                                                    refine take_ (i := 21) (N := some 112) (v := ?_) (a' := ?_) #[true, true, true, true, true, true, true, true, true, true, true, true, true, true, true, true, true, true, true, true, true, true, true, false, true, true, true, true, false, false, false, false] rfl rfl (take_ofW HT_.out HW_.out (by kernel_rfl)) (fun _ _ _ h => h) (Or.inl ⟨by rfl, ?_⟩) hHeld ?_ ?_
                                                    rotate_left
                                                    · rintro w' ⟨s0, s1, s2, s3, s4, s5, s6, s7, s8, s9, s10, s11⟩
                                                      go_simp
                                                      with_reducible rfl
                                                    rotate_left
                                                    · simp only [Act.put, List.setIfInBounds_toArray, List.set_cons_zero, List.set_cons_succ, i64_w, i32_w]
                                                      rfl
                                                    refine take_ (i := 23) (N := some 114) (v := ?_) (a' := ?_) #[true, true, true, true, true, true, true, true, true, true, true, true, true, true, true, true, true, true, true, true, true, true, true, true, true, true, true, true, false, false, false, false] rfl rfl (take_ofW HT_.out HW_.out (by kernel_rfl)) (fun _ _ _ h => h) (Or.inl ⟨by rfl, ?_⟩) hHeld ?_ ?_
                                                    rotate_left
                                                    · rintro w' ⟨s0, s1, s2, s3, s4, s5, s6, s7, s8, s9, s10, s11⟩
                                                      go_simp
                                                      with_reducible rfl
                                                    rotate_left
                                                    · simp only [Act.put, List.setIfInBounds_toArray, List.set_cons_zero, List.set_cons_succ, i64_w, i32_w]
                                                      rfl
                                                    refine pure_ (i := 28) (N := some 119) (v := ?_) (a' := ?_) #[true, true, true, true, true, true, true, true, true, true, true, true, true, true, true, true, true, true, true, true, true, true, true, true, true, true, true, true, true, false, false, false] rfl rfl (any_of HT_.out (by kernel_rfl)) (fun _ _ _ h => h) (Or.inl ⟨by rfl, ?_⟩) ?_ ?_
                                                    rotate_left
                                                    · intro w'
                                                      go_simp
                                                      with_reducible rfl
                                                    rotate_left
                                                    · simp only [Act.put, List.setIfInBounds_toArray, List.set_cons_zero, List.set_cons_succ, i64_w, i32_w]
                                                      rfl
                                                    refine take_ (i := 29) (N := some 120) (v := ?_) (a' := ?_) #[true, true, true, true, true, true, true, true, true, true, true, true, true, true, true, true, true, true, true, true, true, true, true, true, true, true, true, true, true, true, false, false] rfl rfl (take_ofW HT_.out HW_.out (by kernel_rfl)) (fun _ _ _ h => h) (Or.inl ⟨by rfl, ?_⟩) hHeld ?_ ?_
                                                    rotate_left
                                                    · rintro w' ⟨s0, s1, s2, s3, s4, s5, s6, s7, s8, s9, s10, s11⟩
                                                      go_simp
                                                      with_reducible rfl
                                                    rotate_left
                                                    · simp only [Act.put, List.setIfInBounds_toArray, List.set_cons_zero, List.set_cons_succ, i64_w, i32_w]
                                                      rfl
                                                    refine pure_ (i := 30) (N := some 121) (v := ?_) (a' := ?_) #[true, true, true, true, true, true, true, true, true, true, true, true, true, true, true, true, true, true, true, true, true, true, true, true, true, true, true, true, true, true, true, false] rfl rfl (any_of HT_.out (by kernel_rfl)) (fun _ _ _ h => h) (Or.inl ⟨by rfl, ?_⟩) ?_ ?_
                                                    rotate_left
                                                    · intro w'
                                                      go_simp
                                                      with_reducible rfl
                                                    rotate_left
                                                    · simp only [Act.put, List.setIfInBounds_toArray, List.set_cons_zero, List.set_cons_succ, i64_w, i32_w]
                                                      rfl
                                                    refine pure_ (i := 31) (N := some 122) (v := ?_) (a' := ?_) #[true, true, true, true, true, true, true, true, true, true, true, true, true, true, true, true, true, true, true, true, true, true, true, true, true, true, true, true, true, true, true, true] rfl rfl (any_of HT_.out (by kernel_rfl)) (fun _ _ _ h => h) (Or.inl ⟨by rfl, ?_⟩) ?_ ?_
                                                    rotate_left
                                                    · intro w'
                                                      go_simp
                                                      with_reducible rfl
                                                    rotate_left
                                                    · simp only [Act.put, List.setIfInBounds_toArray, List.set_cons_zero, List.set_cons_succ, i64_w, i32_w]
                                                      rfl
                                                    refine done_ (done_of HT_.out (by kernel_rfl)) ?_
                                                    try go_wp2
                                                    go_roundg k5
                                                    case measure => have := HJ2.out; have := HK2.out; have := HJ15.out; have := HJ21.out; have := HK5.out; omega
                                                    case rel => exact ⟨(wrap64 (x14_5 + 1)), (by first | rfl | (simp; done) | (simp [*]; done)), H', ⟨by have := HJ2.out; have := HK2.out; have := HJ15.out; have := HJ21.out; have := HK5.out; omega⟩, ⟨by (with_reducible repeat (first | apply Kd.R_alloc | apply Kd.R_drewN | apply Kd.R_drew)); exact HO_5.out⟩, ⟨by (with_reducible repeat (first | apply Kd.R_alloc | apply Kd.R_drewN | apply Kd.R_drew)); exact HO_6.out⟩, ⟨by (with_reducible repeat (first | apply Kd.V_alloc | apply Kd.V_drewN | apply Kd.V_drew)); exact HO_151002.out⟩, ⟨by (with_reducible repeat (first | apply Kd.V_alloc | apply Kd.V_drewN | apply Kd.V_drew)); exact HO_151003.out⟩, ⟨by (with_reducible repeat (first | apply Kd.V_alloc | apply Kd.V_drewN | apply Kd.V_drew)); exact HO_164002.out⟩, ⟨by (with_reducible repeat (first | apply Kd.V_alloc | apply Kd.V_drewN | apply Kd.V_drew)); exact HO_164003.out⟩, ⟨by (with_reducible repeat (first | refine blk_drewN ?_ _ | refine blk_drew ?_ | refine blk_alloc ?_ _)); exact BK150.out⟩, ⟨by (with_reducible repeat (first | refine blk_drewN ?_ _ | refine blk_drew ?_ | refine blk_alloc ?_ _)); exact BK163.out⟩, ⟨by repeat (first | (with_reducible first | exact HB.out | apply below_alloc | apply pw_below_drewN | apply below_drew1 | refine below_set ?_ GE150.out | refine below_set ?_ GE163.out) | exact HB.out)⟩⟩
                                                  · rw [if_neg c64] at H
                                                    have c64b0 : ((rd t146 x14_5) == (rd t159 (ji57))) = false := beq_eq_false_iff_ne.mpr c64
                                                    have c64b1 : ((rd t146 x14_5) != (rd t159 (ji57))) = true := bne_iff_ne.mpr c64
                                                    exact absurd H (by simp)
                                                · rw [if_neg c63] at H
                                                  exact absurd H (by simp)
                                              · rw [if_neg c62] at H
                                                exact absurd H (by simp)
                                            · replace c61 := Bool.eq_false_iff.mpr c61
                                              subst c61
                                              have H1 : (none) = some r := by rw [if_neg (show ¬ (false = true) by decide)] at H; exact H
                                              exact absurd H1 (by simp)
                                          · rw [if_neg c59] at H
                                            exact absurd H (by simp)
                                        · rw [if_neg c58] at H
                                          exact absurd H (by simp)
                                      · rw [if_neg c56] at H
                                        exact absurd H (by simp)
                                    · rw [if_neg c55] at H
                                      exact absurd H (by simp)
                                  · rw [if_neg c54] at H
                                    have c54b0 : decide (x14_5 < (t143.length : Int)) = false := decide_eq_false c54
                                    clear c54
                                    have H' := Aside0.mk H
                                    clear H
                                    go_wp2
                                    go_roundg k5
                                    case measure => have := HJ2.out; have := HK2.out; have := HJ15.out; have := HJ21.out; have := HK5.out; omega
                                    case rel => exact ⟨(wrap64 (x7_2 + 1)), (by first | rfl | (simp; done) | (simp [*]; done)), H', ⟨by have := HJ2.out; have := HK2.out; have := HJ15.out; have := HJ21.out; have := HK5.out; omega⟩, ⟨by (with_reducible repeat (first | apply Kd.R_alloc | apply Kd.R_drewN | apply Kd.R_drew)); exact HO_5.out⟩, ⟨by (with_reducible repeat (first | apply Kd.R_alloc | apply Kd.R_drewN | apply Kd.R_drew)); exact HO_6.out⟩, ⟨by repeat (first | (with_reducible first | exact HB.out | apply below_alloc | apply pw_below_drewN | apply below_drew1 | refine below_set ?_ GE150.out | refine below_set ?_ GE163.out) | exact HB.out)⟩⟩
                  · rw [if_neg c15] at H
                    have c15b0 : decide (x7_2 < 2) = false := decide_eq_false c15
                    clear c15
                    obtain rfl := Option.some.inj H
                    go_wp2
                    go_ret
                    exact ⟨by first | rfl | (simp [errW_none, errW_some] <;> rfl) | (simp [*, errW_none, errW_some] <;> rfl), by repeat (first | (with_reducible first | exact HB.out | apply below_alloc | apply pw_below_drewN | apply below_drew1) | exact HB.out)⟩
            · rw [if_neg c9] at H
              exact absurd H (by simp)
          · rw [if_neg c8] at H
            exact absurd H (by simp)

end Go.Proofs.Ytjlcebgfknfelaa.QFnTreesTurn
