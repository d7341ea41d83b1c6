/- The machine's side of a law, as the kit's print writes it; of the functions that the print doesn't cover this session's own contracts stand in it: no condition. -/
import Derived.Test.YtjlcebgfknfelaaQFnTreesBeginx0
import Derived.Test.YtjlcebgfknfelaaQFnTreesBeginx1
namespace Go.Proofs.Ytjlcebgfknfelaa.QFnTreesBegin
open Go.RowKit Go.Proofs.YtjlcebgfknfelaaW.PrintWords Go.Proofs.YtjlcebgfknfelaaW.PrintLast Go.Proofs.YtjlcebgfknfelaaW.PrintMore
attribute [local go_sem] max2_int min2_int max_two min_two max_three min_three max_four min_four   -- for this text's walks alone
set_option linter.unusedVariables false
set_option linter.unusedSimpArgs false

/-! ### laws_FnTreesBegin: function 10 -/
mutual
def laws_FnTreesBegin.j0 : Nat → List Int → List (S66) → Int → Bool → Option (Bool)
  | 0, _, _, _, _ => none
  | k + 1, x0, x1, x2, x20 => if x20 = true then (some true) else (if (wrap64 ((x1.length : Int) + 1)) = 0 then (none) else ((impl_AvlRun.f x0 x1).bind fun t113 => ((impl_BtreeRun.f x0 x1).bind fun t116 => (if (t113.length : Int) = (x1.length : Int) then (laws_FnTreesBegin.j1 k x0 x1 (Int.tmod (wrap64 ((wrap64 ((Int.tmod x2 (wrap64 ((x1.length : Int) + 1))) + (x1.length : Int))) + 1)) (wrap64 ((x1.length : Int) + 1))) t113 t116 ((t116.length : Int) != (x1.length : Int))) else (laws_FnTreesBegin.j1 k x0 x1 (Int.tmod (wrap64 ((wrap64 ((Int.tmod x2 (wrap64 ((x1.length : Int) + 1))) + (x1.length : Int))) + 1)) (wrap64 ((x1.length : Int) + 1))) t113 t116 true)))))
def laws_FnTreesBegin.j1 : Nat → List Int → List (S66) → Int → List (S46) → List (S46) → Bool → Option (Bool)
  | 0, _, _, _, _, _, _ => none
  | k + 1, x0, x1, x7, x8, x9, x51 => if x51 = true then (none) else (if 0 ≤ x7 then (if x7 ≤ (x1.length : Int) then ((impl_AvlRun.f x0 (x1.take (x7 : Int).toNat)).bind fun t123 => ((impl_BtreeRun.f x0 (x1.take (x7 : Int).toNat)).bind fun t130 => (if (t123.length : Int) = x7 then (laws_FnTreesBegin.j2 k x7 x8 x9 t123 t130 ((t130.length : Int) != x7)) else (laws_FnTreesBegin.j2 k x7 x8 x9 t123 t130 true)))) else (none)) else (none))
def laws_FnTreesBegin.j2 : Nat → Int → List (S46) → List (S46) → List (S46) → List (S46) → Bool → Option (Bool)
  | 0, _, _, _, _, _, _ => none
  | k + 1, x7, x8, x9, x10, x11, x71 => if x71 = true then (none) else (laws_FnTreesBegin.l0 k x7 x8 x9 x10 x11 0)
def laws_FnTreesBegin.l0 : Nat → Int → List (S46) → List (S46) → List (S46) → List (S46) → Int → Option (Bool)
  | 0, _, _, _, _, _, _ => none
  | k + 1, x7, x8, x9, x10, x11, x12 => if x12 < x7 then (if 0 ≤ x12 then (if x12 < (x10.length : Int) then (if x12 < (x8.length : Int) then ((laws_treeSame.f k ((rd_T46 x10 x12).f0) ((rd_T46 x10 x12).f1) ((rd_T46 x10 x12).f2) ((rd_T46 x10 x12).f3) ((rd_T46 x8 x12).f0) ((rd_T46 x8 x12).f1) ((rd_T46 x8 x12).f2) ((rd_T46 x8 x12).f3)).bind fun t135 => (if t135 = true then (if x12 < (x11.length : Int) then (if x12 < (x9.length : Int) then ((laws_treeSame.f k ((rd_T46 x11 x12).f0) ((rd_T46 x11 x12).f1) ((rd_T46 x11 x12).f2) ((rd_T46 x11 x12).f3) ((rd_T46 x9 x12).f0) ((rd_T46 x9 x12).f1) ((rd_T46 x9 x12).f2) ((rd_T46 x9 x12).f3)).bind fun t138 => (if t138 = true then (laws_FnTreesBegin.l0 k x7 x8 x9 x10 x11 (wrap64 (x12 + 1))) else (none))) else (none)) else (none)) else (none))) else (none)) else (none)) else (none)) else (some true)
end
def laws_FnTreesBegin.f (k : Nat) (l0 : List Int) (l1 : List (S66)) (a2 : Int) : Option (Bool) := if (l0.length : Int) > 2147483647 then (laws_FnTreesBegin.j0 k l0 l1 a2 true) else (laws_FnTreesBegin.j0 k l0 l1 a2 (decide ((l1.length : Int) > 2147483647)))
theorem laws_FnTreesBegin.mono_l : ∀ k, (∀ y0 y1 y2 y3, LeO (laws_FnTreesBegin.j0 k y0 y1 y2 y3) (laws_FnTreesBegin.j0 (k + 1) y0 y1 y2 y3)) ∧ (∀ y0 y1 y2 y3 y4 y5, LeO (laws_FnTreesBegin.j1 k y0 y1 y2 y3 y4 y5) (laws_FnTreesBegin.j1 (k + 1) y0 y1 y2 y3 y4 y5)) ∧ (∀ y0 y1 y2 y3 y4 y5, LeO (laws_FnTreesBegin.j2 k y0 y1 y2 y3 y4 y5) (laws_FnTreesBegin.j2 (k + 1) y0 y1 y2 y3 y4 y5)) ∧ (∀ y0 y1 y2 y3 y4 y5, LeO (laws_FnTreesBegin.l0 k y0 y1 y2 y3 y4 y5) (laws_FnTreesBegin.l0 (k + 1) y0 y1 y2 y3 y4 y5))
  | 0 => ⟨fun _ _ _ _ r h => by simp [laws_FnTreesBegin.j0] at h, fun _ _ _ _ _ _ r h => by simp [laws_FnTreesBegin.j1] at h, fun _ _ _ _ _ _ r h => by simp [laws_FnTreesBegin.j2] at h, fun _ _ _ _ _ _ r h => by simp [laws_FnTreesBegin.l0] at h⟩
  | k + 1 => by
    obtain ⟨ih0, ih1, ih2, ih3⟩ := laws_FnTreesBegin.mono_l k
    refine ⟨?_, ?_, ?_, ?_⟩
    · intro y0 y1 y2 y3
      unfold laws_FnTreesBegin.j0
      repeat' first
      | (with_reducible exact ih0 _ _ _ _)
      | (with_reducible exact ih1 _ _ _ _ _ _)
      | (with_reducible exact ih2 _ _ _ _ _ _)
      | (with_reducible exact ih3 _ _ _ _ _ _)
      | (with_reducible exact laws_treeSame.mono _ _ _ _ _ _ _ _ _)
      | (with_reducible exact LeO.refl _)
      | (with_reducible exact LeO.none _)
      | (with_reducible refine LeO.ite ?_ ?_)
      | (with_reducible refine LeO.bind ?_ (fun _ => ?_))
      | exact ih0 _ _ _ _
      | exact ih1 _ _ _ _ _ _
      | exact ih2 _ _ _ _ _ _
      | exact ih3 _ _ _ _ _ _
      | exact laws_treeSame.mono _ _ _ _ _ _ _ _ _
      | exact LeO.none _
      | refine LeO.ite ?_ ?_
      | refine LeO.bind ?_ (fun _ => ?_)
    · intro y0 y1 y2 y3 y4 y5
      unfold laws_FnTreesBegin.j1
      repeat' first
      | (with_reducible exact ih0 _ _ _ _)
      | (with_reducible exact ih1 _ _ _ _ _ _)
      | (with_reducible exact ih2 _ _ _ _ _ _)
      | (with_reducible exact ih3 _ _ _ _ _ _)
      | (with_reducible exact laws_treeSame.mono _ _ _ _ _ _ _ _ _)
      | (with_reducible exact LeO.refl _)
      | (with_reducible exact LeO.none _)
      | (with_reducible refine LeO.ite ?_ ?_)
      | (with_reducible refine LeO.bind ?_ (fun _ => ?_))
      | exact ih0 _ _ _ _
      | exact ih1 _ _ _ _ _ _
      | exact ih2 _ _ _ _ _ _
      | exact ih3 _ _ _ _ _ _
      | exact laws_treeSame.mono _ _ _ _ _ _ _ _ _
      | exact LeO.none _
      | refine LeO.ite ?_ ?_
      | refine LeO.bind ?_ (fun _ => ?_)
    · intro y0 y1 y2 y3 y4 y5
      unfold laws_FnTreesBegin.j2
      repeat' first
      | (with_reducible exact ih0 _ _ _ _)
      | (with_reducible exact ih1 _ _ _ _ _ _)
      | (with_reducible exact ih2 _ _ _ _ _ _)
      | (with_reducible exact ih3 _ _ _ _ _ _)
      | (with_reducible exact laws_treeSame.mono _ _ _ _ _ _ _ _ _)
      | (with_reducible exact LeO.refl _)
      | (with_reducible exact LeO.none _)
      | (with_reducible refine LeO.ite ?_ ?_)
      | (with_reducible refine LeO.bind ?_ (fun _ => ?_))
      | exact ih0 _ _ _ _
      | exact ih1 _ _ _ _ _ _
      | exact ih2 _ _ _ _ _ _
      | exact ih3 _ _ _ _ _ _
      | exact laws_treeSame.mono _ _ _ _ _ _ _ _ _
      | exact LeO.none _
      | refine LeO.ite ?_ ?_
      | refine LeO.bind ?_ (fun _ => ?_)
    · intro y0 y1 y2 y3 y4 y5
      unfold laws_FnTreesBegin.l0
      repeat' first
      | (with_reducible exact ih0 _ _ _ _)
      | (with_reducible exact ih1 _ _ _ _ _ _)
      | (with_reducible exact ih2 _ _ _ _ _ _)
      | (with_reducible exact ih3 _ _ _ _ _ _)
      | (with_reducible exact laws_treeSame.mono _ _ _ _ _ _ _ _ _)
      | (with_reducible exact LeO.refl _)
      | (with_reducible exact LeO.none _)
      | (with_reducible refine LeO.ite ?_ ?_)
      | (with_reducible refine LeO.bind ?_ (fun _ => ?_))
      | exact ih0 _ _ _ _
      | exact ih1 _ _ _ _ _ _
      | exact ih2 _ _ _ _ _ _
      | exact ih3 _ _ _ _ _ _
      | exact laws_treeSame.mono _ _ _ _ _ _ _ _ _
      | exact LeO.none _
      | refine LeO.ite ?_ ?_
      | refine LeO.bind ?_ (fun _ => ?_)
theorem laws_FnTreesBegin.mono : ∀ a0 a1 a2 k, LeO (laws_FnTreesBegin.f k a0 a1 a2) (laws_FnTreesBegin.f (k + 1) a0 a1 a2) := by
  intro a0 a1 a2 k
  obtain ⟨ih0, ih1, ih2, ih3⟩ := laws_FnTreesBegin.mono_l k
  unfold laws_FnTreesBegin.f
  repeat' first
      | (with_reducible exact ih0 _ _ _ _)
      | (with_reducible exact ih1 _ _ _ _ _ _)
      | (with_reducible exact ih2 _ _ _ _ _ _)
      | (with_reducible exact ih3 _ _ _ _ _ _)
      | (with_reducible exact laws_treeSame.mono _ _ _ _ _ _ _ _ _)
      | (with_reducible exact LeO.refl _)
      | (with_reducible exact LeO.none _)
      | (with_reducible refine LeO.ite ?_ ?_)
      | (with_reducible refine LeO.bind ?_ (fun _ => ?_))
      | exact ih0 _ _ _ _
      | exact ih1 _ _ _ _ _ _
      | exact ih2 _ _ _ _ _ _
      | exact ih3 _ _ _ _ _ _
      | exact laws_treeSame.mono _ _ _ _ _ _ _ _ _
      | exact LeO.none _
      | refine LeO.ite ?_ ?_
      | refine LeO.bind ?_ (fun _ => ?_)
def laws_FnTreesBegin.T7 : Bool × List (List Nat × List Nat) := (true, [([], []), ([], []), ([], []), ([1, 2], [1, 2]), ([0, 3], [0, 3]), ([], []), ([], []), ([], []), ([6, 7], [6, 7]), ([5, 8, 4], [5, 8]), ([4, 9, 0, 1, 2, 3, 4], [4]), ([9, 10, 0, 1, 2, 3, 4, 5, 6, 7, 8, 9, 10], [9])])
def laws_FnTreesBegin.B7 : List Nat := [0, 0, 0, 6, 15, 0, 0, 0, 192, 511, 1023, 2047]
theorem laws_FnTreesBegin.tab7 : rtab .any (opsOf Try.f10 7) = laws_FnTreesBegin.T7 := by kernel_rfl
theorem laws_FnTreesBegin.bits7 : waitsOk laws_FnTreesBegin.T7.2 laws_FnTreesBegin.B7 = true := by kernel_rfl
def laws_FnTreesBegin.T13 : Bool × List (List Nat × List Nat) := (true, [([], []), ([], []), ([0, 1], [0, 1]), ([2], [2]), ([], []), ([], []), ([4, 5], [4, 5]), ([6], [6]), ([3, 7], [3, 7]), ([8], [8]), ([9, 8], [9]), ([10], [10]), ([10], [10]), ([11, 12, 10], [10, 11, 12]), ([13, 10], [10, 13]), ([10], [10]), ([10], [10]), ([15, 16, 10], [10, 15, 16]), ([17, 10], [10, 17]), ([14, 18, 10, 10], [10, 14, 18]), ([19, 10], [10, 19]), ([10, 20], [10, 20])])
def laws_FnTreesBegin.B13 : List Nat := [0, 0, 3, 7, 0, 0, 48, 112, 255, 511, 1023, 2047, 2047, 8191, 16383, 2047, 2047, 100351, 231423, 524287, 1048575, 2097151]
theorem laws_FnTreesBegin.tab13 : rtab .any (opsOf Try.f10 13) = laws_FnTreesBegin.T13 := by kernel_rfl
theorem laws_FnTreesBegin.bits13 : waitsOk laws_FnTreesBegin.T13.2 laws_FnTreesBegin.B13 = true := by kernel_rfl
set_option maxHeartbeats 8000000 in
set_option maxRecDepth 100000 in
theorem laws_FnTreesBegin.calls (k : Nat) (A0 : Option Addr) (c0 : Nat) (l0 : List Int) (A1 : Option Addr) (c1 : Nat) (l1 : List (S66)) (a2 : Int) (r : Bool) (w : World) (hr0 : Kd.C (Kd.int .i64) w A0 l0.length l0) (hc0 : l0.length ≤ c0) (hr1 : Kd.C k66 w A1 l1.length l1) (hc1 : l1.length ≤ c1) (h : laws_FnTreesBegin.f k l0 l1 a2 = some r) :
    Calls Try.prog 10 #[.slice A0 l0.length c0, .slice A1 l1.length c1, .int .i64 a2] w fun e w' => e = .returned (.bool r) ∧ Below w.heap.size w w' := by
  have hu46 := Try.underlying46
  have HR0 := Aside0.mk hr0
  have HC0 := Aside0.mk hc0
  clear hr0 hc0
  have HR1 := Aside0.mk hr1
  have HC1 := Aside0.mk hc1
  clear hr1 hc1
  have HB := Aside0.mk (Below.refl w.heap.size w)
  have H : (if (l0.length : Int) > 2147483647 then (laws_FnTreesBegin.j0 k l0 l1 a2 true) else (laws_FnTreesBegin.j0 k l0 l1 a2 (decide ((l1.length : Int) > 2147483647)))) = some r := h
  clear h
  have HC4 := Aside0.mk H
  clear H
  go_enter Try.func10, Try.ntmps10
  go_upto_region 1 with (fail)
  go_cut [20] (fun v20 wc => ∃ (kq : Nat) (x20_3 : Bool), v20 = .bool x20_3 ∧ Aside0 (laws_FnTreesBegin.j0 kq l0 l1 a2 x20_3 = some r) ∧ Aside0 (kq ≤ k) ∧ Aside0 (Below w.heap.size w wc))
  case first =>
    have H := HC4.out
    clear HC4
    by_cases c5 : (l0.length : Int) > 2147483647
    · rw [if_pos c5] at H
      have c5b0 : decide (2147483647 < (l0.length : Int)) = true := decide_eq_true c5
      have c5b1 : decide (2147483647 < l0.length) = true := decide_eq_true (by omega)
      clear c5
      (first | rw [c5b0] | (simp only [i64_w, i32_w]; rw [c5b0]) | skip)
      have H' := Aside0.mk H
      clear H
      go_wp2
      go_meet
      case rel => exact ⟨_, (true), (by first | rfl | (simp; done) | (simp [*]; done)), H', ⟨by first | omega | exact Nat.le_refl _⟩, ⟨by repeat (first | (with_reducible first | exact HB.out | apply below_alloc | apply pw_below_drewN | apply below_drew1) | exact HB.out)⟩⟩
    · rw [if_neg c5] at H
      have c5b0 : decide (2147483647 < (l0.length : Int)) = false := decide_eq_false c5
      have c5b1 : decide (2147483647 < l0.length) = false := decide_eq_false (by omega)
      clear c5
      (first | rw [c5b0] | (simp only [i64_w, i32_w]; rw [c5b0]) | skip)
      have H' := Aside0.mk H
      clear H
      go_wp2
      go_meet
      case rel => exact ⟨_, (decide ((l1.length : Int) > 2147483647)), (by first | rfl | (simp; done) | (simp [*]; done)), H', ⟨by first | omega | exact Nat.le_refl _⟩, ⟨by repeat (first | (with_reducible first | exact HB.out | apply below_alloc | apply pw_below_drewN | apply below_drew1) | exact HB.out)⟩⟩
  case rest =>
    clear HC4
    try clear c1
    try clear p2
    try clear c5
    try clear c5b0
    try clear c5b1
    obtain ⟨kq, x20_3, rfl, HA, HJ3, HB⟩ := hcut
    cases kq with
    | zero => exact absurd HA.out (by simp [laws_FnTreesBegin.j0])
    | succ kj3 =>
      have H := HA.out
      clear HA
      simp only [laws_FnTreesBegin.j0] at H
      by_cases c6 : x20_3 = true
      · subst c6
        have H1 : (some true) = some r := by rw [if_pos rfl] at H; exact H
        clear H
        have H := H1
        clear H1
        obtain rfl := Option.some.inj H
        go_wp2
        go_ret
        exact ⟨by first | rfl | (simp [errW_none, errW_some] <;> rfl) | (simp [*, errW_none, errW_some] <;> rfl), by repeat (first | (with_reducible first | exact HB.out | apply below_alloc | apply pw_below_drewN | apply below_drew1) | exact HB.out)⟩
      · replace c6 := Bool.eq_false_iff.mpr c6
        subst c6
        have H1 : (if (wrap64 ((l1.length : Int) + 1)) = 0 then (none) else ((impl_AvlRun.f l0 l1).bind fun t113 => ((impl_BtreeRun.f l0 l1).bind fun t116 => (if (t113.length : Int) = (l1.length : Int) then (laws_FnTreesBegin.j1 kj3 l0 l1 (Int.tmod (wrap64 ((wrap64 ((Int.tmod a2 (wrap64 ((l1.length : Int) + 1))) + (l1.length : Int))) + 1)) (wrap64 ((l1.length : Int) + 1))) t113 t116 ((t116.length : Int) != (l1.length : Int))) else (laws_FnTreesBegin.j1 kj3 l0 l1 (Int.tmod (wrap64 ((wrap64 ((Int.tmod a2 (wrap64 ((l1.length : Int) + 1))) + (l1.length : Int))) + 1)) (wrap64 ((l1.length : Int) + 1))) t113 t116 true))))) = some r := by rw [if_neg (show ¬ (false = true) by decide)] at H; exact H
        clear H
        have H := H1
        clear H1
        by_cases c7 : (wrap64 ((l1.length : Int) + 1)) = 0
        · rw [if_pos c7] at H
          exact absurd H (by simp)
        · rw [if_neg c7] at H
          have c7b0 : ((wrap64 ((l1.length : Int) + 1)) == 0) = false := beq_eq_false_iff_ne.mpr c7
          have c7b1 : ((wrap64 ((l1.length : Int) + 1)) != 0) = true := bne_iff_ne.mpr c7
          replace H := Option.bind_eq_some_iff.mp H
          obtain ⟨t113, A80, H⟩ := H
          replace H : ((impl_BtreeRun.f l0 l1).bind fun t116 => (if (t113.length : Int) = (l1.length : Int) then (laws_FnTreesBegin.j1 kj3 l0 l1 (Int.tmod (wrap64 ((wrap64 ((Int.tmod a2 (wrap64 ((l1.length : Int) + 1))) + (l1.length : Int))) + 1)) (wrap64 ((l1.length : Int) + 1))) t113 t116 ((t116.length : Int) != (l1.length : Int))) else (laws_FnTreesBegin.j1 kj3 l0 l1 (Int.tmod (wrap64 ((wrap64 ((Int.tmod a2 (wrap64 ((l1.length : Int) + 1))) + (l1.length : Int))) + 1)) (wrap64 ((l1.length : Int) + 1))) t113 t116 true))) = some r := H
          have A8 := Aside0.mk A80
          clear A80
          replace H := Option.bind_eq_some_iff.mp H
          obtain ⟨t116, A90, H⟩ := H
          replace H : (if (t113.length : Int) = (l1.length : Int) then (laws_FnTreesBegin.j1 kj3 l0 l1 (Int.tmod (wrap64 ((wrap64 ((Int.tmod a2 (wrap64 ((l1.length : Int) + 1))) + (l1.length : Int))) + 1)) (wrap64 ((l1.length : Int) + 1))) t113 t116 ((t116.length : Int) != (l1.length : Int))) else (laws_FnTreesBegin.j1 kj3 l0 l1 (Int.tmod (wrap64 ((wrap64 ((Int.tmod a2 (wrap64 ((l1.length : Int) + 1))) + (l1.length : Int))) + 1)) (wrap64 ((l1.length : Int) + 1))) t113 t116 true)) = some r := H
          have A9 := Aside0.mk A90
          clear A90
          have HC10 := Aside0.mk H
          clear H
          go_upto_region 5 with (first | ((with_reducible refine gate_callee (f := 23) rfl ?_); refine goesL_ (some 36) rfl rfl Try.func23 (by kernel_rfl) rfl #[.slice A0 l0.length c0, .slice A1 l1.length c1] rfl (by (try simp only [List.map_toArray, List.map_cons, List.map_nil]); first | done | rfl | (simp only [List.length_drop, List.length_take]; rfl)) ?_; (with_reducible refine (impl_AvlRun.calls _ _ l0 _ _ l1 t113 _ ?side1 ?side2 ?side3 ?side4 A8.out).mono ?_); (case side1 => repeat (first | exact (Kd.C_below HR0.out HB.out) | (with_reducible refine Kd.C_alloc ?_ _) | (with_reducible refine Kd.C_drewN ?_ _) | (with_reducible refine Kd.C_drew ?_))); (case side2 => exact HC0.out); (case side3 => repeat (first | exact (Kd.C_below HR1.out HB.out) | (with_reducible refine Kd.C_alloc ?_ _) | (with_reducible refine Kd.C_drewN ?_ _) | (with_reducible refine Kd.C_drew ?_))); (case side4 => exact HC1.out); rintro e w11 ⟨v114, rfl, ho0, hb⟩; refine ⟨_, rfl, ?_⟩; have n0_ := Aside0.mk (Kd.S_lower ho0 (below_size (by repeat (first | (with_reducible first | exact HB.out | apply below_alloc | apply pw_below_drewN | apply below_drew1) | exact HB.out)))); have n1_ := Aside0.mk (below_step (by repeat (first | (with_reducible first | exact HB.out | apply below_alloc | apply pw_below_drewN | apply below_drew1) | exact HB.out)) hb); clear HB; have HO115 := n0_; have HB := n1_; clear n0_ n1_; (try clear hb); (try clear hb2); (try clear hk); (try clear hi); (try clear ho0)) | ((with_reducible refine gate_callee (f := 33) rfl ?_); refine goesL_ (some 39) rfl rfl Try.func33 (by kernel_rfl) rfl #[.slice A0 l0.length c0, .slice A1 l1.length c1] rfl (by (try simp only [List.map_toArray, List.map_cons, List.map_nil]); first | done | rfl | (simp only [List.length_drop, List.length_take]; rfl)) ?_; (with_reducible refine (impl_BtreeRun.calls _ _ l0 _ _ l1 t116 _ ?side1 ?side2 ?side3 ?side4 A9.out).mono ?_); (case side1 => repeat (first | exact (Kd.C_below HR0.out HB.out) | (with_reducible refine Kd.C_alloc ?_ _) | (with_reducible refine Kd.C_drewN ?_ _) | (with_reducible refine Kd.C_drew ?_))); (case side2 => exact HC0.out); (case side3 => repeat (first | exact (Kd.C_below HR1.out HB.out) | (with_reducible refine Kd.C_alloc ?_ _) | (with_reducible refine Kd.C_drewN ?_ _) | (with_reducible refine Kd.C_drew ?_))); (case side4 => exact HC1.out); rintro e w12 ⟨v117, rfl, ho0, hb⟩; refine ⟨_, rfl, ?_⟩; have n0_ := Aside0.mk (Kd.S_elder' (by (with_reducible repeat (first | apply Kd.S_alloc | apply Kd.S_drewN | apply Kd.S_drew)); exact HO115.out) (Kd.S_base ho0) hb); have n1_ := Aside0.mk (Kd.S_lower (Kd.S_new' ho0 (Kd.S_lt (by (with_reducible repeat (first | apply Kd.S_alloc | apply Kd.S_drewN | apply Kd.S_drew)); exact HO115.out))) (below_size (by repeat (first | (with_reducible first | exact HB.out | apply below_alloc | apply pw_below_drewN | apply below_drew1) | exact HB.out)))); have n2_ := Aside0.mk (below_step (by repeat (first | (with_reducible first | exact HB.out | apply below_alloc | apply pw_below_drewN | apply below_drew1) | exact HB.out)) hb); clear HO115; clear HB; have HO115 := n0_; have HO118 := n1_; have HB := n2_; clear n0_ n1_ n2_; (try clear hb); (try clear hb2); (try clear hk); (try clear hi); (try clear ho0)))
          (try simp only [Act.put, List.setIfInBounds_toArray, List.set_cons_zero, List.set_cons_succ])
          go_cut [51] (fun v51 wc => ∃ (kq : Nat) (x51_9 : Bool), v51 = .bool x51_9 ∧ Aside0 (laws_FnTreesBegin.j1 kq l0 l1 (Int.tmod (wrap64 ((wrap64 ((Int.tmod a2 (wrap64 ((l1.length : Int) + 1))) + (l1.length : Int))) + 1)) (wrap64 ((l1.length : Int) + 1))) t113 t116 x51_9 = some r) ∧ Aside0 (kq ≤ kj3) ∧ Aside0 (Kd.S k46 46 wc w.heap.size (fun k_ => some k_ ≠ (v117 : Value).ownBlock) v114 t113) ∧ Aside0 (Kd.S k46 46 wc w.heap.size (fun k_ => some k_ ≠ (v114 : Value).ownBlock) v117 t116) ∧ Aside0 (Below w.heap.size w wc))
          case first =>
            have H := HC10.out
            clear HC10
            by_cases c13 : (t113.length : Int) = (l1.length : Int)
            · rw [if_pos c13] at H
              have c13b0 : ((t113.length : Int) == (l1.length : Int)) = true := beq_iff_eq.mpr c13
              have c13b1 : ((t113.length : Int) != (l1.length : Int)) = false := bne_eq_false_iff_eq.mpr c13
              have c13b2 : (t113.length == l1.length) = true := by first | simpa using c13 | (simp at c13 ⊢; omega)
              clear c13
              (first | rw [c13b0] | (simp only [i64_w, i32_w]; rw [c13b0]) | skip)
              have H' := Aside0.mk H
              clear H
              obtain ⟨Ao14, co14, eo14⟩ := Kd.S_slice HO115.out
              subst eo14
              obtain ⟨Ao15, co15, eo15⟩ := Kd.S_slice HO118.out
              subst eo15
              go_wp2
              go_meet
              case rel => exact ⟨_, (((t116.length : Int) != (l1.length : Int))), (by first | rfl | (simp; done) | (simp [*]; done)), H', ⟨by have := HJ3.out; first | omega | exact Nat.le_refl _⟩, ⟨by (with_reducible repeat (first | apply Kd.S_alloc | apply Kd.S_drewN | apply Kd.S_drew)); exact Kd.S_mono HO115.out (fun _ hk => hk.2)⟩, ⟨by (with_reducible repeat (first | apply Kd.S_alloc | apply Kd.S_drewN | apply Kd.S_drew)); exact Kd.S_mono HO118.out (fun _ hk => hk.2)⟩, ⟨by repeat (first | (with_reducible first | exact HB.out | apply below_alloc | apply pw_below_drewN | apply below_drew1) | exact HB.out)⟩⟩
            · rw [if_neg c13] at H
              have c13b0 : ((t113.length : Int) == (l1.length : Int)) = false := beq_eq_false_iff_ne.mpr c13
              have c13b1 : ((t113.length : Int) != (l1.length : Int)) = true := bne_iff_ne.mpr c13
              have c13b2 : (t113.length == l1.length) = false := by first | simpa using c13 | (simp at c13 ⊢; omega)
              (first | rw [c13b0] | (simp only [i64_w, i32_w]; rw [c13b0]) | skip)
              have H' := Aside0.mk H
              clear H
              obtain ⟨Ao16, co16, eo16⟩ := Kd.S_slice HO115.out
              subst eo16
              go_wp2
              go_meet
              case rel => exact ⟨_, (true), (by first | rfl | (simp; done) | (simp [*]; done)), H', ⟨by have := HJ3.out; first | omega | exact Nat.le_refl _⟩, ⟨by (with_reducible repeat (first | apply Kd.S_alloc | apply Kd.S_drewN | apply Kd.S_drew)); exact Kd.S_mono HO115.out (fun _ hk => hk.2)⟩, ⟨by (with_reducible repeat (first | apply Kd.S_alloc | apply Kd.S_drewN | apply Kd.S_drew)); exact Kd.S_mono HO118.out (fun _ hk => hk.2)⟩, ⟨by repeat (first | (with_reducible first | exact HB.out | apply below_alloc | apply pw_below_drewN | apply below_drew1) | exact HB.out)⟩⟩
          case rest =>
            clear HC10
            try clear c1
            try clear c2
            try clear p2
            try clear c3
            try clear c5
            try clear c5b0
            try clear c5b1
            try clear c6
            try clear p6
            try clear c7
            try clear c7b0
            try clear c7b1
            try clear c10
            try clear c13
            try clear c13b0
            try clear c13b1
            try clear c13b2
            try clear p2
            obtain ⟨kq, x51_9, rfl, HA, HJ9, HO_8, HO_9, HB⟩ := hcut
            cases kq with
            | zero => exact absurd HA.out (by simp [laws_FnTreesBegin.j1])
            | succ kj9 =>
              have H := HA.out
              clear HA
              simp only [laws_FnTreesBegin.j1] at H
              by_cases c17 : x51_9 = true
              · subst c17
                have H1 : (none) = some r := by rw [if_pos rfl] at H; exact H
                exact absurd H1 (by simp)
              · replace c17 := Bool.eq_false_iff.mpr c17
                subst c17
                have H1 : (if 0 ≤ (Int.tmod (wrap64 ((wrap64 ((Int.tmod a2 (wrap64 ((l1.length : Int) + 1))) + (l1.length : Int))) + 1)) (wrap64 ((l1.length : Int) + 1))) then (if (Int.tmod (wrap64 ((wrap64 ((Int.tmod a2 (wrap64 ((l1.length : Int) + 1))) + (l1.length : Int))) + 1)) (wrap64 ((l1.length : Int) + 1))) ≤ (l1.length : Int) then ((impl_AvlRun.f l0 (l1.take ((Int.tmod (wrap64 ((wrap64 ((Int.tmod a2 (wrap64 ((l1.length : Int) + 1))) + (l1.length : Int))) + 1)) (wrap64 ((l1.length : Int) + 1))) : Int).toNat)).bind fun t123 => ((impl_BtreeRun.f l0 (l1.take ((Int.tmod (wrap64 ((wrap64 ((Int.tmod a2 (wrap64 ((l1.length : Int) + 1))) + (l1.length : Int))) + 1)) (wrap64 ((l1.length : Int) + 1))) : Int).toNat)).bind fun t130 => (if (t123.length : Int) = (Int.tmod (wrap64 ((wrap64 ((Int.tmod a2 (wrap64 ((l1.length : Int) + 1))) + (l1.length : Int))) + 1)) (wrap64 ((l1.length : Int) + 1))) then (laws_FnTreesBegin.j2 kj9 (Int.tmod (wrap64 ((wrap64 ((Int.tmod a2 (wrap64 ((l1.length : Int) + 1))) + (l1.length : Int))) + 1)) (wrap64 ((l1.length : Int) + 1))) t113 t116 t123 t130 ((t130.length : Int) != (Int.tmod (wrap64 ((wrap64 ((Int.tmod a2 (wrap64 ((l1.length : Int) + 1))) + (l1.length : Int))) + 1)) (wrap64 ((l1.length : Int) + 1))))) else (laws_FnTreesBegin.j2 kj9 (Int.tmod (wrap64 ((wrap64 ((Int.tmod a2 (wrap64 ((l1.length : Int) + 1))) + (l1.length : Int))) + 1)) (wrap64 ((l1.length : Int) + 1))) t113 t116 t123 t130 true)))) else (none)) else (none)) = some r := by rw [if_neg (show ¬ (false = true) by decide)] at H; exact H
                clear H
                have H := H1
                clear H1
                obtain ⟨ji18, hji18⟩ : ∃ j_ : Int, (Int.tmod (wrap64 ((wrap64 ((Int.tmod a2 (wrap64 ((l1.length : Int) + 1))) + (l1.length : Int))) + 1)) (wrap64 ((l1.length : Int) + 1))) = j_ := ⟨_, rfl⟩
                replace H : (if 0 ≤ (ji18) then (if (ji18) ≤ (l1.length : Int) then ((impl_AvlRun.f l0 (l1.take ((ji18) : Int).toNat)).bind fun t123 => ((impl_BtreeRun.f l0 (l1.take ((ji18) : Int).toNat)).bind fun t130 => (if (t123.length : Int) = (ji18) then (laws_FnTreesBegin.j2 kj9 (ji18) t113 t116 t123 t130 ((t130.length : Int) != (ji18))) else (laws_FnTreesBegin.j2 kj9 (ji18) t113 t116 t123 t130 true)))) else (none)) else (none)) = some r := by first | (rw [hji18] at H; exact H) | (simp only [hji18] at H ⊢; exact H)
                by_cases c19 : 0 ≤ (ji18)
                · rw [if_pos c19] at H
                  have c19b0 := eq_true c19
                  have c19b1 : decide (0 ≤ (ji18)) = true := decide_eq_true c19
                  clear c19
                  by_cases c20 : (ji18) ≤ (l1.length : Int)
                  · rw [if_pos c20] at H
                    have c20b0 := eq_true c20
                    have c20b1 : decide ((ji18) ≤ (l1.length : Int)) = true := decide_eq_true c20
                    clear c20
                    obtain ⟨y119, hy119⟩ : ∃ y_ : List (S66), y_ = (l1.take ((ji18) : Int).toNat) := ⟨_, rfl⟩
                    replace H : ((impl_AvlRun.f l0 y119).bind fun t123 => ((impl_BtreeRun.f l0 (l1.take ((ji18) : Int).toNat)).bind fun t130 => (if (t123.length : Int) = (ji18) then (laws_FnTreesBegin.j2 kj9 (ji18) t113 t116 t123 t130 ((t130.length : Int) != (ji18))) else (laws_FnTreesBegin.j2 kj9 (ji18) t113 t116 t123 t130 true)))) = some r := by first | (rw [hy119]; with_reducible exact H) | (have H2_ := (Option.bind_some _ _).symm.trans H; rw [hy119]; with_reducible exact H2_) | (have H2_ := (Option.bind_some _ _).symm.trans H; with_reducible exact H2_) | with_reducible exact H | (rw [hy119]; exact H) | exact H
                    have Ny119 := Aside0.mk hy119
                    clear hy119
                    replace H := Option.bind_eq_some_iff.mp H
                    obtain ⟨t123, A210, H⟩ := H
                    replace H : ((impl_BtreeRun.f l0 (l1.take ((ji18) : Int).toNat)).bind fun t130 => (if (t123.length : Int) = (ji18) then (laws_FnTreesBegin.j2 kj9 (ji18) t113 t116 t123 t130 ((t130.length : Int) != (ji18))) else (laws_FnTreesBegin.j2 kj9 (ji18) t113 t116 t123 t130 true))) = some r := H
                    have A21 := Aside0.mk A210
                    clear A210
                    have c22b0 := eq_true (of_decide_eq_true (by first | (with_reducible assumption) | assumption) : 0 ≤ (ji18))
                    have c23b0 := eq_true (of_decide_eq_true (by first | (with_reducible assumption) | assumption) : (ji18) ≤ (l1.length : Int))
                    obtain ⟨y126, hy126⟩ : ∃ y_ : List (S66), y_ = (l1.take ((ji18) : Int).toNat) := ⟨_, rfl⟩
                    replace H : ((impl_BtreeRun.f l0 y126).bind fun t130 => (if (t123.length : Int) = (ji18) then (laws_FnTreesBegin.j2 kj9 (ji18) t113 t116 t123 t130 ((t130.length : Int) != (ji18))) else (laws_FnTreesBegin.j2 kj9 (ji18) t113 t116 t123 t130 true))) = some r := by first | (rw [hy126]; with_reducible exact H) | (have H2_ := (Option.bind_some _ _).symm.trans H; rw [hy126]; with_reducible exact H2_) | (have H2_ := (Option.bind_some _ _).symm.trans H; with_reducible exact H2_) | with_reducible exact H | (rw [hy126]; exact H) | exact H
                    have Ny126 := Aside0.mk hy126
                    clear hy126
                    replace H := Option.bind_eq_some_iff.mp H
                    obtain ⟨t130, A240, H⟩ := H
                    replace H : (if (t123.length : Int) = (ji18) then (laws_FnTreesBegin.j2 kj9 (ji18) t113 t116 t123 t130 ((t130.length : Int) != (ji18))) else (laws_FnTreesBegin.j2 kj9 (ji18) t113 t116 t123 t130 true)) = some r := H
                    have A24 := Aside0.mk A240
                    clear A240
                    have HC25 := Aside0.mk H
                    clear H
                    try go_wp2
                    have n0_ := Aside0.mk (Kd.S_drew HO_8.out)
                    have n1_ := Aside0.mk (Kd.S_drew HO_9.out)
                    have n2_ := Aside0.mk (below_drew1 HB.out)
                    clear HO_8
                    clear HO_9
                    clear HB
                    have HO_8 := n0_
                    have HO_9 := n1_
                    have HB := n2_
                    clear n0_ n1_ n2_
                    have q27 : ((ji18) : Int) ≤ ((l1.length : Int) : Int) := of_decide_eq_true (by first | (with_reducible assumption) | assumption)
                    obtain ⟨i027, hi027, _, hsz27, _⟩ := info_parts info66
                    have hroom27 : l1.length ≤ c1 := HC1.out
                    have hC27 : Kd.C k66 _ A1 l1.length l1 := HR1.out
                    have hcut27 := cut_to (P := Try.prog) 42 66 .i64 Try.underlying42 hi027 A1 l1.length c1 (ji18) (of_decide_eq_true (by first | (with_reducible assumption) | assumption)) q27 hroom27
                    have hr27 := Kd.C_take (m := ((ji18) : Int).toNat) hC27 (by omega)
                    have hy27 : y119.length = ((ji18) : Int).toNat := (by rw [Ny119.out, List.length_take]; omega)
                    rw [← Ny119.out] at hr27
                    rw [← hy27] at hcut27
                    have HR122 := Aside0.mk hr27
                    have HC122 := Aside0.mk (show y119.length ≤ c1 from by omega)
                    clear hr27 hC27 hroom27 hi027 hsz27
                    have KY27 := Aside0.mk hy27
                    clear hy27
                    replace q27 := eq_true q27
                    have q28 : ((ji18) : Int) ≤ ((l1.length : Int) : Int) := of_decide_eq_true (by first | (with_reducible assumption) | assumption)
                    obtain ⟨i028, hi028, _, hsz28, _⟩ := info_parts info66
                    have hroom28 : l1.length ≤ c1 := HC1.out
                    have hC28 : Kd.C k66 _ A1 l1.length l1 := HR1.out
                    have hcut28 := cut_to (P := Try.prog) 42 66 .i64 Try.underlying42 hi028 A1 l1.length c1 (ji18) (of_decide_eq_true (by first | (with_reducible assumption) | assumption)) q28 hroom28
                    have hr28 := Kd.C_take (m := ((ji18) : Int).toNat) hC28 (by omega)
                    have hy28 : y126.length = ((ji18) : Int).toNat := (by rw [Ny126.out, List.length_take]; omega)
                    rw [← Ny126.out] at hr28
                    rw [← hy28] at hcut28
                    have HR129 := Aside0.mk hr28
                    have HC129 := Aside0.mk (show y126.length ≤ c1 from by omega)
                    clear hr28 hC28 hroom28 hi028 hsz28
                    have KY28 := Aside0.mk hy28
                    clear hy28
                    replace q28 := eq_true q28
                    refine start_ (n := 12) (S := fun w' => True) (ds := []) #[false, false, false, false, false, false, false, false, false, false, false, false] (by kernel_rfl) rfl rfl trivial (fun hHeld => ?_); refine with_tabW laws_FnTreesBegin.tab7 laws_FnTreesBegin.bits7 (fun HT_ HW_ => ?_)
                    generalize wc.drew = w26 at HO_8 HO_9 HB HR122 HR129 hHeld ⊢
                    refine pure_ (i := 0) (N := some 52) (v := ?_) (a' := ?_) #[true, false, false, false, false, false, false, false, false, false, false, false] rfl rfl (any_of HT_.out (by kernel_rfl)) (fun _ _ _ h => h) (Or.inl ⟨by rfl, ?_⟩) ?_ ?_
                    rotate_left
                    · intro w'
                      go_simp
                      with_reducible rfl
                    rotate_left
                    · simp only [Act.put, List.setIfInBounds_toArray, List.set_cons_zero, List.set_cons_succ, i64_w, i32_w]
                      rfl
                    refine pure_ (i := 1) (N := some 53) (v := ?_) (a' := ?_) #[true, true, false, false, false, false, false, false, false, false, false, false] rfl rfl (any_of HT_.out (by kernel_rfl)) (fun _ _ _ h => h) (Or.inl ⟨by rfl, ?_⟩) ?_ ?_
                    rotate_left
                    · intro w'
                      go_simp
                      with_reducible rfl
                    rotate_left
                    · simp only [Act.put, List.setIfInBounds_toArray, List.set_cons_zero, List.set_cons_succ, i64_w, i32_w]
                      rfl
                    refine pure_ (i := 2) (N := some 54) (v := ?_) (a' := ?_) #[true, true, true, false, false, false, false, false, false, false, false, false] rfl rfl (any_of HT_.out (by kernel_rfl)) (fun _ _ _ h => h) (Or.inl ⟨by rfl, ?_⟩) ?_ ?_
                    rotate_left
                    · intro w'
                      go_simp
                      with_reducible rfl
                    rotate_left
                    · simp only [Act.put, List.setIfInBounds_toArray, List.set_cons_zero, List.set_cons_succ, i64_w, i32_w]
                      rfl
                    refine pure_ (i := 3) (N := some 55) (v := ?_) (a' := ?_) #[true, true, true, true, false, false, false, false, false, false, false, false] rfl rfl (any_of HT_.out (by kernel_rfl)) (fun _ _ _ h => h) (Or.inl ⟨by rfl, ?_⟩) ?_ ?_
                    rotate_left
                    · intro w'
                      go_simp
                      with_reducible rfl
                    rotate_left
                    · simp only [Act.put, List.setIfInBounds_toArray, List.set_cons_zero, List.set_cons_succ, i64_w, i32_w]
                      rfl
                    refine pure_ (i := 5) (N := some 57) (v := ?_) (a' := ?_) #[true, true, true, true, false, true, false, false, false, false, false, false] rfl rfl (any_of HT_.out (by kernel_rfl)) (fun _ _ _ h => h) (Or.inl ⟨by rfl, ?_⟩) ?_ ?_
                    rotate_left
                    · intro w'
                      go_simp
                      with_reducible rfl
                    rotate_left
                    · simp only [Act.put, List.setIfInBounds_toArray, List.set_cons_zero, List.set_cons_succ, i64_w, i32_w]
                      rfl
                    refine pure_ (i := 6) (N := some 58) (v := ?_) (a' := ?_) #[true, true, true, true, false, true, true, false, false, false, false, false] rfl rfl (any_of HT_.out (by kernel_rfl)) (fun _ _ _ h => h) (Or.inl ⟨by rfl, ?_⟩) ?_ ?_
                    rotate_left
                    · intro w'
                      go_simp
                      with_reducible rfl
                    rotate_left
                    · simp only [Act.put, List.setIfInBounds_toArray, List.set_cons_zero, List.set_cons_succ, i64_w, i32_w]
                      rfl
                    refine pure_ (i := 7) (N := some 59) (v := ?_) (a' := ?_) #[true, true, true, true, false, true, true, true, false, false, false, false] rfl rfl (any_of HT_.out (by kernel_rfl)) (fun _ _ _ h => h) (Or.inl ⟨by rfl, ?_⟩) ?_ ?_
                    rotate_left
                    · intro w'
                      go_simp
                      with_reducible rfl
                    rotate_left
                    · simp only [Act.put, List.setIfInBounds_toArray, List.set_cons_zero, List.set_cons_succ, i64_w, i32_w]
                      rfl
                    refine pure_ (i := 8) (N := some 60) (v := ?_) (a' := ?_) #[true, true, true, true, false, true, true, true, true, false, false, false] rfl rfl (any_of HT_.out (by kernel_rfl)) (fun _ _ _ h => h) (Or.inl ⟨by rfl, ?_⟩) ?_ ?_
                    rotate_left
                    · intro w'
                      go_simp
                      with_reducible rfl
                    rotate_left
                    · simp only [Act.put, List.setIfInBounds_toArray, List.set_cons_zero, List.set_cons_succ, i64_w, i32_w]
                      rfl
                    refine one_ (i := 4) (N := some 56) #[true, true, true, true, true, true, true, true, true, false, false, false] rfl rfl (one_of HT_.out (by kernel_rfl)) (by decide) (fun K hK => ?_)
                    refine goes_ Try.func23 (by kernel_rfl) rfl #[.slice A0 l0.length c0, .slice A1 y119.length c1] (by rfl) rfl rfl (by (try simp only [List.map_toArray, List.map_cons, List.map_nil]); first | done | rfl | (simp only [List.length_drop, List.length_take]; rfl) | ((try rw [Ny119.out]); (try rw [Ny126.out]); rfl)) ?_
                    with_reducible refine (impl_AvlRun.calls _ _ l0 _ _ y119 t123 _ ?side1 ?side2 ?side3 ?side4 A21.out).mono ?_
                    (case side1 => repeat (first | exact (Kd.C_below HR0.out HB.out) | (with_reducible refine Kd.C_alloc ?_ _) | (with_reducible refine Kd.C_drewN ?_ _) | (with_reducible refine Kd.C_drew ?_)))
                    (case side2 => exact HC0.out)
                    (case side3 => repeat (first | exact (Kd.C_below HR122.out HB.out) | (with_reducible refine Kd.C_alloc ?_ _) | (with_reducible refine Kd.C_drewN ?_ _) | (with_reducible refine Kd.C_drew ?_)))
                    (case side4 => exact HC122.out)
                    rintro e w29 ⟨v124, rfl, ho0, hb⟩
                    refine ⟨_, rfl, ?_⟩
                    have n0_ := Aside0.mk (Kd.S_elder' (by (with_reducible repeat (first | apply Kd.S_alloc | apply Kd.S_drewN | apply Kd.S_drew)); exact HO_8.out) (Kd.S_base ho0) hb)
                    have n1_ := Aside0.mk (Kd.S_elder' (by (with_reducible repeat (first | apply Kd.S_alloc | apply Kd.S_drewN | apply Kd.S_drew)); exact HO_9.out) (Kd.S_base ho0) hb)
                    have n2_ := Aside0.mk (Kd.S_lower (Kd.S_new' (Kd.S_new' ho0 (Kd.S_lt (by (with_reducible repeat (first | apply Kd.S_alloc | apply Kd.S_drewN | apply Kd.S_drew)); exact HO_8.out))) (Kd.S_lt (by (with_reducible repeat (first | apply Kd.S_alloc | apply Kd.S_drewN | apply Kd.S_drew)); exact HO_9.out))) (below_size (by repeat (first | (with_reducible first | exact HB.out | apply below_alloc | apply pw_below_drewN | apply below_drew1) | exact HB.out))))
                    have n3_ := Aside0.mk (below_step (by repeat (first | (with_reducible first | exact HB.out | apply below_alloc | apply pw_below_drewN | apply below_drew1) | exact HB.out)) hb)
                    clear HO_8
                    clear HO_9
                    clear HB
                    have HO_8 := n0_
                    have HO_9 := n1_
                    have HO125 := n2_
                    have HB := n3_
                    clear n0_ n1_ n2_ n3_
                    (try clear hb)
                    (try clear hb2)
                    (try clear hk)
                    (try clear hi)
                    (try clear ho0)
                    refine hK.out _ _ trivial (fun hHeld => ?_)
                    clear hK K
                    refine norm_ (a' := ?_) ?_ ?_
                    rotate_left
                    · show Act.put _ (some 56) _ = _
                      simp only [Act.put, List.setIfInBounds_toArray, List.set_cons_zero, List.set_cons_succ, i64_w, i32_w]
                      rfl
                    refine one_ (i := 9) (N := some 61) #[true, true, true, true, true, true, true, true, true, true, false, false] rfl rfl (one_of HT_.out (by kernel_rfl)) (by decide) (fun K hK => ?_)
                    refine goes_ Try.func33 (by kernel_rfl) rfl #[.slice A0 l0.length c0, .slice A1 y126.length c1] (by rfl) rfl rfl (by (try simp only [List.map_toArray, List.map_cons, List.map_nil]); first | done | rfl | (simp only [List.length_drop, List.length_take]; rfl) | ((try rw [Ny119.out]); (try rw [Ny126.out]); rfl)) ?_
                    with_reducible refine (impl_BtreeRun.calls _ _ l0 _ _ y126 t130 _ ?side1 ?side2 ?side3 ?side4 A24.out).mono ?_
                    (case side1 => repeat (first | exact (Kd.C_below HR0.out HB.out) | (with_reducible refine Kd.C_alloc ?_ _) | (with_reducible refine Kd.C_drewN ?_ _) | (with_reducible refine Kd.C_drew ?_)))
                    (case side2 => exact HC0.out)
                    (case side3 => repeat (first | exact (Kd.C_below HR129.out HB.out) | (with_reducible refine Kd.C_alloc ?_ _) | (with_reducible refine Kd.C_drewN ?_ _) | (with_reducible refine Kd.C_drew ?_)))
                    (case side4 => exact HC129.out)
                    rintro e w30 ⟨v131, rfl, ho0, hb⟩
                    refine ⟨_, rfl, ?_⟩
                    have n0_ := Aside0.mk (Kd.S_elder' (by (with_reducible repeat (first | apply Kd.S_alloc | apply Kd.S_drewN | apply Kd.S_drew)); exact HO_8.out) (Kd.S_base ho0) hb)
                    have n1_ := Aside0.mk (Kd.S_elder' (by (with_reducible repeat (first | apply Kd.S_alloc | apply Kd.S_drewN | apply Kd.S_drew)); exact HO_9.out) (Kd.S_base ho0) hb)
                    have n2_ := Aside0.mk (Kd.S_elder' (by (with_reducible repeat (first | apply Kd.S_alloc | apply Kd.S_drewN | apply Kd.S_drew)); exact HO125.out) (Kd.S_base ho0) hb)
                    have n3_ := Aside0.mk (Kd.S_lower (Kd.S_new' (Kd.S_new' (Kd.S_new' ho0 (Kd.S_lt (by (with_reducible repeat (first | apply Kd.S_alloc | apply Kd.S_drewN | apply Kd.S_drew)); exact HO_8.out))) (Kd.S_lt (by (with_reducible repeat (first | apply Kd.S_alloc | apply Kd.S_drewN | apply Kd.S_drew)); exact HO_9.out))) (Kd.S_lt (by (with_reducible repeat (first | apply Kd.S_alloc | apply Kd.S_drewN | apply Kd.S_drew)); exact HO125.out))) (below_size (by repeat (first | (with_reducible first | exact HB.out | apply below_alloc | apply pw_below_drewN | apply below_drew1) | exact HB.out))))
                    have n4_ := Aside0.mk (below_step (by repeat (first | (with_reducible first | exact HB.out | apply below_alloc | apply pw_below_drewN | apply below_drew1) | exact HB.out)) hb)
                    clear HO_8
                    clear HO_9
                    clear HO125
                    clear HB
                    have HO_8 := n0_
                    have HO_9 := n1_
                    have HO125 := n2_
                    have HO132 := n3_
                    have HB := n4_
                    clear n0_ n1_ n2_ n3_ n4_
                    (try clear hb)
                    (try clear hb2)
                    (try clear hk)
                    (try clear hi)
                    (try clear ho0)
                    refine hK.out _ _ trivial (fun hHeld => ?_)
                    clear hK K
                    refine norm_ (a' := ?_) ?_ ?_
                    rotate_left
                    · show Act.put _ (some 61) _ = _
                      simp only [Act.put, List.setIfInBounds_toArray, List.set_cons_zero, List.set_cons_succ, i64_w, i32_w]
                      rfl
                    refine pure_ (i := 10) (N := some 10) (v := ?_) (a' := ?_) #[true, true, true, true, true, true, true, true, true, true, true, false] rfl rfl (any_of HT_.out (by kernel_rfl)) (fun _ _ _ h => h) (Or.inl ⟨by rfl, ?_⟩) ?_ ?_
                    rotate_left
                    · intro w'
                      go_simp
                      with_reducible rfl
                    rotate_left
                    · simp only [Act.put, List.setIfInBounds_toArray, List.set_cons_zero, List.set_cons_succ, i64_w, i32_w]
                      rfl
                    refine pure_ (i := 11) (N := some 11) (v := ?_) (a' := ?_) #[true, true, true, true, true, true, true, true, true, true, true, true] rfl rfl (any_of HT_.out (by kernel_rfl)) (fun _ _ _ h => h) (Or.inl ⟨by rfl, ?_⟩) ?_ ?_
                    rotate_left
                    · intro w'
                      go_simp
                      with_reducible rfl
                    rotate_left
                    · simp only [Act.put, List.setIfInBounds_toArray, List.set_cons_zero, List.set_cons_succ, i64_w, i32_w]
                      rfl
                    refine done_ (done_of HT_.out (by kernel_rfl)) ?_
                    go_upto_region 8 with (fail)
                    go_cut [71] (fun v71 wc => ∃ (kq : Nat) (x71_24 : Bool), v71 = .bool x71_24 ∧ Aside0 (laws_FnTreesBegin.j2 kq (ji18) t113 t116 t123 t130 x71_24 = some r) ∧ Aside0 (kq ≤ kj9) ∧ Aside0 (Kd.S k46 46 wc w.heap.size (fun k_ => some k_ ≠ (v117 : Value).ownBlock ∧ some k_ ≠ (v124 : Value).ownBlock ∧ some k_ ≠ (v131 : Value).ownBlock) v114 t113) ∧ Aside0 (Kd.S k46 46 wc w.heap.size (fun k_ => some k_ ≠ (v114 : Value).ownBlock ∧ some k_ ≠ (v124 : Value).ownBlock ∧ some k_ ≠ (v131 : Value).ownBlock) v117 t116) ∧ Aside0 (Kd.S k46 46 wc w.heap.size (fun k_ => some k_ ≠ (v114 : Value).ownBlock ∧ some k_ ≠ (v117 : Value).ownBlock ∧ some k_ ≠ (v131 : Value).ownBlock) v124 t123) ∧ Aside0 (Kd.S k46 46 wc w.heap.size (fun k_ => some k_ ≠ (v114 : Value).ownBlock ∧ some k_ ≠ (v117 : Value).ownBlock ∧ some k_ ≠ (v124 : Value).ownBlock) v131 t130) ∧ Aside0 (Below w.heap.size w wc))
                    case first =>
                      have H := HC25.out
                      clear HC25
                      by_cases c31 : (t123.length : Int) = (ji18)
                      · rw [if_pos c31] at H
                        have c31b0 : ((t123.length : Int) == (ji18)) = true := beq_iff_eq.mpr c31
                        have c31b1 : ((t123.length : Int) != (ji18)) = false := bne_eq_false_iff_eq.mpr c31
                        clear c31
                        (first | rw [c31b0] | (simp only [i64_w, i32_w]; rw [c31b0]) | skip)
                        have H' := Aside0.mk H
                        clear H
                        obtain ⟨Ao32, co32, eo32⟩ := Kd.S_slice HO125.out
                        subst eo32
                        obtain ⟨Ao33, co33, eo33⟩ := Kd.S_slice HO132.out
                        subst eo33
                        go_wp2
                        go_meet
                        case rel => exact ⟨_, (((t130.length : Int) != (ji18))), (by first | rfl | (simp; done) | (simp only [← hji18] <;> (first | rfl | simp)) | (simp [*]; done)), H', ⟨by have := HJ3.out; have := HJ9.out; first | omega | exact Nat.le_refl _⟩, ⟨by (with_reducible repeat (first | apply Kd.S_alloc | apply Kd.S_drewN | apply Kd.S_drew)); exact Kd.S_mono HO_8.out (fun _ hk => ⟨hk.1.1, ⟨hk.1.2, hk.2⟩⟩)⟩, ⟨by (with_reducible repeat (first | apply Kd.S_alloc | apply Kd.S_drewN | apply Kd.S_drew)); exact Kd.S_mono HO_9.out (fun _ hk => ⟨hk.1.1, ⟨hk.1.2, hk.2⟩⟩)⟩, ⟨by (with_reducible repeat (first | apply Kd.S_alloc | apply Kd.S_drewN | apply Kd.S_drew)); exact Kd.S_mono HO125.out (fun _ hk => ⟨hk.1.1.2, ⟨hk.1.2, hk.2⟩⟩)⟩, ⟨by (with_reducible repeat (first | apply Kd.S_alloc | apply Kd.S_drewN | apply Kd.S_drew)); exact Kd.S_mono HO132.out (fun _ hk => ⟨hk.1.1.2, ⟨hk.1.2, hk.2⟩⟩)⟩, ⟨by repeat (first | (with_reducible first | exact HB.out | apply below_alloc | apply pw_below_drewN | apply below_drew1) | exact HB.out)⟩⟩
                      · rw [if_neg c31] at H
                        have c31b0 : ((t123.length : Int) == (ji18)) = false := beq_eq_false_iff_ne.mpr c31
                        have c31b1 : ((t123.length : Int) != (ji18)) = true := bne_iff_ne.mpr c31
                        (first | rw [c31b0] | (simp only [i64_w, i32_w]; rw [c31b0]) | skip)
                        have H' := Aside0.mk H
                        clear H
                        obtain ⟨Ao34, co34, eo34⟩ := Kd.S_slice HO125.out
                        subst eo34
                        go_wp2
                        go_meet
                        case rel => exact ⟨_, (true), (by first | rfl | (simp; done) | (simp [*]; done)), H', ⟨by have := HJ3.out; have := HJ9.out; first | omega | exact Nat.le_refl _⟩, ⟨by (with_reducible repeat (first | apply Kd.S_alloc | apply Kd.S_drewN | apply Kd.S_drew)); exact Kd.S_mono HO_8.out (fun _ hk => ⟨hk.1.1, ⟨hk.1.2, hk.2⟩⟩)⟩, ⟨by (with_reducible repeat (first | apply Kd.S_alloc | apply Kd.S_drewN | apply Kd.S_drew)); exact Kd.S_mono HO_9.out (fun _ hk => ⟨hk.1.1, ⟨hk.1.2, hk.2⟩⟩)⟩, ⟨by (with_reducible repeat (first | apply Kd.S_alloc | apply Kd.S_drewN | apply Kd.S_drew)); exact Kd.S_mono HO125.out (fun _ hk => ⟨hk.1.1.2, ⟨hk.1.2, hk.2⟩⟩)⟩, ⟨by (with_reducible repeat (first | apply Kd.S_alloc | apply Kd.S_drewN | apply Kd.S_drew)); exact Kd.S_mono HO132.out (fun _ hk => ⟨hk.1.1.2, ⟨hk.1.2, hk.2⟩⟩)⟩, ⟨by repeat (first | (with_reducible first | exact HB.out | apply below_alloc | apply pw_below_drewN | apply below_drew1) | exact HB.out)⟩⟩
                    case rest =>
                      clear HC25
                      try clear c1
                      try clear c2
                      try clear p2
                      try clear q2
                      try clear c3
                      try clear c5
                      try clear c5b0
                      try clear c5b1
                      try clear c6
                      try clear p6
                      try clear c7
                      try clear c7b0
                      try clear c7b1
                      try clear c10
                      try clear c13
                      try clear c13b0
                      try clear c13b1
                      try clear c13b2
                      try clear c17
                      try clear c19
                      try clear c19b0
                      try clear c19b1
                      try clear c20
                      try clear c20b0
                      try clear c20b1
                      try clear c22
                      try clear c22b0
                      try clear c23
                      try clear c23b0
                      try clear q27
                      try clear q28
                      try clear c31
                      try clear c31b0
                      try clear c31b1
                      try clear c33
                      try clear p2
                      try clear p6
                      try clear q27
                      try clear q28
                      obtain ⟨kq, x71_24, rfl, HA, HJ24, HO_8, HO_9, HO_10, HO_11, HB⟩ := hcut
                      cases kq with
                      | zero => exact absurd HA.out (by simp [laws_FnTreesBegin.j2])
                      | succ kj24 =>
                        have H := HA.out
                        clear HA
                        simp only [laws_FnTreesBegin.j2] at H
                        by_cases c35 : x71_24 = true
                        · subst c35
                          have H1 : (none) = some r := by rw [if_pos rfl] at H; exact H
                          exact absurd H1 (by simp)
                        · replace c35 := Bool.eq_false_iff.mpr c35
                          subst c35
                          have H1 : (laws_FnTreesBegin.l0 kj24 (ji18) t113 t116 t123 t130 0) = some r := by rw [if_neg (show ¬ (false = true) by decide)] at H; exact H
                          clear H
                          have H := H1
                          clear H1
                          have H' := Aside0.mk H
                          clear H
                          go_wp2
                          go_loopg [12] kj24 (fun kq v12 w' => ∃ (x12_4 : Int), v12 = .int .i64 x12_4 ∧ Aside0 (laws_FnTreesBegin.l0 kq (ji18) t113 t116 t123 t130 x12_4 = some r) ∧ Aside0 (kq ≤ kj24) ∧ Aside0 (Kd.S k46 46 w' w.heap.size (fun k_ => some k_ ≠ (v117 : Value).ownBlock ∧ some k_ ≠ (v124 : Value).ownBlock ∧ some k_ ≠ (v131 : Value).ownBlock) v114 t113) ∧ Aside0 (Kd.S k46 46 w' w.heap.size (fun k_ => some k_ ≠ (v114 : Value).ownBlock ∧ some k_ ≠ (v124 : Value).ownBlock ∧ some k_ ≠ (v131 : Value).ownBlock) v117 t116) ∧ Aside0 (Kd.S k46 46 w' w.heap.size (fun k_ => some k_ ≠ (v114 : Value).ownBlock ∧ some k_ ≠ (v117 : Value).ownBlock ∧ some k_ ≠ (v131 : Value).ownBlock) v124 t123) ∧ Aside0 (Kd.S k46 46 w' w.heap.size (fun k_ => some k_ ≠ (v114 : Value).ownBlock ∧ some k_ ≠ (v117 : Value).ownBlock ∧ some k_ ≠ (v124 : Value).ownBlock) v131 t130) ∧ Aside0 (Below w.heap.size w w'))
                          case atStart => exact ⟨(0), (by first | rfl | (simp; done) | (simp [*]; done)), H', ⟨Nat.le_refl _⟩, ⟨by (with_reducible repeat (first | apply Kd.S_alloc | apply Kd.S_drewN | apply Kd.S_drew)); exact HO_8.out⟩, ⟨by (with_reducible repeat (first | apply Kd.S_alloc | apply Kd.S_drewN | apply Kd.S_drew)); exact HO_9.out⟩, ⟨by (with_reducible repeat (first | apply Kd.S_alloc | apply Kd.S_drewN | apply Kd.S_drew)); exact HO_10.out⟩, ⟨by (with_reducible repeat (first | apply Kd.S_alloc | apply Kd.S_drewN | apply Kd.S_drew)); exact HO_11.out⟩, ⟨by repeat (first | (with_reducible first | exact HB.out | apply below_alloc | apply pw_below_drewN | apply below_drew1) | exact HB.out)⟩⟩
                          case round =>
                            clear H'
                            try clear c1
                            try clear c2
                            try clear p2
                            try clear q2
                            try clear c3
                            try clear c5
                            try clear c5b0
                            try clear c5b1
                            try clear c6
                            try clear p6
                            try clear c7
                            try clear c7b0
                            try clear c7b1
                            try clear c10
                            try clear c13
                            try clear c13b0
                            try clear c13b1
                            try clear c13b2
                            try clear c17
                            try clear c19
                            try clear c19b0
                            try clear c19b1
                            try clear c20
                            try clear c20b0
                            try clear c20b1
                            try clear c22
                            try clear c22b0
                            try clear c23
                            try clear c23b0
                            try clear q27
                            try clear q28
                            try clear c31
                            try clear c31b0
                            try clear c31b1
                            try clear c33
                            try clear c35
                            try clear p2
                            try clear p6
                            try clear q2
                            try clear q27
                            try clear q28
                            obtain ⟨x12_4, rfl, HA, HK4, HO_8, HO_9, HO_10, HO_11, HB⟩ := hrel
                            cases gk with
                            | zero => exact absurd HA.out (by simp [laws_FnTreesBegin.l0])
                            | succ k4 =>
                              have H := HA.out
                              clear HA
                              simp only [laws_FnTreesBegin.l0] at H
                              by_cases c36 : x12_4 < (ji18)
                              · rw [if_pos c36] at H
                                have c36b0 : decide (x12_4 < (ji18)) = true := decide_eq_true c36
                                clear c36
                                by_cases c37 : 0 ≤ x12_4
                                · rw [if_pos c37] at H
                                  have c37b0 : decide (0 ≤ x12_4) = true := decide_eq_true c37
                                  clear c37
                                  by_cases c38 : x12_4 < (t123.length : Int)
                                  · rw [if_pos c38] at H
                                    have c38b0 : decide (x12_4 < (t123.length : Int)) = true := decide_eq_true c38
                                    clear c38
                                    by_cases c39 : x12_4 < (t113.length : Int)
                                    · rw [if_pos c39] at H
                                      have c39b0 : decide (x12_4 < (t113.length : Int)) = true := decide_eq_true c39
                                      clear c39
                                      replace H := Option.bind_eq_some_iff.mp H
                                      obtain ⟨t135, A400, H⟩ := H
                                      replace H : (if t135 = true then (if x12_4 < (t130.length : Int) then (if x12_4 < (t116.length : Int) then ((laws_treeSame.f k4 ((rd_T46 t130 x12_4).f0) ((rd_T46 t130 x12_4).f1) ((rd_T46 t130 x12_4).f2) ((rd_T46 t130 x12_4).f3) ((rd_T46 t116 x12_4).f0) ((rd_T46 t116 x12_4).f1) ((rd_T46 t116 x12_4).f2) ((rd_T46 t116 x12_4).f3)).bind fun t138 => (if t138 = true then (laws_FnTreesBegin.l0 k4 (ji18) t113 t116 t123 t130 (wrap64 (x12_4 + 1))) else (none))) else (none)) else (none)) else (none)) = some r := H
                                      have A40 := Aside0.mk A400
                                      clear A400
                                      by_cases c41 : t135 = true
                                      · subst c41
                                        have H1 : (if x12_4 < (t130.length : Int) then (if x12_4 < (t116.length : Int) then ((laws_treeSame.f k4 ((rd_T46 t130 x12_4).f0) ((rd_T46 t130 x12_4).f1) ((rd_T46 t130 x12_4).f2) ((rd_T46 t130 x12_4).f3) ((rd_T46 t116 x12_4).f0) ((rd_T46 t116 x12_4).f1) ((rd_T46 t116 x12_4).f2) ((rd_T46 t116 x12_4).f3)).bind fun t138 => (if t138 = true then (laws_FnTreesBegin.l0 k4 (ji18) t113 t116 t123 t130 (wrap64 (x12_4 + 1))) else (none))) else (none)) else (none)) = some r := by rw [if_pos rfl] at H; exact H
                                        clear H
                                        have H := H1
                                        clear H1
                                        by_cases c42 : x12_4 < (t130.length : Int)
                                        · rw [if_pos c42] at H
                                          have c42b0 : decide (x12_4 < (t130.length : Int)) = true := decide_eq_true c42
                                          clear c42
                                          by_cases c43 : x12_4 < (t116.length : Int)
                                          · rw [if_pos c43] at H
                                            have c43b0 : decide (x12_4 < (t116.length : Int)) = true := decide_eq_true c43
                                            clear c43
                                            replace H := Option.bind_eq_some_iff.mp H
                                            obtain ⟨t138, A440, H⟩ := H
                                            replace H : (if t138 = true then (laws_FnTreesBegin.l0 k4 (ji18) t113 t116 t123 t130 (wrap64 (x12_4 + 1))) else (none)) = some r := H
                                            have A44 := Aside0.mk A440
                                            clear A440
                                            by_cases c45 : t138 = true
                                            · subst c45
                                              have H1 : (laws_FnTreesBegin.l0 k4 (ji18) t113 t116 t123 t130 (wrap64 (x12_4 + 1))) = some r := by rw [if_pos rfl] at H; exact H
                                              clear H
                                              have H := H1
                                              clear H1
                                              have H' := Aside0.mk H
                                              clear H
                                              try go_wp2
                                              have n0_ := Aside0.mk (Kd.S_drew HO_8.out)
                                              have n1_ := Aside0.mk (Kd.S_drew HO_9.out)
                                              have n2_ := Aside0.mk (Kd.S_drew HO_10.out)
                                              have n3_ := Aside0.mk (Kd.S_drew HO_11.out)
                                              have n4_ := Aside0.mk (below_drew1 HB.out)
                                              clear HO_8
                                              clear HO_9
                                              clear HO_10
                                              clear HO_11
                                              clear HB
                                              have HO_8 := n0_
                                              have HO_9 := n1_
                                              have HO_10 := n2_
                                              have HO_11 := n3_
                                              have HB := n4_
                                              clear n0_ n1_ n2_ n3_ n4_
                                              obtain ⟨Ao47, co47, eo47⟩ := Kd.S_slice HO_10.out
                                              (first | subst eo47 | (injection eo47 with f1_ f2_ f3_; have f4_ := f1_.symm; have f5_ := f3_.symm; clear f1_ f2_ f3_; subst f4_; subst f5_))
                                              have p133 : 0 ≤ (x12_4 : Int) := of_decide_eq_true (by first | (with_reducible assumption) | assumption)
                                              have q133 : x12_4 < (t123.length : Int) := of_decide_eq_true (by first | (with_reducible assumption) | assumption)
                                              obtain ⟨ad133, A133_2, c133_2, A133_3, c133_3, e133, hx133_0, hx133_1, hx133_2, hx133_3, hl133_2, hi133_2, hl133_3, hi133_3⟩ := at_T46 (Kd.S_reads' HO_10.out).2.2 x12_4 p133 q133
                                              cases e133
                                              obtain ⟨ce133, hce133, hMe133, hcc133⟩ := Kd.S_get HO_10.out z46 x12_4 p133 (by first | exact q133 | exact of_decide_eq_true (by first | (with_reducible assumption) | assumption) | (have e_ := (Kd.S_reads' HO_10.out).1; omega))
                                              obtain ⟨ve133_2, ve133_3, rfl, ge133_2, ge133_3⟩ := k46_openM hMe133
                                              have hv133_2 := hcc133 2 _ rfl
                                              rw [add_field _ _ 2 (by omega)] at hv133_2
                                              replace hv133_2 := Option.some.inj (hv133_2.symm.trans hx133_2)
                                              rw [hv133_2] at ge133_2
                                              have HL133_2 := Aside0.mk (show Kd.R (Kd.int .i64) 3 _ _ _ _ ((rd_T46 t123 x12_4).f2) from ge133_2)
                                              clear hv133_2 ge133_2
                                              have hv133_3 := hcc133 3 _ rfl
                                              rw [add_field _ _ 3 (by omega)] at hv133_3
                                              replace hv133_3 := Option.some.inj (hv133_3.symm.trans hx133_3)
                                              rw [hv133_3] at ge133_3
                                              have HL133_3 := Aside0.mk (show Kd.R (Kd.int .i64) 3 _ _ _ _ ((rd_T46 t123 x12_4).f3) from ge133_3)
                                              clear hv133_3 ge133_3
                                              clear hcc133 hce133
                                              have HR133_2 := Aside0.mk hi133_2
                                              have HC133_2 := Aside0.mk hl133_2
                                              clear hi133_2 hl133_2
                                              have HR133_3 := Aside0.mk hi133_3
                                              have HC133_3 := Aside0.mk hl133_3
                                              clear hi133_3 hl133_3
                                              replace p133 := eq_true p133
                                              replace q133 := eq_true q133
                                              obtain ⟨Ao48, co48, eo48⟩ := Kd.S_slice HO_8.out
                                              (first | subst eo48 | (injection eo48 with f1_ f2_ f3_; have f4_ := f1_.symm; have f5_ := f3_.symm; clear f1_ f2_ f3_; subst f4_; subst f5_))
                                              have p134 : 0 ≤ (x12_4 : Int) := of_decide_eq_true (by first | (with_reducible assumption) | assumption)
                                              have q134 : x12_4 < (t113.length : Int) := of_decide_eq_true (by first | (with_reducible assumption) | assumption)
                                              obtain ⟨ad134, A134_2, c134_2, A134_3, c134_3, e134, hx134_0, hx134_1, hx134_2, hx134_3, hl134_2, hi134_2, hl134_3, hi134_3⟩ := at_T46 (Kd.S_reads' HO_8.out).2.2 x12_4 p134 q134
                                              cases e134
                                              obtain ⟨ce134, hce134, hMe134, hcc134⟩ := Kd.S_get HO_8.out z46 x12_4 p134 (by first | exact q134 | exact of_decide_eq_true (by first | (with_reducible assumption) | assumption) | (have e_ := (Kd.S_reads' HO_8.out).1; omega))
                                              obtain ⟨ve134_2, ve134_3, rfl, ge134_2, ge134_3⟩ := k46_openM hMe134
                                              have hv134_2 := hcc134 2 _ rfl
                                              rw [add_field _ _ 2 (by omega)] at hv134_2
                                              replace hv134_2 := Option.some.inj (hv134_2.symm.trans hx134_2)
                                              rw [hv134_2] at ge134_2
                                              have HL134_2 := Aside0.mk (show Kd.R (Kd.int .i64) 3 _ _ _ _ ((rd_T46 t113 x12_4).f2) from ge134_2)
                                              clear hv134_2 ge134_2
                                              have hv134_3 := hcc134 3 _ rfl
                                              rw [add_field _ _ 3 (by omega)] at hv134_3
                                              replace hv134_3 := Option.some.inj (hv134_3.symm.trans hx134_3)
                                              rw [hv134_3] at ge134_3
                                              have HL134_3 := Aside0.mk (show Kd.R (Kd.int .i64) 3 _ _ _ _ ((rd_T46 t113 x12_4).f3) from ge134_3)
                                              clear hv134_3 ge134_3
                                              clear hcc134 hce134
                                              have HR134_2 := Aside0.mk hi134_2
                                              have HC134_2 := Aside0.mk hl134_2
                                              clear hi134_2 hl134_2
                                              have HR134_3 := Aside0.mk hi134_3
                                              have HC134_3 := Aside0.mk hl134_3
                                              clear hi134_3 hl134_3
                                              replace p134 := eq_true p134
                                              replace q134 := eq_true q134
                                              have p136 : 0 ≤ (x12_4 : Int) := of_decide_eq_true (by first | (with_reducible assumption) | assumption)
                                              have q136 : x12_4 < (t130.length : Int) := of_decide_eq_true (by first | (with_reducible assumption) | assumption)
                                              obtain ⟨Aox1, cox1, eox1⟩ := Kd.S_slice HO_11.out
                                              (first | subst eox1 | (injection eox1 with f1_ f2_ f3_; have f4_ := f1_.symm; have f5_ := f3_.symm; clear f1_ f2_ f3_; subst f4_; subst f5_))
                                              obtain ⟨ad136, A136_2, c136_2, A136_3, c136_3, e136, hx136_0, hx136_1, hx136_2, hx136_3, hl136_2, hi136_2, hl136_3, hi136_3⟩ := at_T46 (Kd.S_reads' HO_11.out).2.2 x12_4 p136 q136
                                              cases e136
                                              obtain ⟨ce136, hce136, hMe136, hcc136⟩ := Kd.S_get HO_11.out z46 x12_4 p136 (by first | exact q136 | exact of_decide_eq_true (by first | (with_reducible assumption) | assumption) | (have e_ := (Kd.S_reads' HO_11.out).1; omega))
                                              obtain ⟨ve136_2, ve136_3, rfl, ge136_2, ge136_3⟩ := k46_openM hMe136
                                              have hv136_2 := hcc136 2 _ rfl
                                              rw [add_field _ _ 2 (by omega)] at hv136_2
                                              replace hv136_2 := Option.some.inj (hv136_2.symm.trans hx136_2)
                                              rw [hv136_2] at ge136_2
                                              have HL136_2 := Aside0.mk (show Kd.R (Kd.int .i64) 3 _ _ _ _ ((rd_T46 t130 x12_4).f2) from ge136_2)
                                              clear hv136_2 ge136_2
                                              have hv136_3 := hcc136 3 _ rfl
                                              rw [add_field _ _ 3 (by omega)] at hv136_3
                                              replace hv136_3 := Option.some.inj (hv136_3.symm.trans hx136_3)
                                              rw [hv136_3] at ge136_3
                                              have HL136_3 := Aside0.mk (show Kd.R (Kd.int .i64) 3 _ _ _ _ ((rd_T46 t130 x12_4).f3) from ge136_3)
                                              clear hv136_3 ge136_3
                                              clear hcc136 hce136
                                              have HR136_2 := Aside0.mk hi136_2
                                              have HC136_2 := Aside0.mk hl136_2
                                              clear hi136_2 hl136_2
                                              have HR136_3 := Aside0.mk hi136_3
                                              have HC136_3 := Aside0.mk hl136_3
                                              clear hi136_3 hl136_3
                                              replace p136 := eq_true p136
                                              replace q136 := eq_true q136
                                              have p137 : 0 ≤ (x12_4 : Int) := of_decide_eq_true (by first | (with_reducible assumption) | assumption)
                                              have q137 : x12_4 < (t116.length : Int) := of_decide_eq_true (by first | (with_reducible assumption) | assumption)
                                              obtain ⟨Aox2, cox2, eox2⟩ := Kd.S_slice HO_9.out
                                              (first | subst eox2 | (injection eox2 with f1_ f2_ f3_; have f4_ := f1_.symm; have f5_ := f3_.symm; clear f1_ f2_ f3_; subst f4_; subst f5_))
                                              obtain ⟨ad137, A137_2, c137_2, A137_3, c137_3, e137, hx137_0, hx137_1, hx137_2, hx137_3, hl137_2, hi137_2, hl137_3, hi137_3⟩ := at_T46 (Kd.S_reads' HO_9.out).2.2 x12_4 p137 q137
                                              cases e137
                                              obtain ⟨ce137, hce137, hMe137, hcc137⟩ := Kd.S_get HO_9.out z46 x12_4 p137 (by first | exact q137 | exact of_decide_eq_true (by first | (with_reducible assumption) | assumption) | (have e_ := (Kd.S_reads' HO_9.out).1; omega))
                                              obtain ⟨ve137_2, ve137_3, rfl, ge137_2, ge137_3⟩ := k46_openM hMe137
                                              have hv137_2 := hcc137 2 _ rfl
                                              rw [add_field _ _ 2 (by omega)] at hv137_2
                                              replace hv137_2 := Option.some.inj (hv137_2.symm.trans hx137_2)
                                              rw [hv137_2] at ge137_2
                                              have HL137_2 := Aside0.mk (show Kd.R (Kd.int .i64) 3 _ _ _ _ ((rd_T46 t116 x12_4).f2) from ge137_2)
                                              clear hv137_2 ge137_2
                                              have hv137_3 := hcc137 3 _ rfl
                                              rw [add_field _ _ 3 (by omega)] at hv137_3
                                              replace hv137_3 := Option.some.inj (hv137_3.symm.trans hx137_3)
                                              rw [hv137_3] at ge137_3
                                              have HL137_3 := Aside0.mk (show Kd.R (Kd.int .i64) 3 _ _ _ _ ((rd_T46 t116 x12_4).f3) from ge137_3)
                                              clear hv137_3 ge137_3
                                              clear hcc137 hce137
                                              have HR137_2 := Aside0.mk hi137_2
                                              have HC137_2 := Aside0.mk hl137_2
                                              clear hi137_2 hl137_2
                                              have HR137_3 := Aside0.mk hi137_3
                                              have HC137_3 := Aside0.mk hl137_3
                                              clear hi137_3 hl137_3
                                              replace p137 := eq_true p137
                                              replace q137 := eq_true q137
                                              refine start_ (n := 22) (S := fun w' => w'.cell? (ad133.add ((x12_4).toNat * 4)) = some (.int .i64 ((rd_T46 t123 x12_4).f0)) ∧ w'.cell? ⟨(ad133.add ((x12_4).toNat * 4)).block, (ad133.add ((x12_4).toNat * 4)).off + 1, none⟩ = some (.bool ((rd_T46 t123 x12_4).f1)) ∧ w'.cell? ⟨(ad133.add ((x12_4).toNat * 4)).block, (ad133.add ((x12_4).toNat * 4)).off + 2, none⟩ = some (.slice A133_2 ((rd_T46 t123 x12_4).f2).length c133_2) ∧ w'.cell? ⟨(ad133.add ((x12_4).toNat * 4)).block, (ad133.add ((x12_4).toNat * 4)).off + 3, none⟩ = some (.slice A133_3 ((rd_T46 t123 x12_4).f3).length c133_3) ∧ w'.cell? (ad134.add ((x12_4).toNat * 4)) = some (.int .i64 ((rd_T46 t113 x12_4).f0)) ∧ w'.cell? ⟨(ad134.add ((x12_4).toNat * 4)).block, (ad134.add ((x12_4).toNat * 4)).off + 1, none⟩ = some (.bool ((rd_T46 t113 x12_4).f1)) ∧ w'.cell? ⟨(ad134.add ((x12_4).toNat * 4)).block, (ad134.add ((x12_4).toNat * 4)).off + 2, none⟩ = some (.slice A134_2 ((rd_T46 t113 x12_4).f2).length c134_2) ∧ w'.cell? ⟨(ad134.add ((x12_4).toNat * 4)).block, (ad134.add ((x12_4).toNat * 4)).off + 3, none⟩ = some (.slice A134_3 ((rd_T46 t113 x12_4).f3).length c134_3) ∧ w'.cell? (ad136.add ((x12_4).toNat * 4)) = some (.int .i64 ((rd_T46 t130 x12_4).f0)) ∧ w'.cell? ⟨(ad136.add ((x12_4).toNat * 4)).block, (ad136.add ((x12_4).toNat * 4)).off + 1, none⟩ = some (.bool ((rd_T46 t130 x12_4).f1)) ∧ w'.cell? ⟨(ad136.add ((x12_4).toNat * 4)).block, (ad136.add ((x12_4).toNat * 4)).off + 2, none⟩ = some (.slice A136_2 ((rd_T46 t130 x12_4).f2).length c136_2) ∧ w'.cell? ⟨(ad136.add ((x12_4).toNat * 4)).block, (ad136.add ((x12_4).toNat * 4)).off + 3, none⟩ = some (.slice A136_3 ((rd_T46 t130 x12_4).f3).length c136_3) ∧ w'.cell? (ad137.add ((x12_4).toNat * 4)) = some (.int .i64 ((rd_T46 t116 x12_4).f0)) ∧ w'.cell? ⟨(ad137.add ((x12_4).toNat * 4)).block, (ad137.add ((x12_4).toNat * 4)).off + 1, none⟩ = some (.bool ((rd_T46 t116 x12_4).f1)) ∧ w'.cell? ⟨(ad137.add ((x12_4).toNat * 4)).block, (ad137.add ((x12_4).toNat * 4)).off + 2, none⟩ = some (.slice A137_2 ((rd_T46 t116 x12_4).f2).length c137_2) ∧ w'.cell? ⟨(ad137.add ((x12_4).toNat * 4)).block, (ad137.add ((x12_4).toNat * 4)).off + 3, none⟩ = some (.slice A137_3 ((rd_T46 t116 x12_4).f3).length c137_3)) (ds := []) #[false, false, false, false, false, false, false, false, false, false, false, false, false, false, false, false, false, false, false, false, false, false] (by kernel_rfl) rfl rfl ⟨hx133_0, hx133_1, hx133_2, hx133_3, hx134_0, hx134_1, hx134_2, hx134_3, hx136_0, hx136_1, hx136_2, hx136_3, hx137_0, hx137_1, hx137_2, hx137_3⟩ (fun hHeld => ?_); refine with_tabW laws_FnTreesBegin.tab13 laws_FnTreesBegin.bits13 (fun HT_ HW_ => ?_)
                                              generalize wr.drew = w46 at HO_8 HO_9 HO_10 HO_11 HB HL133_2 HL133_3 HL134_2 HL134_3 HL136_2 HL136_3 HL137_2 HL137_3 HR133_2 HR133_3 HR134_2 HR134_3 HR136_2 HR136_3 HR137_2 HR137_3 hx133_0 hx133_1 hx133_2 hx133_3 hx134_0 hx134_1 hx134_2 hx134_3 hx136_0 hx136_1 hx136_2 hx136_3 hx137_0 hx137_1 hx137_2 hx137_3 hHeld ⊢
                                              refine pure_ (i := 0) (N := some 77) (v := ?_) (a' := ?_) #[true, false, false, false, false, false, false, false, false, false, false, false, false, false, false, false, false, false, false, false, false, false] rfl rfl (any_of HT_.out (by kernel_rfl)) (fun _ _ _ h => h) (Or.inl ⟨by rfl, ?_⟩) ?_ ?_
                                              rotate_left
                                              · intro w'
                                                go_simp
                                                with_reducible rfl
                                              rotate_left
                                              · simp only [Act.put, List.setIfInBounds_toArray, List.set_cons_zero, List.set_cons_succ, i64_w, i32_w]
                                                rfl
                                              refine pure_ (i := 1) (N := some 78) (v := ?_) (a' := ?_) #[true, true, false, false, false, false, false, false, false, false, false, false, false, false, false, false, false, false, false, false, false, false] rfl rfl (any_of HT_.out (by kernel_rfl)) (fun _ _ _ h => h) (Or.inl ⟨by rfl, ?_⟩) ?_ ?_
                                              rotate_left
                                              · intro w'
                                                go_simp
                                                with_reducible rfl
                                              rotate_left
                                              · simp only [Act.put, List.setIfInBounds_toArray, List.set_cons_zero, List.set_cons_succ, i64_w, i32_w]
                                                rfl
                                              refine pure_ (i := 2) (N := some 79) (v := ?_) (a' := ?_) #[true, true, true, false, false, false, false, false, false, false, false, false, false, false, false, false, false, false, false, false, false, false] rfl rfl (any_of HT_.out (by kernel_rfl)) (fun _ _ _ h => h) (Or.inl ⟨by rfl, ?_⟩) ?_ ?_
                                              rotate_left
                                              · intro w'
                                                go_simp
                                                with_reducible rfl
                                              rotate_left
                                              · simp only [Act.put, List.setIfInBounds_toArray, List.set_cons_zero, List.set_cons_succ, i64_w, i32_w]
                                                rfl
                                              refine pure_ (i := 4) (N := some 81) (v := ?_) (a' := ?_) #[true, true, true, false, true, false, false, false, false, false, false, false, false, false, false, false, false, false, false, false, false, false] rfl rfl (any_of HT_.out (by kernel_rfl)) (fun _ _ _ h => h) (Or.inl ⟨by rfl, ?_⟩) ?_ ?_
                                              rotate_left
                                              · intro w'
                                                go_simp
                                                with_reducible rfl
                                              rotate_left
                                              · simp only [Act.put, List.setIfInBounds_toArray, List.set_cons_zero, List.set_cons_succ, i64_w, i32_w]
                                                rfl
                                              refine pure_ (i := 5) (N := some 82) (v := ?_) (a' := ?_) #[true, true, true, false, true, true, false, false, false, false, false, false, false, false, false, false, false, false, false, false, false, false] rfl rfl (any_of HT_.out (by kernel_rfl)) (fun _ _ _ h => h) (Or.inl ⟨by rfl, ?_⟩) ?_ ?_
                                              rotate_left
                                              · intro w'
                                                go_simp
                                                with_reducible rfl
                                              rotate_left
                                              · simp only [Act.put, List.setIfInBounds_toArray, List.set_cons_zero, List.set_cons_succ, i64_w, i32_w]
                                                rfl
                                              refine pure_ (i := 6) (N := some 83) (v := ?_) (a' := ?_) #[true, true, true, false, true, true, true, false, false, false, false, false, false, false, false, false, false, false, false, false, false, false] rfl rfl (any_of HT_.out (by kernel_rfl)) (fun _ _ _ h => h) (Or.inl ⟨by rfl, ?_⟩) ?_ ?_
                                              rotate_left
                                              · intro w'
                                                go_simp
                                                with_reducible rfl
                                              rotate_left
                                              · simp only [Act.put, List.setIfInBounds_toArray, List.set_cons_zero, List.set_cons_succ, i64_w, i32_w]
                                                rfl
                                              refine take_ (i := 3) (N := some 80) (v := ?_) (a' := ?_) #[true, true, true, true, true, true, true, false, false, false, false, false, false, false, false, false, false, false, false, false, false, false] rfl rfl (take_ofW HT_.out HW_.out (by kernel_rfl)) (fun _ _ _ h => h) (Or.inl ⟨by rfl, ?_⟩) hHeld ?_ ?_
                                              rotate_left
                                              · rintro w' ⟨s0, s1, s2, s3, s4, s5, s6, s7, s8, s9, s10, s11, s12, s13, s14, s15⟩
                                                go_simp
                                                with_reducible rfl
                                              rotate_left
                                              · simp only [Act.put, List.setIfInBounds_toArray, List.set_cons_zero, List.set_cons_succ, i64_w, i32_w]
                                                rfl
                                              refine take_ (i := 7) (N := some 84) (v := ?_) (a' := ?_) #[true, true, true, true, true, true, true, true, false, false, false, false, false, false, false, false, false, false, false, false, false, false] rfl rfl (take_ofW HT_.out HW_.out (by kernel_rfl)) (fun _ _ _ h => h) (Or.inl ⟨by rfl, ?_⟩) hHeld ?_ ?_
                                              rotate_left
                                              · rintro w' ⟨s0, s1, s2, s3, s4, s5, s6, s7, s8, s9, s10, s11, s12, s13, s14, s15⟩
                                                go_simp
                                                with_reducible rfl
                                              rotate_left
                                              · simp only [Act.put, List.setIfInBounds_toArray, List.set_cons_zero, List.set_cons_succ, i64_w, i32_w]
                                                rfl
                                              refine one_ (i := 8) (N := some 85) #[true, true, true, true, true, true, true, true, true, false, false, false, false, false, false, false, false, false, false, false, false, false] rfl rfl (one_of HT_.out (by kernel_rfl)) (by decide) (fun K hK => ?_)
                                              refine goes_ Try.func34 (by kernel_rfl) rfl #[.agg #[.int .i64 ((rd_T46 t123 x12_4).f0), .bool ((rd_T46 t123 x12_4).f1), .slice A133_2 ((rd_T46 t123 x12_4).f2).length c133_2, .slice A133_3 ((rd_T46 t123 x12_4).f3).length c133_3], .agg #[.int .i64 ((rd_T46 t113 x12_4).f0), .bool ((rd_T46 t113 x12_4).f1), .slice A134_2 ((rd_T46 t113 x12_4).f2).length c134_2, .slice A134_3 ((rd_T46 t113 x12_4).f3).length c134_3]] (by rfl) rfl rfl (by (try simp only [List.map_toArray, List.map_cons, List.map_nil]); first | done | rfl | (simp only [List.length_drop, List.length_take]; rfl) | ((try rw [Ny119.out]); (try rw [Ny126.out]); rfl)) ?_
                                              with_reducible refine (laws_treeSame.calls k4 ((rd_T46 t123 x12_4).f0) ((rd_T46 t123 x12_4).f1) _ _ ((rd_T46 t123 x12_4).f2) _ _ ((rd_T46 t123 x12_4).f3) ((rd_T46 t113 x12_4).f0) ((rd_T46 t113 x12_4).f1) _ _ ((rd_T46 t113 x12_4).f2) _ _ ((rd_T46 t113 x12_4).f3) true _ ?side1 ?side2 ?side3 ?side4 ?side5 ?side6 ?side7 ?side8 A40.out).mono ?_
                                              (case side1 => repeat (first | exact (by repeat (first | (with_reducible exact HR133_2.out) | (with_reducible refine Kd.C_alloc ?_ _) | (with_reducible refine Kd.C_drewN ?_ _) | (with_reducible refine Kd.C_drew ?_) | exact HR133_2.out)) | (with_reducible refine Kd.C_alloc ?_ _) | (with_reducible refine Kd.C_drewN ?_ _) | (with_reducible refine Kd.C_drew ?_)))
                                              (case side2 => exact HC133_2.out)
                                              (case side3 => repeat (first | exact (by repeat (first | (with_reducible exact HR133_3.out) | (with_reducible refine Kd.C_alloc ?_ _) | (with_reducible refine Kd.C_drewN ?_ _) | (with_reducible refine Kd.C_drew ?_) | exact HR133_3.out)) | (with_reducible refine Kd.C_alloc ?_ _) | (with_reducible refine Kd.C_drewN ?_ _) | (with_reducible refine Kd.C_drew ?_)))
                                              (case side4 => exact HC133_3.out)
                                              (case side5 => repeat (first | exact (by repeat (first | (with_reducible exact HR134_2.out) | (with_reducible refine Kd.C_alloc ?_ _) | (with_reducible refine Kd.C_drewN ?_ _) | (with_reducible refine Kd.C_drew ?_) | exact HR134_2.out)) | (with_reducible refine Kd.C_alloc ?_ _) | (with_reducible refine Kd.C_drewN ?_ _) | (with_reducible refine Kd.C_drew ?_)))
                                              (case side6 => exact HC134_2.out)
                                              (case side7 => repeat (first | exact (by repeat (first | (with_reducible exact HR134_3.out) | (with_reducible refine Kd.C_alloc ?_ _) | (with_reducible refine Kd.C_drewN ?_ _) | (with_reducible refine Kd.C_drew ?_) | exact HR134_3.out)) | (with_reducible refine Kd.C_alloc ?_ _) | (with_reducible refine Kd.C_drewN ?_ _) | (with_reducible refine Kd.C_drew ?_)))
                                              (case side8 => exact HC134_3.out)
                                              rintro e w49 ⟨rfl, hb⟩
                                              have HS0_ := (hb.cell (World.block_lt_of_cell? _ _ (hHeld.1))).trans (hHeld.1)
                                              have HS1_ := (hb.cell (World.block_lt_of_cell? _ _ (hHeld.2.1))).trans (hHeld.2.1)
                                              have HS2_ := (hb.cell (World.block_lt_of_cell? _ _ (hHeld.2.2.1))).trans (hHeld.2.2.1)
                                              have HS3_ := (hb.cell (World.block_lt_of_cell? _ _ (hHeld.2.2.2.1))).trans (hHeld.2.2.2.1)
                                              have HS4_ := (hb.cell (World.block_lt_of_cell? _ _ (hHeld.2.2.2.2.1))).trans (hHeld.2.2.2.2.1)
                                              have HS5_ := (hb.cell (World.block_lt_of_cell? _ _ (hHeld.2.2.2.2.2.1))).trans (hHeld.2.2.2.2.2.1)
                                              have HS6_ := (hb.cell (World.block_lt_of_cell? _ _ (hHeld.2.2.2.2.2.2.1))).trans (hHeld.2.2.2.2.2.2.1)
                                              have HS7_ := (hb.cell (World.block_lt_of_cell? _ _ (hHeld.2.2.2.2.2.2.2.1))).trans (hHeld.2.2.2.2.2.2.2.1)
                                              have HS8_ := (hb.cell (World.block_lt_of_cell? _ _ (hHeld.2.2.2.2.2.2.2.2.1))).trans (hHeld.2.2.2.2.2.2.2.2.1)
                                              have HS9_ := (hb.cell (World.block_lt_of_cell? _ _ (hHeld.2.2.2.2.2.2.2.2.2.1))).trans (hHeld.2.2.2.2.2.2.2.2.2.1)
                                              have HS10_ := (hb.cell (World.block_lt_of_cell? _ _ (hHeld.2.2.2.2.2.2.2.2.2.2.1))).trans (hHeld.2.2.2.2.2.2.2.2.2.2.1)
                                              have HS11_ := (hb.cell (World.block_lt_of_cell? _ _ (hHeld.2.2.2.2.2.2.2.2.2.2.2.1))).trans (hHeld.2.2.2.2.2.2.2.2.2.2.2.1)
                                              have HS12_ := (hb.cell (World.block_lt_of_cell? _ _ (hHeld.2.2.2.2.2.2.2.2.2.2.2.2.1))).trans (hHeld.2.2.2.2.2.2.2.2.2.2.2.2.1)
                                              have HS13_ := (hb.cell (World.block_lt_of_cell? _ _ (hHeld.2.2.2.2.2.2.2.2.2.2.2.2.2.1))).trans (hHeld.2.2.2.2.2.2.2.2.2.2.2.2.2.1)
                                              have HS14_ := (hb.cell (World.block_lt_of_cell? _ _ (hHeld.2.2.2.2.2.2.2.2.2.2.2.2.2.2.1))).trans (hHeld.2.2.2.2.2.2.2.2.2.2.2.2.2.2.1)
                                              have HS15_ := (hb.cell (World.block_lt_of_cell? _ _ (hHeld.2.2.2.2.2.2.2.2.2.2.2.2.2.2.2))).trans (hHeld.2.2.2.2.2.2.2.2.2.2.2.2.2.2.2)
                                              refine ⟨_, rfl, ?_⟩
                                              have n0_ := Aside0.mk (Kd.S_below (by (with_reducible repeat (first | apply Kd.S_alloc | apply Kd.S_drewN | apply Kd.S_drew)); exact HO_8.out) hb)
                                              have n1_ := Aside0.mk (Kd.S_below (by (with_reducible repeat (first | apply Kd.S_alloc | apply Kd.S_drewN | apply Kd.S_drew)); exact HO_9.out) hb)
                                              have n2_ := Aside0.mk (Kd.S_below (by (with_reducible repeat (first | apply Kd.S_alloc | apply Kd.S_drewN | apply Kd.S_drew)); exact HO_10.out) hb)
                                              have n3_ := Aside0.mk (Kd.S_below (by (with_reducible repeat (first | apply Kd.S_alloc | apply Kd.S_drewN | apply Kd.S_drew)); exact HO_11.out) hb)
                                              have n4_ := Aside0.mk (Kd.R_below (by (with_reducible repeat (first | apply Kd.R_alloc | apply Kd.R_drewN | apply Kd.R_drew)); exact HL133_2.out) hb)
                                              have n5_ := Aside0.mk (Kd.R_below (by (with_reducible repeat (first | apply Kd.R_alloc | apply Kd.R_drewN | apply Kd.R_drew)); exact HL133_3.out) hb)
                                              have n6_ := Aside0.mk (Kd.R_below (by (with_reducible repeat (first | apply Kd.R_alloc | apply Kd.R_drewN | apply Kd.R_drew)); exact HL134_2.out) hb)
                                              have n7_ := Aside0.mk (Kd.R_below (by (with_reducible repeat (first | apply Kd.R_alloc | apply Kd.R_drewN | apply Kd.R_drew)); exact HL134_3.out) hb)
                                              have n8_ := Aside0.mk (Kd.C_below (by repeat (first | (with_reducible exact HR133_2.out) | (with_reducible refine Kd.C_alloc ?_ _) | (with_reducible refine Kd.C_drewN ?_ _) | (with_reducible refine Kd.C_drew ?_) | exact HR133_2.out)) hb)
                                              have n9_ := Aside0.mk (Kd.C_below (by repeat (first | (with_reducible exact HR133_3.out) | (with_reducible refine Kd.C_alloc ?_ _) | (with_reducible refine Kd.C_drewN ?_ _) | (with_reducible refine Kd.C_drew ?_) | exact HR133_3.out)) hb)
                                              have n10_ := Aside0.mk (Kd.C_below (by repeat (first | (with_reducible exact HR134_2.out) | (with_reducible refine Kd.C_alloc ?_ _) | (with_reducible refine Kd.C_drewN ?_ _) | (with_reducible refine Kd.C_drew ?_) | exact HR134_2.out)) hb)
                                              have n11_ := Aside0.mk (Kd.C_below (by repeat (first | (with_reducible exact HR134_3.out) | (with_reducible refine Kd.C_alloc ?_ _) | (with_reducible refine Kd.C_drewN ?_ _) | (with_reducible refine Kd.C_drew ?_) | exact HR134_3.out)) hb)
                                              replace HL136_2 := Aside0.mk (Kd.R_below (by (with_reducible repeat (first | apply Kd.R_alloc | apply Kd.R_drewN | apply Kd.R_drew)); exact HL136_2.out) hb)
                                              replace HR136_2 := Aside0.mk (Kd.C_below (by repeat (first | (with_reducible exact HR136_2.out) | (with_reducible refine Kd.C_alloc ?_ _) | (with_reducible refine Kd.C_drewN ?_ _) | (with_reducible refine Kd.C_drew ?_) | exact HR136_2.out)) hb)
                                              replace HL136_3 := Aside0.mk (Kd.R_below (by (with_reducible repeat (first | apply Kd.R_alloc | apply Kd.R_drewN | apply Kd.R_drew)); exact HL136_3.out) hb)
                                              replace HR136_3 := Aside0.mk (Kd.C_below (by repeat (first | (with_reducible exact HR136_3.out) | (with_reducible refine Kd.C_alloc ?_ _) | (with_reducible refine Kd.C_drewN ?_ _) | (with_reducible refine Kd.C_drew ?_) | exact HR136_3.out)) hb)
                                              replace HL137_2 := Aside0.mk (Kd.R_below (by (with_reducible repeat (first | apply Kd.R_alloc | apply Kd.R_drewN | apply Kd.R_drew)); exact HL137_2.out) hb)
                                              replace HR137_2 := Aside0.mk (Kd.C_below (by repeat (first | (with_reducible exact HR137_2.out) | (with_reducible refine Kd.C_alloc ?_ _) | (with_reducible refine Kd.C_drewN ?_ _) | (with_reducible refine Kd.C_drew ?_) | exact HR137_2.out)) hb)
                                              replace HL137_3 := Aside0.mk (Kd.R_below (by (with_reducible repeat (first | apply Kd.R_alloc | apply Kd.R_drewN | apply Kd.R_drew)); exact HL137_3.out) hb)
                                              replace HR137_3 := Aside0.mk (Kd.C_below (by repeat (first | (with_reducible exact HR137_3.out) | (with_reducible refine Kd.C_alloc ?_ _) | (with_reducible refine Kd.C_drewN ?_ _) | (with_reducible refine Kd.C_drew ?_) | exact HR137_3.out)) hb)
                                              have n12_ := Aside0.mk (below_step (by repeat (first | (with_reducible first | exact HB.out | apply below_alloc | apply pw_below_drewN | apply below_drew1) | exact HB.out)) hb)
                                              clear HO_8
                                              clear HO_9
                                              clear HO_10
                                              clear HO_11
                                              clear HL133_2
                                              clear HL133_3
                                              clear HL134_2
                                              clear HL134_3
                                              clear HR133_2
                                              clear HR133_3
                                              clear HR134_2
                                              clear HR134_3
                                              clear HB
                                              have HO_8 := n0_
                                              have HO_9 := n1_
                                              have HO_10 := n2_
                                              have HO_11 := n3_
                                              have HL133_2 := n4_
                                              have HL133_3 := n5_
                                              have HL134_2 := n6_
                                              have HL134_3 := n7_
                                              have HR133_2 := n8_
                                              have HR133_3 := n9_
                                              have HR134_2 := n10_
                                              have HR134_3 := n11_
                                              have HB := n12_
                                              clear n0_ n1_ n2_ n3_ n4_ n5_ n6_ n7_ n8_ n9_ n10_ n11_ n12_
                                              (try clear hb)
                                              (try clear hb2)
                                              (try clear hk)
                                              (try clear hi)
                                              obtain ⟨Ao50, co50, eo50⟩ := Kd.S_slice HO_11.out
                                              (first | subst eo50 | (injection eo50 with f1_ f2_ f3_; have f4_ := f1_.symm; have f5_ := f3_.symm; clear f1_ f2_ f3_; subst f4_; subst f5_))
                                              obtain ⟨Ao51, co51, eo51⟩ := Kd.S_slice HO_9.out
                                              (first | subst eo51 | (injection eo51 with f1_ f2_ f3_; have f4_ := f1_.symm; have f5_ := f3_.symm; clear f1_ f2_ f3_; subst f4_; subst f5_))
                                              refine hK.out _ _ ⟨HS0_, HS1_, HS2_, HS3_, HS4_, HS5_, HS6_, HS7_, HS8_, HS9_, HS10_, HS11_, HS12_, HS13_, HS14_, HS15_⟩ (fun hHeld => ?_)
                                              clear hK K
                                              refine norm_ (a' := ?_) ?_ ?_
                                              rotate_left
                                              · show Act.put _ (some 85) _ = _
                                                simp only [Act.put, List.setIfInBounds_toArray, List.set_cons_zero, List.set_cons_succ, i64_w, i32_w]
                                                rfl
                                              refine pure_ (i := 9) (N := some 86) (v := ?_) (a' := ?_) #[true, true, true, true, true, true, true, true, true, true, false, false, false, false, false, false, false, false, false, false, false, false] rfl rfl (any_of HT_.out (by kernel_rfl)) (fun _ _ _ h => h) (Or.inl ⟨by rfl, ?_⟩) ?_ ?_
                                              rotate_left
                                              · intro w'
                                                go_simp
                                                with_reducible rfl
                                              rotate_left
                                              · simp only [Act.put, List.setIfInBounds_toArray, List.set_cons_zero, List.set_cons_succ, i64_w, i32_w]
                                                rfl
                                              refine pure_ (i := 10) (N := some 87) (v := ?_) (a' := ?_) #[true, true, true, true, true, true, true, true, true, true, true, false, false, false, false, false, false, false, false, false, false, false] rfl rfl (any_of HT_.out (by kernel_rfl)) (fun _ _ _ h => h) (Or.inl ⟨by rfl, ?_⟩) ?_ ?_
                                              rotate_left
                                              · intro w'
                                                go_simp
                                                with_reducible rfl
                                              rotate_left
                                              · simp only [Act.put, List.setIfInBounds_toArray, List.set_cons_zero, List.set_cons_succ, i64_w, i32_w]
                                                rfl
                                              refine pure_ (i := 11) (N := some 88) (v := ?_) (a' := ?_) #[true, true, true, true, true, true, true, true, true, true, true, true, false, false, false, false, false, false, false, false, false, false] rfl rfl (any_of HT_.out (by kernel_rfl)) (fun _ _ _ h => h) (Or.inl ⟨by rfl, ?_⟩) ?_ ?_
                                              rotate_left
                                              · intro w'
                                                go_simp
                                                with_reducible rfl
                                              rotate_left
                                              · simp only [Act.put, List.setIfInBounds_toArray, List.set_cons_zero, List.set_cons_succ, i64_w, i32_w]
                                                rfl
                                              refine pure_ (i := 12) (N := some 89) (v := ?_) (a' := ?_) #[true, true, true, true, true, true, true, true, true, true, true, true, true, false, false, false, false, false, false, false, false, false] rfl rfl (any_of HT_.out (by kernel_rfl)) (fun _ _ _ h => h) (Or.inl ⟨by rfl, ?_⟩) ?_ ?_
                                              rotate_left
                                              · intro w'
                                                go_simp
                                                with_reducible rfl
                                              rotate_left
                                              · simp only [Act.put, List.setIfInBounds_toArray, List.set_cons_zero, List.set_cons_succ, i64_w, i32_w]
                                                rfl
                                              refine pure_ (i := 13) (N := some 90) (v := ?_) (a' := ?_) #[true, true, true, true, true, true, true, true, true, true, true, true, true, true, false, false, false, false, false, false, false, false] rfl rfl (any_of HT_.out (by kernel_rfl)) (fun _ _ _ h => h) (Or.inl ⟨by rfl, ?_⟩) ?_ ?_
                                              rotate_left
                                              · intro w'
                                                go_simp
                                                with_reducible rfl
                                              rotate_left
                                              · simp only [Act.put, List.setIfInBounds_toArray, List.set_cons_zero, List.set_cons_succ, i64_w, i32_w]
                                                rfl
                                              refine pure_ (i := 15) (N := some 92) (v := ?_) (a' := ?_) #[true, true, true, true, true, true, true, true, true, true, true, true, true, true, false, true, false, false, false, false, false, false] rfl rfl (any_of HT_.out (by kernel_rfl)) (fun _ _ _ h => h) (Or.inl ⟨by rfl, ?_⟩) ?_ ?_
                                              rotate_left
                                              · intro w'
                                                go_simp
                                                with_reducible rfl
                                              rotate_left
                                              · simp only [Act.put, List.setIfInBounds_toArray, List.set_cons_zero, List.set_cons_succ, i64_w, i32_w]
                                                rfl
                                              refine pure_ (i := 16) (N := some 93) (v := ?_) (a' := ?_) #[true, true, true, true, true, true, true, true, true, true, true, true, true, true, false, true, true, false, false, false, false, false] rfl rfl (any_of HT_.out (by kernel_rfl)) (fun _ _ _ h => h) (Or.inl ⟨by rfl, ?_⟩) ?_ ?_
                                              rotate_left
                                              · intro w'
                                                go_simp
                                                with_reducible rfl
                                              rotate_left
                                              · simp only [Act.put, List.setIfInBounds_toArray, List.set_cons_zero, List.set_cons_succ, i64_w, i32_w]
                                                rfl
                                              refine pure_ (i := 17) (N := some 94) (v := ?_) (a' := ?_) #[true, true, true, true, true, true, true, true, true, true, true, true, true, true, false, true, true, true, false, false, false, false] rfl rfl (any_of HT_.out (by kernel_rfl)) (fun _ _ _ h => h) (Or.inl ⟨by rfl, ?_⟩) ?_ ?_
                                              rotate_left
                                              · intro w'
                                                go_simp
                                                with_reducible rfl
                                              rotate_left
                                              · simp only [Act.put, List.setIfInBounds_toArray, List.set_cons_zero, List.set_cons_succ, i64_w, i32_w]
                                                rfl
                                              refine take_ (i := 14) (N := some 91) (v := ?_) (a' := ?_) #[true, true, true, true, true, true, true, true, true, true, true, true, true, true, true, true, true, true, false, false, false, false] rfl rfl (take_ofW HT_.out HW_.out (by kernel_rfl)) (fun _ _ _ h => h) (Or.inl ⟨by rfl, ?_⟩) hHeld ?_ ?_
                                              rotate_left
                                              · rintro w' ⟨s0, s1, s2, s3, s4, s5, s6, s7, s8, s9, s10, s11, s12, s13, s14, s15⟩
                                                go_simp
                                                with_reducible rfl
                                              rotate_left
                                              · simp only [Act.put, List.setIfInBounds_toArray, List.set_cons_zero, List.set_cons_succ, i64_w, i32_w]
                                                rfl
                                              refine take_ (i := 18) (N := some 95) (v := ?_) (a' := ?_) #[true, true, true, true, true, true, true, true, true, true, true, true, true, true, true, true, true, true, true, false, false, false] rfl rfl (take_ofW HT_.out HW_.out (by kernel_rfl)) (fun _ _ _ h => h) (Or.inl ⟨by rfl, ?_⟩) hHeld ?_ ?_
                                              rotate_left
                                              · rintro w' ⟨s0, s1, s2, s3, s4, s5, s6, s7, s8, s9, s10, s11, s12, s13, s14, s15⟩
                                                go_simp
                                                with_reducible rfl
                                              rotate_left
                                              · simp only [Act.put, List.setIfInBounds_toArray, List.set_cons_zero, List.set_cons_succ, i64_w, i32_w]
                                                rfl
                                              refine one_ (i := 19) (N := some 96) #[true, true, true, true, true, true, true, true, true, true, true, true, true, true, true, true, true, true, true, true, false, false] rfl rfl (one_of HT_.out (by kernel_rfl)) (by decide) (fun K hK => ?_)
                                              refine goes_ Try.func34 (by kernel_rfl) rfl #[.agg #[.int .i64 ((rd_T46 t130 x12_4).f0), .bool ((rd_T46 t130 x12_4).f1), .slice A136_2 ((rd_T46 t130 x12_4).f2).length c136_2, .slice A136_3 ((rd_T46 t130 x12_4).f3).length c136_3], .agg #[.int .i64 ((rd_T46 t116 x12_4).f0), .bool ((rd_T46 t116 x12_4).f1), .slice A137_2 ((rd_T46 t116 x12_4).f2).length c137_2, .slice A137_3 ((rd_T46 t116 x12_4).f3).length c137_3]] (by rfl) rfl rfl (by (try simp only [List.map_toArray, List.map_cons, List.map_nil]); first | done | rfl | (simp only [List.length_drop, List.length_take]; rfl) | ((try rw [Ny119.out]); (try rw [Ny126.out]); rfl)) ?_
                                              with_reducible refine (laws_treeSame.calls k4 ((rd_T46 t130 x12_4).f0) ((rd_T46 t130 x12_4).f1) _ _ ((rd_T46 t130 x12_4).f2) _ _ ((rd_T46 t130 x12_4).f3) ((rd_T46 t116 x12_4).f0) ((rd_T46 t116 x12_4).f1) _ _ ((rd_T46 t116 x12_4).f2) _ _ ((rd_T46 t116 x12_4).f3) true _ ?side1 ?side2 ?side3 ?side4 ?side5 ?side6 ?side7 ?side8 A44.out).mono ?_
                                              (case side1 => repeat (first | exact (by repeat (first | (with_reducible exact HR136_2.out) | (with_reducible refine Kd.C_alloc ?_ _) | (with_reducible refine Kd.C_drewN ?_ _) | (with_reducible refine Kd.C_drew ?_) | exact HR136_2.out)) | (with_reducible refine Kd.C_alloc ?_ _) | (with_reducible refine Kd.C_drewN ?_ _) | (with_reducible refine Kd.C_drew ?_)))
                                              (case side2 => exact HC136_2.out)
                                              (case side3 => repeat (first | exact (by repeat (first | (with_reducible exact HR136_3.out) | (with_reducible refine Kd.C_alloc ?_ _) | (with_reducible refine Kd.C_drewN ?_ _) | (with_reducible refine Kd.C_drew ?_) | exact HR136_3.out)) | (with_reducible refine Kd.C_alloc ?_ _) | (with_reducible refine Kd.C_drewN ?_ _) | (with_reducible refine Kd.C_drew ?_)))
                                              (case side4 => exact HC136_3.out)
                                              (case side5 => repeat (first | exact (by repeat (first | (with_reducible exact HR137_2.out) | (with_reducible refine Kd.C_alloc ?_ _) | (with_reducible refine Kd.C_drewN ?_ _) | (with_reducible refine Kd.C_drew ?_) | exact HR137_2.out)) | (with_reducible refine Kd.C_alloc ?_ _) | (with_reducible refine Kd.C_drewN ?_ _) | (with_reducible refine Kd.C_drew ?_)))
                                              (case side6 => exact HC137_2.out)
                                              (case side7 => repeat (first | exact (by repeat (first | (with_reducible exact HR137_3.out) | (with_reducible refine Kd.C_alloc ?_ _) | (with_reducible refine Kd.C_drewN ?_ _) | (with_reducible refine Kd.C_drew ?_) | exact HR137_3.out)) | (with_reducible refine Kd.C_alloc ?_ _) | (with_reducible refine Kd.C_drewN ?_ _) | (with_reducible refine Kd.C_drew ?_)))
                                              (case side8 => exact HC137_3.out)
                                              rintro e w52 ⟨rfl, hb⟩
                                              have HS0_ := (hb.cell (World.block_lt_of_cell? _ _ (hHeld.1))).trans (hHeld.1)
                                              have HS1_ := (hb.cell (World.block_lt_of_cell? _ _ (hHeld.2.1))).trans (hHeld.2.1)
                                              have HS2_ := (hb.cell (World.block_lt_of_cell? _ _ (hHeld.2.2.1))).trans (hHeld.2.2.1)
                                              have HS3_ := (hb.cell (World.block_lt_of_cell? _ _ (hHeld.2.2.2.1))).trans (hHeld.2.2.2.1)
                                              have HS4_ := (hb.cell (World.block_lt_of_cell? _ _ (hHeld.2.2.2.2.1))).trans (hHeld.2.2.2.2.1)
                                              have HS5_ := (hb.cell (World.block_lt_of_cell? _ _ (hHeld.2.2.2.2.2.1))).trans (hHeld.2.2.2.2.2.1)
                                              have HS6_ := (hb.cell (World.block_lt_of_cell? _ _ (hHeld.2.2.2.2.2.2.1))).trans (hHeld.2.2.2.2.2.2.1)
                                              have HS7_ := (hb.cell (World.block_lt_of_cell? _ _ (hHeld.2.2.2.2.2.2.2.1))).trans (hHeld.2.2.2.2.2.2.2.1)
                                              have HS8_ := (hb.cell (World.block_lt_of_cell? _ _ (hHeld.2.2.2.2.2.2.2.2.1))).trans (hHeld.2.2.2.2.2.2.2.2.1)
                                              have HS9_ := (hb.cell (World.block_lt_of_cell? _ _ (hHeld.2.2.2.2.2.2.2.2.2.1))).trans (hHeld.2.2.2.2.2.2.2.2.2.1)
                                              have HS10_ := (hb.cell (World.block_lt_of_cell? _ _ (hHeld.2.2.2.2.2.2.2.2.2.2.1))).trans (hHeld.2.2.2.2.2.2.2.2.2.2.1)
                                              have HS11_ := (hb.cell (World.block_lt_of_cell? _ _ (hHeld.2.2.2.2.2.2.2.2.2.2.2.1))).trans (hHeld.2.2.2.2.2.2.2.2.2.2.2.1)
                                              have HS12_ := (hb.cell (World.block_lt_of_cell? _ _ (hHeld.2.2.2.2.2.2.2.2.2.2.2.2.1))).trans (hHeld.2.2.2.2.2.2.2.2.2.2.2.2.1)
                                              have HS13_ := (hb.cell (World.block_lt_of_cell? _ _ (hHeld.2.2.2.2.2.2.2.2.2.2.2.2.2.1))).trans (hHeld.2.2.2.2.2.2.2.2.2.2.2.2.2.1)
                                              have HS14_ := (hb.cell (World.block_lt_of_cell? _ _ (hHeld.2.2.2.2.2.2.2.2.2.2.2.2.2.2.1))).trans (hHeld.2.2.2.2.2.2.2.2.2.2.2.2.2.2.1)
                                              have HS15_ := (hb.cell (World.block_lt_of_cell? _ _ (hHeld.2.2.2.2.2.2.2.2.2.2.2.2.2.2.2))).trans (hHeld.2.2.2.2.2.2.2.2.2.2.2.2.2.2.2)
                                              refine ⟨_, rfl, ?_⟩
                                              have n0_ := Aside0.mk (Kd.S_below (by (with_reducible repeat (first | apply Kd.S_alloc | apply Kd.S_drewN | apply Kd.S_drew)); exact HO_8.out) hb)
                                              have n1_ := Aside0.mk (Kd.S_below (by (with_reducible repeat (first | apply Kd.S_alloc | apply Kd.S_drewN | apply Kd.S_drew)); exact HO_9.out) hb)
                                              have n2_ := Aside0.mk (Kd.S_below (by (with_reducible repeat (first | apply Kd.S_alloc | apply Kd.S_drewN | apply Kd.S_drew)); exact HO_10.out) hb)
                                              have n3_ := Aside0.mk (Kd.S_below (by (with_reducible repeat (first | apply Kd.S_alloc | apply Kd.S_drewN | apply Kd.S_drew)); exact HO_11.out) hb)
                                              have n4_ := Aside0.mk (Kd.R_below (by (with_reducible repeat (first | apply Kd.R_alloc | apply Kd.R_drewN | apply Kd.R_drew)); exact HL133_2.out) hb)
                                              have n5_ := Aside0.mk (Kd.R_below (by (with_reducible repeat (first | apply Kd.R_alloc | apply Kd.R_drewN | apply Kd.R_drew)); exact HL133_3.out) hb)
                                              have n6_ := Aside0.mk (Kd.R_below (by (with_reducible repeat (first | apply Kd.R_alloc | apply Kd.R_drewN | apply Kd.R_drew)); exact HL134_2.out) hb)
                                              have n7_ := Aside0.mk (Kd.R_below (by (with_reducible repeat (first | apply Kd.R_alloc | apply Kd.R_drewN | apply Kd.R_drew)); exact HL134_3.out) hb)
                                              have n8_ := Aside0.mk (Kd.R_below (by (with_reducible repeat (first | apply Kd.R_alloc | apply Kd.R_drewN | apply Kd.R_drew)); exact HL136_2.out) hb)
                                              have n9_ := Aside0.mk (Kd.R_below (by (with_reducible repeat (first | apply Kd.R_alloc | apply Kd.R_drewN | apply Kd.R_drew)); exact HL136_3.out) hb)
                                              have n10_ := Aside0.mk (Kd.R_below (by (with_reducible repeat (first | apply Kd.R_alloc | apply Kd.R_drewN | apply Kd.R_drew)); exact HL137_2.out) hb)
                                              have n11_ := Aside0.mk (Kd.R_below (by (with_reducible repeat (first | apply Kd.R_alloc | apply Kd.R_drewN | apply Kd.R_drew)); exact HL137_3.out) hb)
                                              have n12_ := Aside0.mk (Kd.C_below (by repeat (first | (with_reducible exact HR133_2.out) | (with_reducible refine Kd.C_alloc ?_ _) | (with_reducible refine Kd.C_drewN ?_ _) | (with_reducible refine Kd.C_drew ?_) | exact HR133_2.out)) hb)
                                              have n13_ := Aside0.mk (Kd.C_below (by repeat (first | (with_reducible exact HR133_3.out) | (with_reducible refine Kd.C_alloc ?_ _) | (with_reducible refine Kd.C_drewN ?_ _) | (with_reducible refine Kd.C_drew ?_) | exact HR133_3.out)) hb)
                                              have n14_ := Aside0.mk (Kd.C_below (by repeat (first | (with_reducible exact HR134_2.out) | (with_reducible refine Kd.C_alloc ?_ _) | (with_reducible refine Kd.C_drewN ?_ _) | (with_reducible refine Kd.C_drew ?_) | exact HR134_2.out)) hb)
                                              have n15_ := Aside0.mk (Kd.C_below (by repeat (first | (with_reducible exact HR134_3.out) | (with_reducible refine Kd.C_alloc ?_ _) | (with_reducible refine Kd.C_drewN ?_ _) | (with_reducible refine Kd.C_drew ?_) | exact HR134_3.out)) hb)
                                              have n16_ := Aside0.mk (Kd.C_below (by repeat (first | (with_reducible exact HR136_2.out) | (with_reducible refine Kd.C_alloc ?_ _) | (with_reducible refine Kd.C_drewN ?_ _) | (with_reducible refine Kd.C_drew ?_) | exact HR136_2.out)) hb)
                                              have n17_ := Aside0.mk (Kd.C_below (by repeat (first | (with_reducible exact HR136_3.out) | (with_reducible refine Kd.C_alloc ?_ _) | (with_reducible refine Kd.C_drewN ?_ _) | (with_reducible refine Kd.C_drew ?_) | exact HR136_3.out)) hb)
                                              have n18_ := Aside0.mk (Kd.C_below (by repeat (first | (with_reducible exact HR137_2.out) | (with_reducible refine Kd.C_alloc ?_ _) | (with_reducible refine Kd.C_drewN ?_ _) | (with_reducible refine Kd.C_drew ?_) | exact HR137_2.out)) hb)
                                              have n19_ := Aside0.mk (Kd.C_below (by repeat (first | (with_reducible exact HR137_3.out) | (with_reducible refine Kd.C_alloc ?_ _) | (with_reducible refine Kd.C_drewN ?_ _) | (with_reducible refine Kd.C_drew ?_) | exact HR137_3.out)) hb)
                                              have n20_ := Aside0.mk (below_step (by repeat (first | (with_reducible first | exact HB.out | apply below_alloc | apply pw_below_drewN | apply below_drew1) | exact HB.out)) hb)
                                              clear HO_8
                                              clear HO_9
                                              clear HO_10
                                              clear HO_11
                                              clear HL133_2
                                              clear HL133_3
                                              clear HL134_2
                                              clear HL134_3
                                              clear HL136_2
                                              clear HL136_3
                                              clear HL137_2
                                              clear HL137_3
                                              clear HR133_2
                                              clear HR133_3
                                              clear HR134_2
                                              clear HR134_3
                                              clear HR136_2
                                              clear HR136_3
                                              clear HR137_2
                                              clear HR137_3
                                              clear HB
                                              have HO_8 := n0_
                                              have HO_9 := n1_
                                              have HO_10 := n2_
                                              have HO_11 := n3_
                                              have HL133_2 := n4_
                                              have HL133_3 := n5_
                                              have HL134_2 := n6_
                                              have HL134_3 := n7_
                                              have HL136_2 := n8_
                                              have HL136_3 := n9_
                                              have HL137_2 := n10_
                                              have HL137_3 := n11_
                                              have HR133_2 := n12_
                                              have HR133_3 := n13_
                                              have HR134_2 := n14_
                                              have HR134_3 := n15_
                                              have HR136_2 := n16_
                                              have HR136_3 := n17_
                                              have HR137_2 := n18_
                                              have HR137_3 := n19_
                                              have HB := n20_
                                              clear n0_ n1_ n2_ n3_ n4_ n5_ n6_ n7_ n8_ n9_ n10_ n11_ n12_ n13_ n14_ n15_ n16_ n17_ n18_ n19_ n20_
                                              (try clear hb)
                                              (try clear hb2)
                                              (try clear hk)
                                              (try clear hi)
                                              refine hK.out _ _ ⟨HS0_, HS1_, HS2_, HS3_, HS4_, HS5_, HS6_, HS7_, HS8_, HS9_, HS10_, HS11_, HS12_, HS13_, HS14_, HS15_⟩ (fun hHeld => ?_)
                                              clear hK K
                                              refine norm_ (a' := ?_) ?_ ?_
                                              rotate_left
                                              · show Act.put _ (some 96) _ = _
                                                simp only [Act.put, List.setIfInBounds_toArray, List.set_cons_zero, List.set_cons_succ, i64_w, i32_w]
                                                rfl
                                              refine pure_ (i := 20) (N := some 97) (v := ?_) (a' := ?_) #[true, true, true, true, true, true, true, true, true, true, true, true, true, true, true, true, true, true, true, true, true, false] rfl rfl (any_of HT_.out (by kernel_rfl)) (fun _ _ _ h => h) (Or.inl ⟨by rfl, ?_⟩) ?_ ?_
                                              rotate_left
                                              · intro w'
                                                go_simp
                                                with_reducible rfl
                                              rotate_left
                                              · simp only [Act.put, List.setIfInBounds_toArray, List.set_cons_zero, List.set_cons_succ, i64_w, i32_w]
                                                rfl
                                              refine pure_ (i := 21) (N := some 98) (v := ?_) (a' := ?_) #[true, true, true, true, true, true, true, true, true, true, true, true, true, true, true, true, true, true, true, true, true, true] rfl rfl (any_of HT_.out (by kernel_rfl)) (fun _ _ _ h => h) (Or.inl ⟨by rfl, ?_⟩) ?_ ?_
                                              rotate_left
                                              · intro w'
                                                go_simp
                                                with_reducible rfl
                                              rotate_left
                                              · simp only [Act.put, List.setIfInBounds_toArray, List.set_cons_zero, List.set_cons_succ, i64_w, i32_w]
                                                rfl
                                              refine done_ (done_of HT_.out (by kernel_rfl)) ?_
                                              try go_wp2
                                              go_roundg k4
                                              case measure => have := HJ3.out; have := HJ9.out; have := HJ24.out; have := HK4.out; omega
                                              case rel => exact ⟨(wrap64 (x12_4 + 1)), (by first | rfl | (simp; done) | (simp [*]; done)), H', ⟨by have := HJ3.out; have := HJ9.out; have := HJ24.out; have := HK4.out; omega⟩, ⟨by (with_reducible repeat (first | apply Kd.S_alloc | apply Kd.S_drewN | apply Kd.S_drew)); exact HO_8.out⟩, ⟨by (with_reducible repeat (first | apply Kd.S_alloc | apply Kd.S_drewN | apply Kd.S_drew)); exact HO_9.out⟩, ⟨by (with_reducible repeat (first | apply Kd.S_alloc | apply Kd.S_drewN | apply Kd.S_drew)); exact HO_10.out⟩, ⟨by (with_reducible repeat (first | apply Kd.S_alloc | apply Kd.S_drewN | apply Kd.S_drew)); exact HO_11.out⟩, ⟨by repeat (first | (with_reducible first | exact HB.out | apply below_alloc | apply pw_below_drewN | apply below_drew1) | exact HB.out)⟩⟩
                                            · replace c45 := Bool.eq_false_iff.mpr c45
                                              subst c45
                                              have H1 : (none) = some r := by rw [if_neg (show ¬ (false = true) by decide)] at H; exact H
                                              exact absurd H1 (by simp)
                                          · rw [if_neg c43] at H
                                            exact absurd H (by simp)
                                        · rw [if_neg c42] at H
                                          exact absurd H (by simp)
                                      · replace c41 := Bool.eq_false_iff.mpr c41
                                        subst c41
                                        have H1 : (none) = some r := by rw [if_neg (show ¬ (false = true) by decide)] at H; exact H
                                        exact absurd H1 (by simp)
                                    · rw [if_neg c39] at H
                                      exact absurd H (by simp)
                                  · rw [if_neg c38] at H
                                    exact absurd H (by simp)
                                · rw [if_neg c37] at H
                                  exact absurd H (by simp)
                              · rw [if_neg c36] at H
                                have c36b0 : decide (x12_4 < (ji18)) = false := decide_eq_false c36
                                clear c36
                                obtain rfl := Option.some.inj H
                                go_wp2
                                go_ret
                                exact ⟨by first | rfl | (simp [errW_none, errW_some] <;> rfl) | (simp only [← hji18]; first | rfl | (simp [errW_none, errW_some] <;> rfl)) | (simp [*, errW_none, errW_some] <;> rfl), by repeat (first | (with_reducible first | exact HB.out | apply below_alloc | apply pw_below_drewN | apply below_drew1) | exact HB.out)⟩
                  · rw [if_neg c20] at H
                    exact absurd H (by simp)
                · rw [if_neg c19] at H
                  exact absurd H (by simp)

end Go.Proofs.Ytjlcebgfknfelaa.QFnTreesBegin
