/- The machine's side of a law, as the kit's print writes it; of the functions that the print doesn't cover this session's own contracts stand in it: no condition. -/
import Derived.Test.YtmhnhfmkcipcpaaQFnHeapTreex0
import Derived.Test.YtmhnhfmkcipcpaaQFnHeapTreex1
namespace Go.Proofs.Ytmhnhfmkcipcpaa.QFnHeapTree
open Go.RowKit Go.Proofs.YtmhnhfmkcipcpaaW.PrintWords Go.Proofs.YtmhnhfmkcipcpaaW.PrintLast Go.Proofs.YtmhnhfmkcipcpaaW.PrintMore
attribute [local go_sem] max2_int min2_int max_two min_two max_three min_three max_four min_four   -- for this text's walks alone
set_option linter.unusedVariables false
set_option linter.unusedSimpArgs false

/-! ### laws_FnHeapTree: function 7 -/
mutual
def laws_FnHeapTree.j0 : Nat → List Int → Int → List Int → List (S27) → Bool → Option (Bool)
  | 0, _, _, _, _, _ => none
  | k + 1, x0, x1, x2, x3, x26 => if x26 = true then (some true) else ((some (([] : List Int) : List Int)).bind fun y129 => (if y129.length + x2.length < 17592186044416 then ((impl_HeapRun.f x0 x1 x2 x3).bind fun t135 => (if (t135.length : Int) = (x3.length : Int) then (laws_FnHeapTree.l0 k x0 x1 x2 x3 (y129 ++ x2) t135 0) else (some false))) else (none)))
def laws_FnHeapTree.l0 : Nat → List Int → Int → List Int → List (S27) → List Int → List (S34) → Int → Option (Bool)
  | 0, _, _, _, _, _, _, _ => none
  | k + 1, x0, x1, x2, x3, x9, x10, x11 => if x11 < (x3.length : Int) then (if 0 ≤ x11 then (if ((rd_T27 x3 x11).f1) = 0 then (if x9.length < 17592186044416 then (laws_FnHeapTree.j2 k x0 x1 x2 x3 (x9 ++ [(rd_T27 x3 x11).f2]) x10 x11) else (none)) else (laws_FnHeapTree.j2 k x0 x1 x2 x3 x9 x10 x11)) else (none)) else ((impl_HeapData.f x0 x1 x2 x3).bind fun t164 => ((spec_BagRows.f k ([] : List Int) t164 x9).bind fun t167 => (if t167 = true then ((laws_heapTree.f k x0 t164).bind fun t168 => (if t168 = true then ((impl_HeapData.f x0 x1 (([3] : List Int)) ([] : List (S27))).bind fun t172 => (some ((t172.length : Int) == 1))) else (some false))) else (some false))))
def laws_FnHeapTree.j2 : Nat → List Int → Int → List Int → List (S27) → List Int → List (S34) → Int → Option (Bool)
  | 0, _, _, _, _, _, _, _ => none
  | k + 1, x0, x1, x2, x3, x9, x10, x11 => if 0 ≤ x11 then (if x11 < (x3.length : Int) then (if ((rd_T27 x3 x11).f1) = 1 then (if x11 < (x10.length : Int) then (laws_FnHeapTree.j3 k x0 x1 x2 x3 x9 x10 x11 ((rd_T34 x10 x11).f1)) else (none)) else (laws_FnHeapTree.j3 k x0 x1 x2 x3 x9 x10 x11 false)) else (none)) else (none)
def laws_FnHeapTree.j3 : Nat → List Int → Int → List Int → List (S27) → List Int → List (S34) → Int → Bool → Option (Bool)
  | 0, _, _, _, _, _, _, _, _ => none
  | k + 1, x0, x1, x2, x3, x9, x10, x11, x72 => if x72 = true then (laws_FnHeapTree.l1 k x0 x1 x2 x3 x9 x10 x11 0) else (laws_FnHeapTree.l0 k x0 x1 x2 x3 x9 x10 (wrap64 (x11 + 1)))
def laws_FnHeapTree.l1 : Nat → List Int → Int → List Int → List (S27) → List Int → List (S34) → Int → Int → Option (Bool)
  | 0, _, _, _, _, _, _, _, _ => none
  | k + 1, x0, x1, x2, x3, x9, x10, x11, x12 => if x12 < (x9.length : Int) then (if 0 ≤ x12 then (if 0 ≤ x11 then (if x11 < (x10.length : Int) then (if (rd x9 x12) = ((rd_T34 x10 x11).f0) then ((some (([] : List Int) : List Int)).bind fun y147 => (if x12 ≤ (x9.length : Int) then ((some (x9.take (x12 : Int).toNat : List Int)).bind fun y150 => (if y147.length + y150.length < 17592186044416 then ((some (y147 ++ y150 : List Int)).bind fun y154 => (if 0 ≤ (wrap64 (x12 + 1)) then (if (wrap64 (x12 + 1)) ≤ (x9.length : Int) then ((some (x9.drop ((wrap64 (x12 + 1)) : Int).toNat : List Int)).bind fun y157 => (if y154.length + y157.length < 17592186044416 then (laws_FnHeapTree.l0 k x0 x1 x2 x3 (y154 ++ y157) x10 (wrap64 (x11 + 1))) else (none))) else (none)) else (none))) else (none))) else (none))) else (laws_FnHeapTree.l1 k x0 x1 x2 x3 x9 x10 x11 (wrap64 (x12 + 1)))) else (none)) else (none)) else (none)) else (laws_FnHeapTree.l0 k x0 x1 x2 x3 x9 x10 (wrap64 (x11 + 1)))
end
def laws_FnHeapTree.f (k : Nat) (l0 : List Int) (a1 : Int) (l2 : List Int) (l3 : List (S27)) : Option (Bool) := if (l0.length : Int) > 2147483647 then (laws_FnHeapTree.j0 k l0 a1 l2 l3 true) else (if (l2.length : Int) > 2147483647 then (laws_FnHeapTree.j0 k l0 a1 l2 l3 true) else (laws_FnHeapTree.j0 k l0 a1 l2 l3 (decide ((l3.length : Int) > 2147483647))))
theorem laws_FnHeapTree.mono_l : ∀ k, (∀ y0 y1 y2 y3 y4, LeO (laws_FnHeapTree.j0 k y0 y1 y2 y3 y4) (laws_FnHeapTree.j0 (k + 1) y0 y1 y2 y3 y4)) ∧ (∀ y0 y1 y2 y3 y4 y5 y6, LeO (laws_FnHeapTree.l0 k y0 y1 y2 y3 y4 y5 y6) (laws_FnHeapTree.l0 (k + 1) y0 y1 y2 y3 y4 y5 y6)) ∧ (∀ y0 y1 y2 y3 y4 y5 y6, LeO (laws_FnHeapTree.j2 k y0 y1 y2 y3 y4 y5 y6) (laws_FnHeapTree.j2 (k + 1) y0 y1 y2 y3 y4 y5 y6)) ∧ (∀ y0 y1 y2 y3 y4 y5 y6 y7, LeO (laws_FnHeapTree.j3 k y0 y1 y2 y3 y4 y5 y6 y7) (laws_FnHeapTree.j3 (k + 1) y0 y1 y2 y3 y4 y5 y6 y7)) ∧ (∀ y0 y1 y2 y3 y4 y5 y6 y7, LeO (laws_FnHeapTree.l1 k y0 y1 y2 y3 y4 y5 y6 y7) (laws_FnHeapTree.l1 (k + 1) y0 y1 y2 y3 y4 y5 y6 y7))
  | 0 => ⟨fun _ _ _ _ _ r h => by simp [laws_FnHeapTree.j0] at h, fun _ _ _ _ _ _ _ r h => by simp [laws_FnHeapTree.l0] at h, fun _ _ _ _ _ _ _ r h => by simp [laws_FnHeapTree.j2] at h, fun _ _ _ _ _ _ _ _ r h => by simp [laws_FnHeapTree.j3] at h, fun _ _ _ _ _ _ _ _ r h => by simp [laws_FnHeapTree.l1] at h⟩
  | k + 1 => by
    obtain ⟨ih0, ih1, ih2, ih3, ih4⟩ := laws_FnHeapTree.mono_l k
    refine ⟨?_, ?_, ?_, ?_, ?_⟩
    · intro y0 y1 y2 y3 y4
      unfold laws_FnHeapTree.j0
      repeat' first
      | (with_reducible exact ih0 _ _ _ _ _)
      | (with_reducible exact ih1 _ _ _ _ _ _ _)
      | (with_reducible exact ih2 _ _ _ _ _ _ _)
      | (with_reducible exact ih3 _ _ _ _ _ _ _ _)
      | (with_reducible exact ih4 _ _ _ _ _ _ _ _)
      | (with_reducible exact laws_heapTree.mono _ _ _)
      | (with_reducible exact spec_BagRows.mono _ _ _ _)
      | (with_reducible exact LeO.refl _)
      | (with_reducible exact LeO.none _)
      | (with_reducible refine LeO.ite ?_ ?_)
      | (with_reducible refine LeO.bind ?_ (fun _ => ?_))
      | exact ih0 _ _ _ _ _
      | exact ih1 _ _ _ _ _ _ _
      | exact ih2 _ _ _ _ _ _ _
      | exact ih3 _ _ _ _ _ _ _ _
      | exact ih4 _ _ _ _ _ _ _ _
      | exact laws_heapTree.mono _ _ _
      | exact spec_BagRows.mono _ _ _ _
      | exact LeO.none _
      | refine LeO.ite ?_ ?_
      | refine LeO.bind ?_ (fun _ => ?_)
    · intro y0 y1 y2 y3 y4 y5 y6
      unfold laws_FnHeapTree.l0
      repeat' first
      | (with_reducible exact ih0 _ _ _ _ _)
      | (with_reducible exact ih1 _ _ _ _ _ _ _)
      | (with_reducible exact ih2 _ _ _ _ _ _ _)
      | (with_reducible exact ih3 _ _ _ _ _ _ _ _)
      | (with_reducible exact ih4 _ _ _ _ _ _ _ _)
      | (with_reducible exact laws_heapTree.mono _ _ _)
      | (with_reducible exact spec_BagRows.mono _ _ _ _)
      | (with_reducible exact LeO.refl _)
      | (with_reducible exact LeO.none _)
      | (with_reducible refine LeO.ite ?_ ?_)
      | (with_reducible refine LeO.bind ?_ (fun _ => ?_))
      | exact ih0 _ _ _ _ _
      | exact ih1 _ _ _ _ _ _ _
      | exact ih2 _ _ _ _ _ _ _
      | exact ih3 _ _ _ _ _ _ _ _
      | exact ih4 _ _ _ _ _ _ _ _
      | exact laws_heapTree.mono _ _ _
      | exact spec_BagRows.mono _ _ _ _
      | exact LeO.none _
      | refine LeO.ite ?_ ?_
      | refine LeO.bind ?_ (fun _ => ?_)
    · intro y0 y1 y2 y3 y4 y5 y6
      unfold laws_FnHeapTree.j2
      repeat' first
      | (with_reducible exact ih0 _ _ _ _ _)
      | (with_reducible exact ih1 _ _ _ _ _ _ _)
      | (with_reducible exact ih2 _ _ _ _ _ _ _)
      | (with_reducible exact ih3 _ _ _ _ _ _ _ _)
      | (with_reducible exact ih4 _ _ _ _ _ _ _ _)
      | (with_reducible exact laws_heapTree.mono _ _ _)
      | (with_reducible exact spec_BagRows.mono _ _ _ _)
      | (with_reducible exact LeO.refl _)
      | (with_reducible exact LeO.none _)
      | (with_reducible refine LeO.ite ?_ ?_)
      | (with_reducible refine LeO.bind ?_ (fun _ => ?_))
      | exact ih0 _ _ _ _ _
      | exact ih1 _ _ _ _ _ _ _
      | exact ih2 _ _ _ _ _ _ _
      | exact ih3 _ _ _ _ _ _ _ _
      | exact ih4 _ _ _ _ _ _ _ _
      | exact laws_heapTree.mono _ _ _
      | exact spec_BagRows.mono _ _ _ _
      | exact LeO.none _
      | refine LeO.ite ?_ ?_
      | refine LeO.bind ?_ (fun _ => ?_)
    · intro y0 y1 y2 y3 y4 y5 y6 y7
      unfold laws_FnHeapTree.j3
      repeat' first
      | (with_reducible exact ih0 _ _ _ _ _)
      | (with_reducible exact ih1 _ _ _ _ _ _ _)
      | (with_reducible exact ih2 _ _ _ _ _ _ _)
      | (with_reducible exact ih3 _ _ _ _ _ _ _ _)
      | (with_reducible exact ih4 _ _ _ _ _ _ _ _)
      | (with_reducible exact laws_heapTree.mono _ _ _)
      | (with_reducible exact spec_BagRows.mono _ _ _ _)
      | (with_reducible exact LeO.refl _)
      | (with_reducible exact LeO.none _)
      | (with_reducible refine LeO.ite ?_ ?_)
      | (with_reducible refine LeO.bind ?_ (fun _ => ?_))
      | exact ih0 _ _ _ _ _
      | exact ih1 _ _ _ _ _ _ _
      | exact ih2 _ _ _ _ _ _ _
      | exact ih3 _ _ _ _ _ _ _ _
      | exact ih4 _ _ _ _ _ _ _ _
      | exact laws_heapTree.mono _ _ _
      | exact spec_BagRows.mono _ _ _ _
      | exact LeO.none _
      | refine LeO.ite ?_ ?_
      | refine LeO.bind ?_ (fun _ => ?_)
    · intro y0 y1 y2 y3 y4 y5 y6 y7
      unfold laws_FnHeapTree.l1
      repeat' first
      | (with_reducible exact ih0 _ _ _ _ _)
      | (with_reducible exact ih1 _ _ _ _ _ _ _)
      | (with_reducible exact ih2 _ _ _ _ _ _ _)
      | (with_reducible exact ih3 _ _ _ _ _ _ _ _)
      | (with_reducible exact ih4 _ _ _ _ _ _ _ _)
      | (with_reducible exact laws_heapTree.mono _ _ _)
      | (with_reducible exact spec_BagRows.mono _ _ _ _)
      | (with_reducible exact LeO.refl _)
      | (with_reducible exact LeO.none _)
      | (with_reducible refine LeO.ite ?_ ?_)
      | (with_reducible refine LeO.bind ?_ (fun _ => ?_))
      | exact ih0 _ _ _ _ _
      | exact ih1 _ _ _ _ _ _ _
      | exact ih2 _ _ _ _ _ _ _
      | exact ih3 _ _ _ _ _ _ _ _
      | exact ih4 _ _ _ _ _ _ _ _
      | exact laws_heapTree.mono _ _ _
      | exact spec_BagRows.mono _ _ _ _
      | exact LeO.none _
      | refine LeO.ite ?_ ?_
      | refine LeO.bind ?_ (fun _ => ?_)
theorem laws_FnHeapTree.mono : ∀ a0 a1 a2 a3 k, LeO (laws_FnHeapTree.f k a0 a1 a2 a3) (laws_FnHeapTree.f (k + 1) a0 a1 a2 a3) := by
  intro a0 a1 a2 a3 k
  obtain ⟨ih0, ih1, ih2, ih3, ih4⟩ := laws_FnHeapTree.mono_l k
  unfold laws_FnHeapTree.f
  repeat' first
      | (with_reducible exact ih0 _ _ _ _ _)
      | (with_reducible exact ih1 _ _ _ _ _ _ _)
      | (with_reducible exact ih2 _ _ _ _ _ _ _)
      | (with_reducible exact ih3 _ _ _ _ _ _ _ _)
      | (with_reducible exact ih4 _ _ _ _ _ _ _ _)
      | (with_reducible exact laws_heapTree.mono _ _ _)
      | (with_reducible exact spec_BagRows.mono _ _ _ _)
      | (with_reducible exact LeO.refl _)
      | (with_reducible exact LeO.none _)
      | (with_reducible refine LeO.ite ?_ ?_)
      | (with_reducible refine LeO.bind ?_ (fun _ => ?_))
      | exact ih0 _ _ _ _ _
      | exact ih1 _ _ _ _ _ _ _
      | exact ih2 _ _ _ _ _ _ _
      | exact ih3 _ _ _ _ _ _ _ _
      | exact ih4 _ _ _ _ _ _ _ _
      | exact laws_heapTree.mono _ _ _
      | exact spec_BagRows.mono _ _ _ _
      | exact LeO.none _
      | refine LeO.ite ?_ ?_
      | refine LeO.bind ?_ (fun _ => ?_)
def laws_FnHeapTree.T16 : Bool × List (List Nat × List Nat) := (true, [([], []), ([], []), ([0, 1], [0, 1]), ([2], [2]), ([], []), ([], []), ([4, 5], [4, 5]), ([6], [6]), ([7], [7]), ([3, 8], [3, 8])])
def laws_FnHeapTree.B16 : List Nat := [0, 0, 3, 7, 0, 0, 48, 112, 240, 511]
theorem laws_FnHeapTree.tab16 : rtab .any (opsOf Try.f7 16) = laws_FnHeapTree.T16 := by kernel_rfl
theorem laws_FnHeapTree.bits16 : waitsOk laws_FnHeapTree.T16.2 laws_FnHeapTree.B16 = true := by kernel_rfl
def laws_FnHeapTree.T17 : Bool × List (List Nat × List Nat) := (true, [([], []), ([], []), ([], []), ([1, 2], [1, 2]), ([0, 3], [0, 3]), ([], []), ([], []), ([6], [6]), ([5, 7], [5, 7]), ([4, 8, 4], [4, 8]), ([9, 9, 0, 1, 2, 3, 4, 5, 6, 7, 8, 9], [1, 5, 9])])
def laws_FnHeapTree.B17 : List Nat := [0, 0, 0, 6, 15, 0, 0, 64, 224, 511, 1023]
theorem laws_FnHeapTree.tab17 : rtab .any (opsOf Try.f7 17) = laws_FnHeapTree.T17 := by kernel_rfl
theorem laws_FnHeapTree.bits17 : waitsOk laws_FnHeapTree.T17.2 laws_FnHeapTree.B17 = true := by kernel_rfl
set_option maxHeartbeats 8000000 in
set_option maxRecDepth 100000 in
theorem laws_FnHeapTree.calls (k : Nat) (A0 : Option Addr) (c0 : Nat) (l0 : List Int) (a1 : Int) (A2 : Option Addr) (c2 : Nat) (l2 : List Int) (A3 : Option Addr) (c3 : Nat) (l3 : List (S27)) (r : Bool) (w : World) (hr0 : Kd.C (Kd.int .i64) w A0 l0.length l0) (hc0 : l0.length ≤ c0) (hr2 : Kd.C (Kd.int .i64) w A2 l2.length l2) (hc2 : l2.length ≤ c2) (hr3 : Kd.C k27 w A3 l3.length l3) (hc3 : l3.length ≤ c3) (h : laws_FnHeapTree.f k l0 a1 l2 l3 = some r) :
    Calls Try.prog 7 #[.slice A0 l0.length c0, .int .i64 a1, .slice A2 l2.length c2, .slice A3 l3.length c3] w fun e w' => e = .returned (.bool r) ∧ Below w.heap.size w w' := by
  have HR0 := Aside0.mk hr0
  have HC0 := Aside0.mk hc0
  clear hr0 hc0
  have HR2 := Aside0.mk hr2
  have HC2 := Aside0.mk hc2
  clear hr2 hc2
  have HR3 := Aside0.mk hr3
  have HC3 := Aside0.mk hc3
  clear hr3 hc3
  have HB := Aside0.mk (Below.refl w.heap.size w)
  have H : (if (l0.length : Int) > 2147483647 then (laws_FnHeapTree.j0 k l0 a1 l2 l3 true) else (if (l2.length : Int) > 2147483647 then (laws_FnHeapTree.j0 k l0 a1 l2 l3 true) else (laws_FnHeapTree.j0 k l0 a1 l2 l3 (decide ((l3.length : Int) > 2147483647))))) = some r := h
  clear h
  have HC5 := Aside0.mk H
  clear H
  go_enter Try.func7, Try.ntmps7
  go_upto_region 1 with (fail)
  go_cut [26] (fun v26 wc => ∃ (kq : Nat) (x26_4 : Bool), v26 = .bool x26_4 ∧ Aside0 (laws_FnHeapTree.j0 kq l0 a1 l2 l3 x26_4 = some r) ∧ Aside0 (kq ≤ k) ∧ Aside0 (Below w.heap.size w wc))
  case first =>
    have H := HC5.out
    clear HC5
    by_cases c6 : (l0.length : Int) > 2147483647
    · rw [if_pos c6] at H
      have c6b0 : decide (2147483647 < (l0.length : Int)) = true := decide_eq_true c6
      have c6b1 : decide (2147483647 < l0.length) = true := decide_eq_true (by omega)
      clear c6
      (first | rw [c6b0] | (simp only [i64_w, i32_w]; rw [c6b0]) | skip)
      have H' := Aside0.mk H
      clear H
      go_wp2
      go_meet
      case rel => exact ⟨_, (true), (by first | rfl | (simp; done) | (simp [*]; done)), H', ⟨by first | omega | exact Nat.le_refl _⟩, ⟨by repeat (first | (with_reducible first | exact HB.out | apply below_alloc | apply pw_below_drewN | apply below_drew1) | exact HB.out)⟩⟩
    · rw [if_neg c6] at H
      have c6b0 : decide (2147483647 < (l0.length : Int)) = false := decide_eq_false c6
      have c6b1 : decide (2147483647 < l0.length) = false := decide_eq_false (by omega)
      clear c6
      (first | rw [c6b0] | (simp only [i64_w, i32_w]; rw [c6b0]) | skip)
      by_cases c7 : (l2.length : Int) > 2147483647
      · rw [if_pos c7] at H
        have c7b0 : decide (2147483647 < (l2.length : Int)) = true := decide_eq_true c7
        have c7b1 : decide (2147483647 < l2.length) = true := decide_eq_true (by omega)
        clear c7
        have H' := Aside0.mk H
        clear H
        go_wp2
        go_meet
        case rel => exact ⟨_, (true), (by first | rfl | (simp; done) | (simp [*]; done)), H', ⟨by first | omega | exact Nat.le_refl _⟩, ⟨by repeat (first | (with_reducible first | exact HB.out | apply below_alloc | apply pw_below_drewN | apply below_drew1) | exact HB.out)⟩⟩
      · rw [if_neg c7] at H
        have c7b0 : decide (2147483647 < (l2.length : Int)) = false := decide_eq_false c7
        have c7b1 : decide (2147483647 < l2.length) = false := decide_eq_false (by omega)
        clear c7
        have H' := Aside0.mk H
        clear H
        go_wp2
        go_meet
        case rel => exact ⟨_, (decide ((l3.length : Int) > 2147483647)), (by first | rfl | (simp; done) | (simp [*]; done)), H', ⟨by first | omega | exact Nat.le_refl _⟩, ⟨by repeat (first | (with_reducible first | exact HB.out | apply below_alloc | apply pw_below_drewN | apply below_drew1) | exact HB.out)⟩⟩
  case rest =>
    clear HC5
    try clear c2
    try clear p2
    try clear c3
    try clear c6
    try clear c6b0
    try clear c6b1
    try clear c7
    try clear c7b0
    try clear c7b1
    obtain ⟨kq, x26_4, rfl, HA, HJ4, HB⟩ := hcut
    cases kq with
    | zero => exact absurd HA.out (by simp [laws_FnHeapTree.j0])
    | succ kj4 =>
      have H := HA.out
      clear HA
      simp only [laws_FnHeapTree.j0] at H
      by_cases c8 : x26_4 = true
      · subst c8
        have H1 : (some true) = some r := by rw [if_pos rfl] at H; exact H
        clear H
        have H := H1
        clear H1
        obtain rfl := Option.some.inj H
        go_wp2
        go_ret
        exact ⟨by first | rfl | (simp [errW_none, errW_some] <;> rfl) | (simp [*, errW_none, errW_some] <;> rfl), by repeat (first | (with_reducible first | exact HB.out | apply below_alloc | apply pw_below_drewN | apply below_drew1) | exact HB.out)⟩
      · replace c8 := Bool.eq_false_iff.mpr c8
        subst c8
        have H1 : ((some (([] : List Int) : List Int)).bind fun y129 => (if y129.length + l2.length < 17592186044416 then ((impl_HeapRun.f l0 a1 l2 l3).bind fun t135 => (if (t135.length : Int) = (l3.length : Int) then (laws_FnHeapTree.l0 kj4 l0 a1 l2 l3 (y129 ++ l2) t135 0) else (some false))) else (none))) = some r := by rw [if_neg (show ¬ (false = true) by decide)] at H; exact H
        clear H
        have H := H1
        clear H1
        obtain ⟨y129, hy129⟩ : ∃ y_ : List Int, y_ = (([] : List Int)) := ⟨_, rfl⟩
        replace H : (if y129.length + l2.length < 17592186044416 then ((impl_HeapRun.f l0 a1 l2 l3).bind fun t135 => (if (t135.length : Int) = (l3.length : Int) then (laws_FnHeapTree.l0 kj4 l0 a1 l2 l3 (y129 ++ l2) t135 0) else (some false))) else (none)) = some r := by first | (rw [hy129]; with_reducible exact H) | (have H2_ := (Option.bind_some _ _).symm.trans H; rw [hy129]; with_reducible exact H2_) | (have H2_ := (Option.bind_some _ _).symm.trans H; with_reducible exact H2_) | with_reducible exact H | (rw [hy129]; exact H) | exact H
        have Ny129 := Aside0.mk hy129
        clear hy129
        by_cases c9 : y129.length + l2.length < 17592186044416
        · rw [if_pos c9] at H
          have LMc9 := Aside0.mk c9
          clear c9
          obtain ⟨y132, hy132⟩ : ∃ y_ : List Int, y_ = (y129 ++ l2) := ⟨_, rfl⟩
          replace H : ((impl_HeapRun.f l0 a1 l2 l3).bind fun t135 => (if (t135.length : Int) = (l3.length : Int) then (laws_FnHeapTree.l0 kj4 l0 a1 l2 l3 y132 t135 0) else (some false))) = some r := by first | (rw [hy132]; with_reducible exact H) | (have H2_ := (Option.bind_some _ _).symm.trans H; rw [hy132]; with_reducible exact H2_) | (have H2_ := (Option.bind_some _ _).symm.trans H; with_reducible exact H2_) | with_reducible exact H | (rw [hy132]; exact H) | exact H
          have Ny132 := Aside0.mk hy132
          clear hy132
          replace H := Option.bind_eq_some_iff.mp H
          obtain ⟨t135, A100, H⟩ := H
          replace H : (if (t135.length : Int) = (l3.length : Int) then (laws_FnHeapTree.l0 kj4 l0 a1 l2 l3 y132 t135 0) else (some false)) = some r := H
          have A10 := Aside0.mk A100
          clear A100
          by_cases c11 : (t135.length : Int) = (l3.length : Int)
          · rw [if_pos c11] at H
            have c11b0 : ((t135.length : Int) == (l3.length : Int)) = true := beq_iff_eq.mpr c11
            have c11b1 : ((t135.length : Int) != (l3.length : Int)) = false := bne_eq_false_iff_eq.mpr c11
            have c11b2 : (t135.length == l3.length) = true := by first | simpa using c11 | (simp at c11 ⊢; omega)
            clear c11
            have H' := Aside0.mk H
            clear H
            go_wp2_with (first | ((with_reducible refine gate_dst (N := 27) rfl ?_); (try (refine gate_guard (by rfl) ?_; dsimp only)); refine Kd.R_lit (Kd.int .i64) _ 3 ?hg (N := 27) ?hd (xs := ([] : List Int)) (inner := []) (ok := fun _ => True) (okp := fun _ => True) ?hr ?hp (fun _ hk => hk) trivial (Below.refl _ _) (Nat.le_refl _) (by simp) ?_; (case hd => rfl); (case hg => rfl); (case hr => first | (go_simp; done) | (go_simp; rfl)); (case hp => exact (Reps.none _ _)); intro v130 w12 ho13 hb hg_ hnew_; clear hg_ hnew_; (first | rw [← Ny129.out] at ho13 | (simp only [Int.reduceToNat] at ho13; rw [← Ny129.out] at ho13)); have n0_ := Aside0.mk (Kd.R_lower ho13 (below_size (by repeat (first | (with_reducible first | exact HB.out | apply below_alloc | apply pw_below_drewN | apply below_drew1) | exact HB.out)))); have n1_ := Aside0.mk (below_step (by repeat (first | (with_reducible first | exact HB.out | apply below_alloc | apply pw_below_drewN | apply below_drew1) | exact HB.out)) hb); clear HB; have HO131 := n0_; have HB := n1_; clear n0_ n1_; clear hb ho13) | ((with_reducible refine gate_builtin (b := .append) (xs := #[.tmp 27, .tmp 28]) rfl ?_); (try (refine gate_guard (by rfl) ?_; dsimp only)); at_builtin; refine Kd.R_append_rows (Kd.int .i64) (w0 := w) w.heap.size rfl (.tmp 27) (.tmp 28) 30 3 (.int .i64 0) 8 rfl Try.underlying30 info3 rfl (by decide) (by omega) v130 y129 l2 _ _ _ (fun _ => True) (fun _ => False) rfl rfl ?aO ?aR (fun _ _ h => h) (fun _ h => h.elim) ?aF ?aB ?aS ?aL ?_; (case aR => repeat (first | exact (Kd.C_below HR2.out HB.out) | (with_reducible refine Kd.C_alloc ?_ _) | (with_reducible refine Kd.C_drewN ?_ _) | (with_reducible refine Kd.C_drew ?_))); (case aB => exact (by repeat (first | (with_reducible first | exact HB.out | apply below_alloc | apply pw_below_drewN | apply below_drew1) | exact HB.out))); (case aF => exact (fun _ _ => trivial)); (case aO => exact (by (with_reducible repeat (first | apply Kd.R_alloc | apply Kd.R_drewN | apply Kd.R_drew)); exact HO131.out)); (case aS => exact (below_size (by repeat (first | (with_reducible first | exact HB.out | apply below_alloc | apply pw_below_drewN | apply below_drew1) | exact HB.out)))); (case aL => have := LMc9.out; omega); intro v133 w14 ho hb hg hat; rw [← Ny132.out] at ho; have n0_ := Aside0.mk (hb); have n1_ := Aside0.mk (ho); clear HB; clear HO131; have HB := n0_; have HO134 := n1_; clear n0_ n1_; clear ho hb hg hat) | ((with_reducible refine gate_callee (f := 17) rfl ?_); refine goesL_ (some 34) rfl rfl Try.func17 (by kernel_rfl) rfl #[.slice A0 l0.length c0, .int .i64 a1, .slice A2 l2.length c2, .slice A3 l3.length c3] rfl (by (try simp only [List.map_toArray, List.map_cons, List.map_nil]); first | done | rfl | (simp only [List.length_drop, List.length_take]; rfl)) ?_; (with_reducible refine (impl_HeapRun.calls _ _ l0 a1 _ _ l2 _ _ l3 t135 _ ?side1 ?side2 ?side3 ?side4 ?side5 ?side6 A10.out).mono ?_); (case side1 => repeat (first | exact (Kd.C_below HR0.out HB.out) | (with_reducible refine Kd.C_alloc ?_ _) | (with_reducible refine Kd.C_drewN ?_ _) | (with_reducible refine Kd.C_drew ?_))); (case side2 => exact HC0.out); (case side3 => repeat (first | exact (Kd.C_below HR2.out HB.out) | (with_reducible refine Kd.C_alloc ?_ _) | (with_reducible refine Kd.C_drewN ?_ _) | (with_reducible refine Kd.C_drew ?_))); (case side4 => exact HC2.out); (case side5 => repeat (first | exact (Kd.C_below HR3.out HB.out) | (with_reducible refine Kd.C_alloc ?_ _) | (with_reducible refine Kd.C_drewN ?_ _) | (with_reducible refine Kd.C_drew ?_))); (case side6 => exact HC3.out); rintro e w15 ⟨v136, rfl, ho0, hb⟩; refine ⟨_, rfl, ?_⟩; have n0_ := Aside0.mk (Kd.R_below (by (with_reducible repeat (first | apply Kd.R_alloc | apply Kd.R_drewN | apply Kd.R_drew)); exact HO134.out) hb); have n1_ := Aside0.mk (Kd.S_lower (Kd.S_new' ho0 (Kd.R_lt (by (with_reducible repeat (first | apply Kd.R_alloc | apply Kd.R_drewN | apply Kd.R_drew)); exact HO134.out))) (below_size (by repeat (first | (with_reducible first | exact HB.out | apply below_alloc | apply pw_below_drewN | apply below_drew1) | exact HB.out)))); have n2_ := Aside0.mk (below_step (by repeat (first | (with_reducible first | exact HB.out | apply below_alloc | apply pw_below_drewN | apply below_drew1) | exact HB.out)) hb); clear HO134; clear HB; have HO134 := n0_; have HO137 := n1_; have HB := n2_; clear n0_ n1_ n2_; (try clear hb); (try clear hb2); (try clear hk); (try clear hi); (try clear ho0); obtain ⟨Ao16, co16, eo16⟩ := Kd.S_slice HO137.out; subst eo16))
            go_loopg [9, 11] kj4 (fun kq v9 v11 w' => ∃ (x9_2 : List Int) (x11_2 : Int), v11 = .int .i64 x11_2 ∧ Aside0 (laws_FnHeapTree.l0 kq l0 a1 l2 l3 x9_2 t135 x11_2 = some r) ∧ Aside0 (kq ≤ kj4) ∧ Aside0 (Kd.R (Kd.int .i64) 3 w' w.heap.size (fun _ => True) v9 x9_2) ∧ Aside0 (Kd.S k34 34 w' w.heap.size (fun k_ => some k_ ≠ (v9 : Value).ownBlock) (.slice Ao16 t135.length co16) t135) ∧ Aside0 (Below w.heap.size w w'))
            case atStart => exact ⟨(y132), (0), (by first | rfl | (simp; done) | (simp [*]; done)), H', ⟨Nat.le_refl _⟩, ⟨by (with_reducible repeat (first | apply Kd.R_alloc | apply Kd.R_drewN | apply Kd.R_drew)); exact HO134.out⟩, ⟨by (with_reducible repeat (first | apply Kd.S_alloc | apply Kd.S_drewN | apply Kd.S_drew)); exact Kd.S_mono HO137.out (fun _ hk => hk.2)⟩, ⟨by repeat (first | (with_reducible first | exact HB.out | apply below_alloc | apply pw_below_drewN | apply below_drew1) | exact HB.out)⟩⟩
            case round =>
              clear H'
              try clear c1
              try clear c2
              try clear p2
              try clear c3
              try clear c6
              try clear c6b0
              try clear c6b1
              try clear c7
              try clear c7b0
              try clear c7b1
              try clear c8
              try clear c9
              try clear c11
              try clear c11b0
              try clear c11b1
              try clear c11b2
              try clear p2
              obtain ⟨x9_2, x11_2, rfl, HA, HK2, HO_9, HO_10, HB⟩ := hrel
              cases gk with
              | zero => exact absurd HA.out (by simp [laws_FnHeapTree.l0])
              | succ k2 =>
                have H := HA.out
                clear HA
                simp only [laws_FnHeapTree.l0] at H
                by_cases c17 : x11_2 < (l3.length : Int)
                · rw [if_pos c17] at H
                  have c17b0 : decide (x11_2 < (l3.length : Int)) = true := decide_eq_true c17
                  clear c17
                  by_cases c18 : 0 ≤ x11_2
                  · rw [if_pos c18] at H
                    have c18b0 : decide (0 ≤ x11_2) = true := decide_eq_true c18
                    clear c18
                    have HC19 := Aside0.mk H
                    clear H
                    have p138 : 0 ≤ (x11_2 : Int) := of_decide_eq_true (by first | (with_reducible assumption) | assumption)
                    have q138 : x11_2 < (l3.length : Int) := of_decide_eq_true (by first | (with_reducible assumption) | assumption)
                    obtain ⟨ad138, e138, hx138_0, hx138_1, hx138_2, hx138_3⟩ := at_T27 HR3.out x11_2 p138 q138
                    cases e138
                    replace hx138_0 := (HB.out.cell (World.block_lt_of_cell? w _ hx138_0)).trans hx138_0
                    replace hx138_1 := (HB.out.cell (World.block_lt_of_cell? w _ hx138_1)).trans hx138_1
                    replace hx138_2 := (HB.out.cell (World.block_lt_of_cell? w _ hx138_2)).trans hx138_2
                    replace hx138_3 := (HB.out.cell (World.block_lt_of_cell? w _ hx138_3)).trans hx138_3
                    replace p138 := eq_true p138
                    replace q138 := eq_true q138
                    go_upto_if 51 with (fail)
                    go_cut [9] (fun v9 wc => ∃ (kq : Nat) (x9_18 : List Int), Aside0 (laws_FnHeapTree.j2 kq l0 a1 l2 l3 x9_18 t135 x11_2 = some r) ∧ Aside0 (kq ≤ k2) ∧ Aside0 (Kd.R (Kd.int .i64) 3 wc w.heap.size (fun _ => True) v9 x9_18) ∧ Aside0 (Kd.S k34 34 wc w.heap.size (fun k_ => some k_ ≠ (v9 : Value).ownBlock) (.slice Ao16 t135.length co16) t135) ∧ Aside0 (Below w.heap.size w wc))
                    case first =>
                      have H := HC19.out
                      clear HC19
                      by_cases c20 : ((rd_T27 l3 x11_2).f1) = 0
                      · rw [if_pos c20] at H
                        have c20b0 : (((rd_T27 l3 x11_2).f1) == 0) = true := beq_iff_eq.mpr c20
                        have c20b1 : (((rd_T27 l3 x11_2).f1) != 0) = false := bne_eq_false_iff_eq.mpr c20
                        clear c20
                        (first | rw [c20b0] | (simp only [i64_w, i32_w]; rw [c20b0]) | skip)
                        by_cases c21 : x9_2.length < 17592186044416
                        · rw [if_pos c21] at H
                          have LMc21 := Aside0.mk c21
                          clear c21
                          obtain ⟨y140, hy140⟩ : ∃ y_ : List Int, y_ = (x9_2 ++ [(rd_T27 l3 x11_2).f2]) := ⟨_, rfl⟩
                          replace H : (laws_FnHeapTree.j2 k2 l0 a1 l2 l3 y140 t135 x11_2) = some r := by first | (rw [hy140]; with_reducible exact H) | (have H2_ := (Option.bind_some _ _).symm.trans H; rw [hy140]; with_reducible exact H2_) | (have H2_ := (Option.bind_some _ _).symm.trans H; with_reducible exact H2_) | with_reducible exact H | (rw [hy140]; exact H) | exact H
                          have Ny140 := Aside0.mk hy140
                          clear hy140
                          have H' := Aside0.mk H
                          clear H
                          have p139 : 0 ≤ (x11_2 : Int) := of_decide_eq_true (by first | (with_reducible assumption) | assumption)
                          have q139 : x11_2 < (l3.length : Int) := of_decide_eq_true (by first | (with_reducible assumption) | assumption)
                          obtain ⟨ad139, e139, hx139_0, hx139_1, hx139_2, hx139_3⟩ := at_T27 HR3.out x11_2 p139 q139
                          obtain rfl : ad138 = ad139 := (by injection e139)
                          replace hx139_0 := (HB.out.cell (World.block_lt_of_cell? w _ hx139_0)).trans hx139_0
                          replace hx139_1 := (HB.out.cell (World.block_lt_of_cell? w _ hx139_1)).trans hx139_1
                          replace hx139_2 := (HB.out.cell (World.block_lt_of_cell? w _ hx139_2)).trans hx139_2
                          replace hx139_3 := (HB.out.cell (World.block_lt_of_cell? w _ hx139_3)).trans hx139_3
                          replace p139 := eq_true p139
                          replace q139 := eq_true q139
                          go_wp2_with (first | ((with_reducible refine gate_builtin (b := .append) (xs := #[.tmp 52, .tmp 58]) rfl ?_); (try (refine gate_guard (by rfl) ?_; dsimp only)); at_builtin; refine Kd.R_append (Kd.int .i64) (w0 := w) w.heap.size rfl (.tmp 52) (.tmp 58) 30 3 (.int .i64 0) 8 rfl Try.underlying30 info3 rfl (by decide) (by omega) u9 x9_2 ((rd_T27 l3 x11_2).f2) [.int .i64 ((rd_T27 l3 x11_2).f2)] (fun _ => True) (fun _ => False) rfl rfl ?aP (fun _ hk => hk.elim) ?aF ?aO ?aB ?aS ?aL ?_; (case aP => exact rfl); (case aB => exact (by repeat (first | (with_reducible first | exact HB.out | apply below_alloc | apply pw_below_drewN | apply below_drew1) | exact HB.out))); (case aF => exact (fun _ _ => trivial)); (case aO => exact (by (with_reducible repeat (first | apply Kd.R_alloc | apply Kd.R_drewN | apply Kd.R_drew)); exact HO_9.out)); (case aS => exact (below_size (by repeat (first | (with_reducible first | exact HB.out | apply below_alloc | apply pw_below_drewN | apply below_drew1) | exact HB.out)))); (case aL => have := LMc21.out; omega); intro v141 w22 ho hb hg hat; rw [← Ny140.out] at ho; have n0_ := Aside0.mk (Kd.S_after (ok := (fun _ => True)) (by (with_reducible repeat (first | apply Kd.S_alloc | apply Kd.S_drewN | apply Kd.S_drew)); exact Kd.S_mono HO_10.out (fun _ hk => ⟨trivial, hk⟩)) hg hat); have n1_ := Aside0.mk (hb); have n2_ := Aside0.mk (ho); clear HO_10; clear HB; clear HO_9; have HO_10 := n0_; have HB := n1_; have HO142 := n2_; clear n0_ n1_ n2_; clear ho hb hg hat))
                          go_meet
                          case rel => exact ⟨_, (y140), H', ⟨by have := HJ4.out; have := HK2.out; first | omega | exact Nat.le_refl _⟩, ⟨by (with_reducible repeat (first | apply Kd.R_alloc | apply Kd.R_drewN | apply Kd.R_drew)); exact HO142.out⟩, ⟨by (with_reducible repeat (first | apply Kd.S_alloc | apply Kd.S_drewN | apply Kd.S_drew)); exact Kd.S_mono HO_10.out (fun _ hk => hk.2)⟩, ⟨by repeat (first | (with_reducible first | exact HB.out | apply below_alloc | apply pw_below_drewN | apply below_drew1) | exact HB.out)⟩⟩
                        · rw [if_neg c21] at H
                          exact absurd H (by simp)
                      · rw [if_neg c20] at H
                        have c20b0 : (((rd_T27 l3 x11_2).f1) == 0) = false := beq_eq_false_iff_ne.mpr c20
                        have c20b1 : (((rd_T27 l3 x11_2).f1) != 0) = true := bne_iff_ne.mpr c20
                        (first | rw [c20b0] | (simp only [i64_w, i32_w]; rw [c20b0]) | skip)
                        have H' := Aside0.mk H
                        clear H
                        go_wp2
                        go_meet
                        case rel => exact ⟨_, (x9_2), H', ⟨by have := HJ4.out; have := HK2.out; first | omega | exact Nat.le_refl _⟩, ⟨by (with_reducible repeat (first | apply Kd.R_alloc | apply Kd.R_drewN | apply Kd.R_drew)); exact HO_9.out⟩, ⟨by (with_reducible repeat (first | apply Kd.S_alloc | apply Kd.S_drewN | apply Kd.S_drew)); exact HO_10.out⟩, ⟨by repeat (first | (with_reducible first | exact HB.out | apply below_alloc | apply pw_below_drewN | apply below_drew1) | exact HB.out)⟩⟩
                    case rest =>
                      clear HC19
                      try clear c1
                      try clear p1
                      try clear q1
                      try clear hx1
                      try clear c2
                      try clear p2
                      try clear c3
                      try clear c6
                      try clear c6b0
                      try clear c6b1
                      try clear c7
                      try clear c7b0
                      try clear c7b1
                      try clear c8
                      try clear c9
                      try clear c11
                      try clear c11b0
                      try clear c11b1
                      try clear c11b2
                      try clear p13
                      try clear q13
                      try clear hx13
                      try clear c17
                      try clear c17b0
                      try clear c18
                      try clear c18b0
                      try clear c20
                      try clear c20b0
                      try clear c20b1
                      try clear c21
                      try clear hx138_0
                      try clear hx138_1
                      try clear hx138_2
                      try clear hx138_3
                      try clear hx139_0
                      try clear hx139_1
                      try clear hx139_2
                      try clear hx139_3
                      try clear p138
                      try clear p139
                      try clear p2
                      try clear q138
                      try clear q139
                      obtain ⟨kq, x9_18, HA, HJ18, HO_9, HO_10, HB⟩ := hcut
                      cases kq with
                      | zero => exact absurd HA.out (by simp [laws_FnHeapTree.j2])
                      | succ kj18 =>
                        have H := HA.out
                        clear HA
                        simp only [laws_FnHeapTree.j2] at H
                        have HC23 := Aside0.mk H
                        clear H
                        go_upto_region 12 with (fail)
                        go_cut [72] (fun v72 wc => ∃ (kq : Nat) (x72_22 : Bool), v72 = .bool x72_22 ∧ Aside0 (laws_FnHeapTree.j3 kq l0 a1 l2 l3 x9_18 t135 x11_2 x72_22 = some r) ∧ Aside0 (kq ≤ kj18) ∧ Aside0 (Kd.R (Kd.int .i64) 3 wc w.heap.size (fun _ => True) u9 x9_18) ∧ Aside0 (Kd.S k34 34 wc w.heap.size (fun k_ => some k_ ≠ (u9 : Value).ownBlock) (.slice Ao16 t135.length co16) t135) ∧ Aside0 (Below w.heap.size w wc))
                        case first =>
                          have H := HC23.out
                          clear HC23
                          by_cases c24 : 0 ≤ x11_2
                          · rw [if_pos c24] at H
                            have c24b0 : decide (0 ≤ x11_2) = true := decide_eq_true c24
                            clear c24
                            (first | rw [c24b0] | (simp only [i64_w, i32_w]; rw [c24b0]) | skip)
                            by_cases c25 : x11_2 < (l3.length : Int)
                            · rw [if_pos c25] at H
                              have c25b0 : decide (x11_2 < (l3.length : Int)) = true := decide_eq_true c25
                              clear c25
                              by_cases c26 : ((rd_T27 l3 x11_2).f1) = 1
                              · rw [if_pos c26] at H
                                have c26b0 : (((rd_T27 l3 x11_2).f1) == 1) = true := beq_iff_eq.mpr c26
                                have c26b1 : (((rd_T27 l3 x11_2).f1) != 1) = false := bne_eq_false_iff_eq.mpr c26
                                clear c26
                                by_cases c27 : x11_2 < (t135.length : Int)
                                · rw [if_pos c27] at H
                                  have c27b0 : decide (x11_2 < (t135.length : Int)) = true := decide_eq_true c27
                                  clear c27
                                  have H' := Aside0.mk H
                                  clear H
                                  have p143 : 0 ≤ (x11_2 : Int) := of_decide_eq_true (by first | (with_reducible assumption) | assumption)
                                  have q143 : x11_2 < (l3.length : Int) := of_decide_eq_true (by first | (with_reducible assumption) | assumption)
                                  obtain ⟨ad143, e143, hx143_0, hx143_1, hx143_2, hx143_3⟩ := at_T27 HR3.out x11_2 p143 q143
                                  obtain rfl : ad138 = ad143 := (by injection e143)
                                  replace hx143_0 := (HB.out.cell (World.block_lt_of_cell? w _ hx143_0)).trans hx143_0
                                  replace hx143_1 := (HB.out.cell (World.block_lt_of_cell? w _ hx143_1)).trans hx143_1
                                  replace hx143_2 := (HB.out.cell (World.block_lt_of_cell? w _ hx143_2)).trans hx143_2
                                  replace hx143_3 := (HB.out.cell (World.block_lt_of_cell? w _ hx143_3)).trans hx143_3
                                  replace p143 := eq_true p143
                                  replace q143 := eq_true q143
                                  have p144 : 0 ≤ (x11_2 : Int) := of_decide_eq_true (by first | (with_reducible assumption) | assumption)
                                  have q144 : x11_2 < (t135.length : Int) := of_decide_eq_true (by first | (with_reducible assumption) | assumption)
                                  obtain ⟨ad144, A144_2, c144_2, A144_3, c144_3, e144, hx144_0, hx144_1, hx144_2, hx144_3, hl144_2, hi144_2, hl144_3, hi144_3⟩ := at_T34 (Kd.S_reads' HO_10.out).2.2 x11_2 p144 q144
                                  cases e144
                                  obtain ⟨ce144, hce144, hMe144, hcc144⟩ := Kd.S_get HO_10.out z34 x11_2 p144 (by first | exact q144 | exact of_decide_eq_true (by first | (with_reducible assumption) | assumption) | (have e_ := (Kd.S_reads' HO_10.out).1; omega))
                                  obtain ⟨ve144_2, ve144_3, rfl, ge144_2, ge144_3⟩ := k34_openM hMe144
                                  have hv144_2 := hcc144 2 _ rfl
                                  rw [add_field _ _ 2 (by omega)] at hv144_2
                                  replace hv144_2 := Option.some.inj (hv144_2.symm.trans hx144_2)
                                  rw [hv144_2] at ge144_2
                                  have HL144_2 := Aside0.mk (show Kd.R (Kd.int .i64) 3 _ _ _ _ ((rd_T34 t135 x11_2).f2) from ge144_2)
                                  clear hv144_2 ge144_2
                                  have hv144_3 := hcc144 3 _ rfl
                                  rw [add_field _ _ 3 (by omega)] at hv144_3
                                  replace hv144_3 := Option.some.inj (hv144_3.symm.trans hx144_3)
                                  rw [hv144_3] at ge144_3
                                  have HL144_3 := Aside0.mk (show Kd.R (Kd.int .i64) 3 _ _ _ _ ((rd_T34 t135 x11_2).f3) from ge144_3)
                                  clear hv144_3 ge144_3
                                  clear hcc144 hce144
                                  have HR144_2 := Aside0.mk hi144_2
                                  have HC144_2 := Aside0.mk hl144_2
                                  clear hi144_2 hl144_2
                                  have HR144_3 := Aside0.mk hi144_3
                                  have HC144_3 := Aside0.mk hl144_3
                                  clear hi144_3 hl144_3
                                  replace p144 := eq_true p144
                                  replace q144 := eq_true q144
                                  go_wp2
                                  go_meet
                                  case rel => exact ⟨_, ((rd_T34 t135 x11_2).f1), (by first | rfl | (simp; done) | (simp [*]; done)), H', ⟨by have := HJ4.out; have := HK2.out; have := HJ18.out; first | omega | exact Nat.le_refl _⟩, ⟨by (with_reducible repeat (first | apply Kd.R_alloc | apply Kd.R_drewN | apply Kd.R_drew)); exact HO_9.out⟩, ⟨by (with_reducible repeat (first | apply Kd.S_alloc | apply Kd.S_drewN | apply Kd.S_drew)); exact HO_10.out⟩, ⟨by repeat (first | (with_reducible first | exact HB.out | apply below_alloc | apply pw_below_drewN | apply below_drew1) | exact HB.out)⟩⟩
                                · rw [if_neg c27] at H
                                  exact absurd H (by simp)
                              · rw [if_neg c26] at H
                                have c26b0 : (((rd_T27 l3 x11_2).f1) == 1) = false := beq_eq_false_iff_ne.mpr c26
                                have c26b1 : (((rd_T27 l3 x11_2).f1) != 1) = true := bne_iff_ne.mpr c26
                                have H' := Aside0.mk H
                                clear H
                                have p143 : 0 ≤ (x11_2 : Int) := of_decide_eq_true (by first | (with_reducible assumption) | assumption)
                                have q143 : x11_2 < (l3.length : Int) := of_decide_eq_true (by first | (with_reducible assumption) | assumption)
                                obtain ⟨ad143, e143, hx143_0, hx143_1, hx143_2, hx143_3⟩ := at_T27 HR3.out x11_2 p143 q143
                                obtain rfl : ad138 = ad143 := (by injection e143)
                                replace hx143_0 := (HB.out.cell (World.block_lt_of_cell? w _ hx143_0)).trans hx143_0
                                replace hx143_1 := (HB.out.cell (World.block_lt_of_cell? w _ hx143_1)).trans hx143_1
                                replace hx143_2 := (HB.out.cell (World.block_lt_of_cell? w _ hx143_2)).trans hx143_2
                                replace hx143_3 := (HB.out.cell (World.block_lt_of_cell? w _ hx143_3)).trans hx143_3
                                replace p143 := eq_true p143
                                replace q143 := eq_true q143
                                go_wp2
                                go_meet
                                case rel => exact ⟨_, (false), (by first | rfl | (simp; done) | (simp [*]; done)), H', ⟨by have := HJ4.out; have := HK2.out; have := HJ18.out; first | omega | exact Nat.le_refl _⟩, ⟨by (with_reducible repeat (first | apply Kd.R_alloc | apply Kd.R_drewN | apply Kd.R_drew)); exact HO_9.out⟩, ⟨by (with_reducible repeat (first | apply Kd.S_alloc | apply Kd.S_drewN | apply Kd.S_drew)); exact HO_10.out⟩, ⟨by repeat (first | (with_reducible first | exact HB.out | apply below_alloc | apply pw_below_drewN | apply below_drew1) | exact HB.out)⟩⟩
                            · rw [if_neg c25] at H
                              exact absurd H (by simp)
                          · rw [if_neg c24] at H
                            exact absurd H (by simp)
                        case rest =>
                          clear HC23
                          try clear c1
                          try clear p1
                          try clear q1
                          try clear hx1
                          try clear c2
                          try clear p2
                          try clear c3
                          try clear c6
                          try clear c6b0
                          try clear c6b1
                          try clear c7
                          try clear c7b0
                          try clear c7b1
                          try clear c8
                          try clear c9
                          try clear c11
                          try clear c11b0
                          try clear c11b1
                          try clear c11b2
                          try clear p13
                          try clear q13
                          try clear hx13
                          try clear c14
                          try clear p14
                          try clear q14
                          try clear hx14
                          try clear c17
                          try clear c17b0
                          try clear c18
                          try clear c18b0
                          try clear c20
                          try clear c20b0
                          try clear c20b1
                          try clear c21
                          try clear c24
                          try clear c24b0
                          try clear c25
                          try clear c25b0
                          try clear c26
                          try clear c26b0
                          try clear c26b1
                          try clear c27
                          try clear c27b0
                          try clear hx138_0
                          try clear hx138_1
                          try clear hx138_2
                          try clear hx138_3
                          try clear hx139_0
                          try clear hx139_1
                          try clear hx139_2
                          try clear hx139_3
                          try clear hx143_0
                          try clear hx143_1
                          try clear hx143_2
                          try clear hx143_3
                          try clear hx144_0
                          try clear hx144_1
                          try clear hx144_2
                          try clear hx144_3
                          try clear p1
                          try clear p13
                          try clear p138
                          try clear p139
                          try clear p143
                          try clear p144
                          try clear p2
                          try clear q1
                          try clear q13
                          try clear q138
                          try clear q139
                          try clear q143
                          try clear q144
                          obtain ⟨kq, x72_22, rfl, HA, HJ22, HO_9, HO_10, HB⟩ := hcut
                          cases kq with
                          | zero => exact absurd HA.out (by simp [laws_FnHeapTree.j3])
                          | succ kj22 =>
                            have H := HA.out
                            clear HA
                            simp only [laws_FnHeapTree.j3] at H
                            by_cases c28 : x72_22 = true
                            · subst c28
                              have H1 : (laws_FnHeapTree.l1 kj22 l0 a1 l2 l3 x9_18 t135 x11_2 0) = some r := by rw [if_pos rfl] at H; exact H
                              clear H
                              have H := H1
                              clear H1
                              have H' := Aside0.mk H
                              clear H
                              go_wp2
                              go_loopg [9, 12] kj22 (fun kq v9 v12 w' => ∃ (x9_5 : List Int) (x12_5 : Int), v12 = .int .i64 x12_5 ∧ Aside0 (laws_FnHeapTree.l1 kq l0 a1 l2 l3 x9_5 t135 x11_2 x12_5 = some r) ∧ Aside0 (kq ≤ kj22) ∧ Aside0 (Kd.R (Kd.int .i64) 3 w' w.heap.size (fun _ => True) v9 x9_5) ∧ Aside0 (Kd.S k34 34 w' w.heap.size (fun k_ => some k_ ≠ (v9 : Value).ownBlock) (.slice Ao16 t135.length co16) t135) ∧ Aside0 (Below w.heap.size w w'))
                              case atStart => exact ⟨(x9_18), (0), (by first | rfl | (simp; done) | (simp [*]; done)), H', ⟨Nat.le_refl _⟩, ⟨by (with_reducible repeat (first | apply Kd.R_alloc | apply Kd.R_drewN | apply Kd.R_drew)); exact HO_9.out⟩, ⟨by (with_reducible repeat (first | apply Kd.S_alloc | apply Kd.S_drewN | apply Kd.S_drew)); exact HO_10.out⟩, ⟨by repeat (first | (with_reducible first | exact HB.out | apply below_alloc | apply pw_below_drewN | apply below_drew1) | exact HB.out)⟩⟩
                              case round =>
                                clear H'
                                try clear c1
                                try clear p1
                                try clear q1
                                try clear hx1
                                try clear c2
                                try clear p2
                                try clear c3
                                try clear c6
                                try clear c6b0
                                try clear c6b1
                                try clear c7
                                try clear c7b0
                                try clear c7b1
                                try clear c8
                                try clear c9
                                try clear c11
                                try clear c11b0
                                try clear c11b1
                                try clear c11b2
                                try clear p13
                                try clear q13
                                try clear hx13
                                try clear c14
                                try clear p14
                                try clear q14
                                try clear hx14
                                try clear c17
                                try clear c17b0
                                try clear c18
                                try clear c18b0
                                try clear c20
                                try clear c20b0
                                try clear c20b1
                                try clear c21
                                try clear c24
                                try clear c24b0
                                try clear c25
                                try clear c25b0
                                try clear c26
                                try clear c26b0
                                try clear c26b1
                                try clear c27
                                try clear c27b0
                                try clear c28
                                try clear hx138_0
                                try clear hx138_1
                                try clear hx138_2
                                try clear hx138_3
                                try clear hx139_0
                                try clear hx139_1
                                try clear hx139_2
                                try clear hx139_3
                                try clear hx143_0
                                try clear hx143_1
                                try clear hx143_2
                                try clear hx143_3
                                try clear hx144_0
                                try clear hx144_1
                                try clear hx144_2
                                try clear hx144_3
                                try clear p1
                                try clear p13
                                try clear p138
                                try clear p139
                                try clear p14
                                try clear p143
                                try clear p144
                                try clear p2
                                try clear q1
                                try clear q13
                                try clear q138
                                try clear q139
                                try clear q14
                                try clear q143
                                try clear q144
                                obtain ⟨x9_5, x12_5, rfl, HA, HK5, HO_9, HO_10, HB⟩ := hrel
                                cases gk with
                                | zero => exact absurd HA.out (by simp [laws_FnHeapTree.l1])
                                | succ k5 =>
                                  have H := HA.out
                                  clear HA
                                  simp only [laws_FnHeapTree.l1] at H
                                  by_cases c29 : x12_5 < (x9_5.length : Int)
                                  · rw [if_pos c29] at H
                                    have c29b0 : decide (x12_5 < (x9_5.length : Int)) = true := decide_eq_true c29
                                    clear c29
                                    by_cases c30 : 0 ≤ x12_5
                                    · rw [if_pos c30] at H
                                      have c30b0 : decide (0 ≤ x12_5) = true := decide_eq_true c30
                                      clear c30
                                      by_cases c31 : 0 ≤ x11_2
                                      · rw [if_pos c31] at H
                                        have c31b0 : decide (0 ≤ x11_2) = true := decide_eq_true c31
                                        clear c31
                                        by_cases c32 : x11_2 < (t135.length : Int)
                                        · rw [if_pos c32] at H
                                          have c32b0 : decide (x11_2 < (t135.length : Int)) = true := decide_eq_true c32
                                          clear c32
                                          by_cases c33 : (rd x9_5 x12_5) = ((rd_T34 t135 x11_2).f0)
                                          · rw [if_pos c33] at H
                                            have c33b0 : ((rd x9_5 x12_5) == ((rd_T34 t135 x11_2).f0)) = true := beq_iff_eq.mpr c33
                                            have c33b1 : ((rd x9_5 x12_5) != ((rd_T34 t135 x11_2).f0)) = false := bne_eq_false_iff_eq.mpr c33
                                            clear c33
                                            obtain ⟨y147, hy147⟩ : ∃ y_ : List Int, y_ = (([] : List Int)) := ⟨_, rfl⟩
                                            replace H : (if x12_5 ≤ (x9_5.length : Int) then ((some (x9_5.take (x12_5 : Int).toNat : List Int)).bind fun y150 => (if y147.length + y150.length < 17592186044416 then ((some (y147 ++ y150 : List Int)).bind fun y154 => (if 0 ≤ (wrap64 (x12_5 + 1)) then (if (wrap64 (x12_5 + 1)) ≤ (x9_5.length : Int) then ((some (x9_5.drop ((wrap64 (x12_5 + 1)) : Int).toNat : List Int)).bind fun y157 => (if y154.length + y157.length < 17592186044416 then (laws_FnHeapTree.l0 k5 l0 a1 l2 l3 (y154 ++ y157) t135 (wrap64 (x11_2 + 1))) else (none))) else (none)) else (none))) else (none))) else (none)) = some r := by first | (rw [hy147]; with_reducible exact H) | (have H2_ := (Option.bind_some _ _).symm.trans H; rw [hy147]; with_reducible exact H2_) | (have H2_ := (Option.bind_some _ _).symm.trans H; with_reducible exact H2_) | with_reducible exact H | (rw [hy147]; exact H) | exact H
                                            have Ny147 := Aside0.mk hy147
                                            clear hy147
                                            have c34b0 := eq_true (of_decide_eq_true (by first | (with_reducible assumption) | assumption) : 0 ≤ x12_5)
                                            by_cases c35 : x12_5 ≤ (x9_5.length : Int)
                                            · rw [if_pos c35] at H
                                              have c35b0 := eq_true c35
                                              have c35b1 : decide (x12_5 ≤ (x9_5.length : Int)) = true := decide_eq_true c35
                                              clear c35
                                              obtain ⟨y150, hy150⟩ : ∃ y_ : List Int, y_ = (x9_5.take (x12_5 : Int).toNat) := ⟨_, rfl⟩
                                              replace H : (if y147.length + y150.length < 17592186044416 then ((some (y147 ++ y150 : List Int)).bind fun y154 => (if 0 ≤ (wrap64 (x12_5 + 1)) then (if (wrap64 (x12_5 + 1)) ≤ (x9_5.length : Int) then ((some (x9_5.drop ((wrap64 (x12_5 + 1)) : Int).toNat : List Int)).bind fun y157 => (if y154.length + y157.length < 17592186044416 then (laws_FnHeapTree.l0 k5 l0 a1 l2 l3 (y154 ++ y157) t135 (wrap64 (x11_2 + 1))) else (none))) else (none)) else (none))) else (none)) = some r := by first | (rw [hy150]; with_reducible exact H) | (have H2_ := (Option.bind_some _ _).symm.trans H; rw [hy150]; with_reducible exact H2_) | (have H2_ := (Option.bind_some _ _).symm.trans H; with_reducible exact H2_) | with_reducible exact H | (rw [hy150]; exact H) | exact H
                                              have Ny150 := Aside0.mk hy150
                                              clear hy150
                                              by_cases c36 : y147.length + y150.length < 17592186044416
                                              · rw [if_pos c36] at H
                                                have LMc36 := Aside0.mk c36
                                                clear c36
                                                obtain ⟨y154, hy154⟩ : ∃ y_ : List Int, y_ = (y147 ++ y150) := ⟨_, rfl⟩
                                                replace H : (if 0 ≤ (wrap64 (x12_5 + 1)) then (if (wrap64 (x12_5 + 1)) ≤ (x9_5.length : Int) then ((some (x9_5.drop ((wrap64 (x12_5 + 1)) : Int).toNat : List Int)).bind fun y157 => (if y154.length + y157.length < 17592186044416 then (laws_FnHeapTree.l0 k5 l0 a1 l2 l3 (y154 ++ y157) t135 (wrap64 (x11_2 + 1))) else (none))) else (none)) else (none)) = some r := by first | (rw [hy154]; with_reducible exact H) | (have H2_ := (Option.bind_some _ _).symm.trans H; rw [hy154]; with_reducible exact H2_) | (have H2_ := (Option.bind_some _ _).symm.trans H; with_reducible exact H2_) | with_reducible exact H | (rw [hy154]; exact H) | exact H
                                                have Ny154 := Aside0.mk hy154
                                                clear hy154
                                                obtain ⟨ji37, hji37⟩ : ∃ j_ : Int, (wrap64 (x12_5 + 1)) = j_ := ⟨_, rfl⟩
                                                replace H : (if 0 ≤ (ji37) then (if (ji37) ≤ (x9_5.length : Int) then ((some (x9_5.drop ((ji37) : Int).toNat : List Int)).bind fun y157 => (if y154.length + y157.length < 17592186044416 then (laws_FnHeapTree.l0 k5 l0 a1 l2 l3 (y154 ++ y157) t135 (wrap64 (x11_2 + 1))) else (none))) else (none)) else (none)) = some r := by first | (rw [hji37] at H; exact H) | (simp only [hji37] at H ⊢; exact H)
                                                have hji37w : (IntKind.i64.wrap (x12_5 + 1)) = ji37 := (i64_w _).trans hji37
                                                by_cases c38 : 0 ≤ (ji37)
                                                · rw [if_pos c38] at H
                                                  have c38b0 := eq_true c38
                                                  have c38b1 : decide (0 ≤ (ji37)) = true := decide_eq_true c38
                                                  clear c38
                                                  by_cases c39 : (ji37) ≤ (x9_5.length : Int)
                                                  · rw [if_pos c39] at H
                                                    have c39b0 := eq_true c39
                                                    have c39b1 : decide ((ji37) ≤ (x9_5.length : Int)) = true := decide_eq_true c39
                                                    clear c39
                                                    obtain ⟨y157, hy157⟩ : ∃ y_ : List Int, y_ = (x9_5.drop ((ji37) : Int).toNat) := ⟨_, rfl⟩
                                                    replace H : (if y154.length + y157.length < 17592186044416 then (laws_FnHeapTree.l0 k5 l0 a1 l2 l3 (y154 ++ y157) t135 (wrap64 (x11_2 + 1))) else (none)) = some r := by first | (rw [hy157]; with_reducible exact H) | (have H2_ := (Option.bind_some _ _).symm.trans H; rw [hy157]; with_reducible exact H2_) | (have H2_ := (Option.bind_some _ _).symm.trans H; with_reducible exact H2_) | with_reducible exact H | (rw [hy157]; exact H) | exact H
                                                    have Ny157 := Aside0.mk hy157
                                                    clear hy157
                                                    by_cases c40 : y154.length + y157.length < 17592186044416
                                                    · rw [if_pos c40] at H
                                                      have LMc40 := Aside0.mk c40
                                                      clear c40
                                                      obtain ⟨y161, hy161⟩ : ∃ y_ : List Int, y_ = (y154 ++ y157) := ⟨_, rfl⟩
                                                      replace H : (laws_FnHeapTree.l0 k5 l0 a1 l2 l3 y161 t135 (wrap64 (x11_2 + 1))) = some r := by first | (rw [hy161]; with_reducible exact H) | (have H2_ := (Option.bind_some _ _).symm.trans H; rw [hy161]; with_reducible exact H2_) | (have H2_ := (Option.bind_some _ _).symm.trans H; with_reducible exact H2_) | with_reducible exact H | (rw [hy161]; exact H) | exact H
                                                      have Ny161 := Aside0.mk hy161
                                                      clear hy161
                                                      have H' := Aside0.mk H
                                                      clear H
                                                      obtain ⟨Ao41, co41, eo41⟩ := Kd.R_slice HO_9.out
                                                      subst eo41
                                                      try go_wp2
                                                      have n0_ := Aside0.mk (Kd.R_drew HO_9.out)
                                                      have n1_ := Aside0.mk (Kd.S_drew HO_10.out)
                                                      have n2_ := Aside0.mk (below_drew1 HB.out)
                                                      clear HO_9
                                                      clear HO_10
                                                      clear HB
                                                      have HO_9 := n0_
                                                      have HO_10 := n1_
                                                      have HB := n2_
                                                      clear n0_ n1_ n2_
                                                      have p145 : 0 ≤ (x12_5 : Int) := of_decide_eq_true (by first | (with_reducible assumption) | assumption)
                                                      have q145 : x12_5 < (x9_5.length : Int) := of_decide_eq_true (by first | (with_reducible assumption) | assumption)
                                                      obtain ⟨ad145, e145, hx145_0⟩ := Kd.at_int (Kd.R_reads' HO_9.out).2.2 x12_5 p145 q145
                                                      cases e145
                                                      replace p145 := eq_true p145
                                                      replace q145 := eq_true q145
                                                      have p146 : 0 ≤ (x11_2 : Int) := of_decide_eq_true (by first | (with_reducible assumption) | assumption)
                                                      have q146 : x11_2 < (t135.length : Int) := of_decide_eq_true (by first | (with_reducible assumption) | assumption)
                                                      obtain ⟨ad146, A146_2, c146_2, A146_3, c146_3, e146, hx146_0, hx146_1, hx146_2, hx146_3, hl146_2, hi146_2, hl146_3, hi146_3⟩ := at_T34 (Kd.S_reads' HO_10.out).2.2 x11_2 p146 q146
                                                      cases e146
                                                      obtain ⟨ce146, hce146, hMe146, hcc146⟩ := Kd.S_get HO_10.out z34 x11_2 p146 (by first | exact q146 | exact of_decide_eq_true (by first | (with_reducible assumption) | assumption) | (have e_ := (Kd.S_reads' HO_10.out).1; omega))
                                                      obtain ⟨ve146_2, ve146_3, rfl, ge146_2, ge146_3⟩ := k34_openM hMe146
                                                      have hv146_2 := hcc146 2 _ rfl
                                                      rw [add_field _ _ 2 (by omega)] at hv146_2
                                                      replace hv146_2 := Option.some.inj (hv146_2.symm.trans hx146_2)
                                                      rw [hv146_2] at ge146_2
                                                      have HL146_2 := Aside0.mk (show Kd.R (Kd.int .i64) 3 _ _ _ _ ((rd_T34 t135 x11_2).f2) from ge146_2)
                                                      clear hv146_2 ge146_2
                                                      have hv146_3 := hcc146 3 _ rfl
                                                      rw [add_field _ _ 3 (by omega)] at hv146_3
                                                      replace hv146_3 := Option.some.inj (hv146_3.symm.trans hx146_3)
                                                      rw [hv146_3] at ge146_3
                                                      have HL146_3 := Aside0.mk (show Kd.R (Kd.int .i64) 3 _ _ _ _ ((rd_T34 t135 x11_2).f3) from ge146_3)
                                                      clear hv146_3 ge146_3
                                                      clear hcc146 hce146
                                                      have HR146_2 := Aside0.mk hi146_2
                                                      have HC146_2 := Aside0.mk hl146_2
                                                      clear hi146_2 hl146_2
                                                      have HR146_3 := Aside0.mk hi146_3
                                                      have HC146_3 := Aside0.mk hl146_3
                                                      clear hi146_3 hl146_3
                                                      replace p146 := eq_true p146
                                                      replace q146 := eq_true q146
                                                      refine start_ (n := 10) (S := fun w' => w'.cell? (ad145.add (x12_5).toNat) = some (.int .i64 (rd x9_5 x12_5)) ∧ w'.cell? (ad146.add ((x11_2).toNat * 4)) = some (.int .i64 ((rd_T34 t135 x11_2).f0)) ∧ w'.cell? ⟨(ad146.add ((x11_2).toNat * 4)).block, (ad146.add ((x11_2).toNat * 4)).off + 1, none⟩ = some (.bool ((rd_T34 t135 x11_2).f1)) ∧ w'.cell? ⟨(ad146.add ((x11_2).toNat * 4)).block, (ad146.add ((x11_2).toNat * 4)).off + 2, none⟩ = some (.slice A146_2 ((rd_T34 t135 x11_2).f2).length c146_2) ∧ w'.cell? ⟨(ad146.add ((x11_2).toNat * 4)).block, (ad146.add ((x11_2).toNat * 4)).off + 3, none⟩ = some (.slice A146_3 ((rd_T34 t135 x11_2).f3).length c146_3)) (ds := []) #[false, false, false, false, false, false, false, false, false, false] (by kernel_rfl) rfl rfl ⟨hx145_0, hx146_0, hx146_1, hx146_2, hx146_3⟩ (fun hHeld => ?_); refine with_tabW laws_FnHeapTree.tab16 laws_FnHeapTree.bits16 (fun HT_ HW_ => ?_)
                                                      generalize wr.drew = w42 at HO_9 HO_10 HB HL146_2 HL146_3 HR146_2 HR146_3 hx145_0 hx146_0 hx146_1 hx146_2 hx146_3 hHeld ⊢
                                                      refine pure_ (i := 0) (N := some 79) (v := ?_) (a' := ?_) #[true, false, false, false, false, false, false, false, false, false] rfl rfl (any_of HT_.out (by kernel_rfl)) (fun _ _ _ h => h) (Or.inl ⟨by rfl, ?_⟩) ?_ ?_
                                                      rotate_left
                                                      · intro w'
                                                        go_simp
                                                        with_reducible rfl
                                                      rotate_left
                                                      · simp only [Act.put, List.setIfInBounds_toArray, List.set_cons_zero, List.set_cons_succ, i64_w, i32_w]
                                                        rfl
                                                      refine pure_ (i := 1) (N := some 80) (v := ?_) (a' := ?_) #[true, true, false, false, false, false, false, false, false, false] rfl rfl (any_of HT_.out (by kernel_rfl)) (fun _ _ _ h => h) (Or.inl ⟨by rfl, ?_⟩) ?_ ?_
                                                      rotate_left
                                                      · intro w'
                                                        go_simp
                                                        with_reducible rfl
                                                      rotate_left
                                                      · simp only [Act.put, List.setIfInBounds_toArray, List.set_cons_zero, List.set_cons_succ, i64_w, i32_w]
                                                        rfl
                                                      refine pure_ (i := 2) (N := some 81) (v := ?_) (a' := ?_) #[true, true, true, false, false, false, false, false, false, false] rfl rfl (any_of HT_.out (by kernel_rfl)) (fun _ _ _ h => h) (Or.inl ⟨by rfl, ?_⟩) ?_ ?_
                                                      rotate_left
                                                      · intro w'
                                                        go_simp
                                                        with_reducible rfl
                                                      rotate_left
                                                      · simp only [Act.put, List.setIfInBounds_toArray, List.set_cons_zero, List.set_cons_succ, i64_w, i32_w]
                                                        rfl
                                                      refine pure_ (i := 4) (N := some 83) (v := ?_) (a' := ?_) #[true, true, true, false, true, false, false, false, false, false] rfl rfl (any_of HT_.out (by kernel_rfl)) (fun _ _ _ h => h) (Or.inl ⟨by rfl, ?_⟩) ?_ ?_
                                                      rotate_left
                                                      · intro w'
                                                        go_simp
                                                        with_reducible rfl
                                                      rotate_left
                                                      · simp only [Act.put, List.setIfInBounds_toArray, List.set_cons_zero, List.set_cons_succ, i64_w, i32_w]
                                                        rfl
                                                      refine pure_ (i := 5) (N := some 84) (v := ?_) (a' := ?_) #[true, true, true, false, true, true, false, false, false, false] rfl rfl (any_of HT_.out (by kernel_rfl)) (fun _ _ _ h => h) (Or.inl ⟨by rfl, ?_⟩) ?_ ?_
                                                      rotate_left
                                                      · intro w'
                                                        go_simp
                                                        with_reducible rfl
                                                      rotate_left
                                                      · simp only [Act.put, List.setIfInBounds_toArray, List.set_cons_zero, List.set_cons_succ, i64_w, i32_w]
                                                        rfl
                                                      refine pure_ (i := 6) (N := some 85) (v := ?_) (a' := ?_) #[true, true, true, false, true, true, true, false, false, false] rfl rfl (any_of HT_.out (by kernel_rfl)) (fun _ _ _ h => h) (Or.inl ⟨by rfl, ?_⟩) ?_ ?_
                                                      rotate_left
                                                      · intro w'
                                                        go_simp
                                                        with_reducible rfl
                                                      rotate_left
                                                      · simp only [Act.put, List.setIfInBounds_toArray, List.set_cons_zero, List.set_cons_succ, i64_w, i32_w]
                                                        rfl
                                                      refine pure_ (i := 7) (N := some 86) (v := ?_) (a' := ?_) #[true, true, true, false, true, true, true, true, false, false] rfl rfl (any_of HT_.out (by kernel_rfl)) (fun _ _ _ h => h) (Or.inl ⟨by rfl, ?_⟩) ?_ ?_
                                                      rotate_left
                                                      · intro w'
                                                        go_simp
                                                        with_reducible rfl
                                                      rotate_left
                                                      · simp only [Act.put, List.setIfInBounds_toArray, List.set_cons_zero, List.set_cons_succ, i64_w, i32_w]
                                                        rfl
                                                      refine take_ (i := 3) (N := some 82) (v := ?_) (a' := ?_) #[true, true, true, true, true, true, true, true, false, false] rfl rfl (take_ofW HT_.out HW_.out (by kernel_rfl)) (fun _ _ _ h => h) (Or.inl ⟨by rfl, ?_⟩) hHeld ?_ ?_
                                                      rotate_left
                                                      · rintro w' ⟨s0, s1, s2, s3, s4⟩
                                                        go_simp
                                                        with_reducible rfl
                                                      rotate_left
                                                      · simp only [Act.put, List.setIfInBounds_toArray, List.set_cons_zero, List.set_cons_succ, i64_w, i32_w]
                                                        rfl
                                                      refine take_ (i := 8) (N := some 87) (v := ?_) (a' := ?_) #[true, true, true, true, true, true, true, true, true, false] rfl rfl (take_ofW HT_.out HW_.out (by kernel_rfl)) (fun _ _ _ h => h) (Or.inl ⟨by rfl, ?_⟩) hHeld ?_ ?_
                                                      rotate_left
                                                      · rintro w' ⟨s0, s1, s2, s3, s4⟩
                                                        go_simp
                                                        with_reducible rfl
                                                      rotate_left
                                                      · simp only [Act.put, List.setIfInBounds_toArray, List.set_cons_zero, List.set_cons_succ, i64_w, i32_w]
                                                        rfl
                                                      refine pure_ (i := 9) (N := some 88) (v := ?_) (a' := ?_) #[true, true, true, true, true, true, true, true, true, true] rfl rfl (any_of HT_.out (by kernel_rfl)) (fun _ _ _ h => h) (Or.inl ⟨by rfl, ?_⟩) ?_ ?_
                                                      rotate_left
                                                      · intro w'
                                                        go_simp
                                                        with_reducible rfl
                                                      rotate_left
                                                      · simp only [Act.put, List.setIfInBounds_toArray, List.set_cons_zero, List.set_cons_succ, i64_w, i32_w]
                                                        rfl
                                                      refine done_ (done_of HT_.out (by kernel_rfl)) ?_
                                                      try go_wp2
                                                      have n0_ := Aside0.mk (Kd.R_drew HO_9.out)
                                                      have n1_ := Aside0.mk (Kd.S_drew HO_10.out)
                                                      have n2_ := Aside0.mk (Kd.R_drew HL146_2.out)
                                                      have n3_ := Aside0.mk (Kd.R_drew HL146_3.out)
                                                      have n4_ := Aside0.mk (Kd.C_drew HR146_2.out)
                                                      have n5_ := Aside0.mk (Kd.C_drew HR146_3.out)
                                                      have n6_ := Aside0.mk (below_drew1 HB.out)
                                                      clear HO_9
                                                      clear HO_10
                                                      clear HL146_2
                                                      clear HL146_3
                                                      clear HR146_2
                                                      clear HR146_3
                                                      clear HB
                                                      have HO_9 := n0_
                                                      have HO_10 := n1_
                                                      have HL146_2 := n2_
                                                      have HL146_3 := n3_
                                                      have HR146_2 := n4_
                                                      have HR146_3 := n5_
                                                      have HB := n6_
                                                      clear n0_ n1_ n2_ n3_ n4_ n5_ n6_
                                                      have q44 : (x12_5 : Int) ≤ ((x9_5.length : Int) : Int) := of_decide_eq_true (by first | (with_reducible assumption) | assumption)
                                                      obtain ⟨i044, hi044, _, hsz44, _⟩ := info_parts info3
                                                      have hroom44 : x9_5.length ≤ co41 := (Kd.R_reads' HO_9.out).2.1
                                                      have hC44 : Kd.C (Kd.int .i64) _ (some ad145) x9_5.length x9_5 := (Kd.R_reads' HO_9.out).2.2
                                                      have hcut44 := cut_to (P := Try.prog) 30 3 .i64 Try.underlying30 hi044 (some ad145) x9_5.length co41 x12_5 (of_decide_eq_true (by first | (with_reducible assumption) | assumption)) q44 hroom44
                                                      have hr44 := Kd.C_take (m := (x12_5 : Int).toNat) hC44 (by omega)
                                                      have hy44 : y150.length = (x12_5 : Int).toNat := (by rw [Ny150.out, List.length_take]; omega)
                                                      rw [← Ny150.out] at hr44
                                                      rw [← hy44] at hcut44
                                                      have HR153 := Aside0.mk hr44
                                                      have HC153 := Aside0.mk (show y150.length ≤ co41 from by omega)
                                                      clear hr44 hC44 hroom44 hi044 hsz44
                                                      have KY44 := Aside0.mk hy44
                                                      clear hy44
                                                      have KL44 := Aside0.mk (show (x12_5 : Int).toNat ≤ x9_5.length from by omega)
                                                      replace q44 := eq_true q44
                                                      have q45 : ((ji37) : Int) ≤ ((x9_5.length : Int) : Int) := of_decide_eq_true (by first | (with_reducible assumption) | assumption)
                                                      obtain ⟨i045, hi045, _, hsz45, _⟩ := info_parts info3
                                                      have hroom45 : x9_5.length ≤ co41 := (Kd.R_reads' HO_9.out).2.1
                                                      have hC45 : Kd.C (Kd.int .i64) _ (some ad145) x9_5.length x9_5 := (Kd.R_reads' HO_9.out).2.2
                                                      have q045 : (0 : Int) ≤ ((ji37) : Int) := of_decide_eq_true (by first | (with_reducible assumption) | assumption)
                                                      have hcut45 := cut_from (P := Try.prog) 30 3 .i64 Try.underlying30 hi045 1 hsz45 (some ad145) x9_5.length co41 (ji37) q045 q45
                                                      have hr45 := Kd.C_drop (m := ((ji37) : Int).toNat) (c := co41) hC45 (by omega) hroom45
                                                      obtain ⟨A45, hA45⟩ : ∃ A1, A1 = (if co41 = ((ji37) : Int).toNat then (some ad145) else ((some ad145) : Option Addr).map (·.add (((ji37) : Int).toNat * 1))) := ⟨_, rfl⟩
                                                      obtain ⟨c45, hc45⟩ : ∃ c1, c1 = co41 - ((ji37) : Int).toNat := ⟨_, rfl⟩
                                                      have hy45 : y157.length = x9_5.length - ((ji37) : Int).toNat := (by rw [Ny157.out, List.length_drop] <;> omega)
                                                      rw [show (x9_5).drop ((ji37) : Int).toNat = y157 from Ny157.out.symm] at hr45
                                                      replace hr45 : Kd.C (Kd.int .i64) _ A45 y157.length y157 := (by rw [hA45]; exact hr45)
                                                      rw [← hy45, ← hA45, ← hc45] at hcut45
                                                      have HR160 := Aside0.mk hr45
                                                      have HC160 := Aside0.mk (show y157.length ≤ c45 from by rw [hy45, hc45]; exact Nat.sub_le_sub_right hroom45 _)
                                                      clear hr45 hC45 hroom45 hi045 hsz45 hc45
                                                      have KY45 := Aside0.mk hy45
                                                      have KA45 := Aside0.mk hA45
                                                      clear hy45 hA45
                                                      have KL45 := Aside0.mk (show ((ji37) : Int).toNat ≤ x9_5.length from by omega)
                                                      replace q45 := eq_true q45
                                                      refine start_ (n := 11) (S := fun w' => True) (ds := []) #[false, false, false, false, false, false, false, false, false, false, false] (by kernel_rfl) rfl rfl trivial (fun hHeld => ?_); refine with_tabW laws_FnHeapTree.tab17 laws_FnHeapTree.bits17 (fun HT_ HW_ => ?_)
                                                      generalize w42.drew = w43 at HO_9 HO_10 HL146_2 HL146_3 HR146_2 HR146_3 HB HR153 HR160 hHeld ⊢
                                                      refine pure_ (i := 1) (N := some 90) (v := ?_) (a' := ?_) #[false, true, false, false, false, false, false, false, false, false, false] rfl rfl (any_of HT_.out (by kernel_rfl)) (fun _ _ _ h => h) (Or.inl ⟨by rfl, ?_⟩) ?_ ?_
                                                      rotate_left
                                                      · intro w'
                                                        go_simp
                                                        with_reducible rfl
                                                      rotate_left
                                                      · simp only [Act.put, List.setIfInBounds_toArray, List.set_cons_zero, List.set_cons_succ, i64_w, i32_w]
                                                        rfl
                                                      refine pure_ (i := 2) (N := some 91) (v := ?_) (a' := ?_) #[false, true, true, false, false, false, false, false, false, false, false] rfl rfl (any_of HT_.out (by kernel_rfl)) (fun _ _ _ h => h) (Or.inl ⟨by rfl, ?_⟩) ?_ ?_
                                                      rotate_left
                                                      · intro w'
                                                        go_simp
                                                        with_reducible rfl
                                                      rotate_left
                                                      · simp only [Act.put, List.setIfInBounds_toArray, List.set_cons_zero, List.set_cons_succ, i64_w, i32_w]
                                                        rfl
                                                      refine pure_ (i := 3) (N := some 92) (v := ?_) (a' := ?_) #[false, true, true, true, false, false, false, false, false, false, false] rfl rfl (any_of HT_.out (by kernel_rfl)) (fun _ _ _ h => h) (Or.inl ⟨by rfl, ?_⟩) ?_ ?_
                                                      rotate_left
                                                      · intro w'
                                                        go_simp
                                                        with_reducible rfl
                                                      rotate_left
                                                      · simp only [Act.put, List.setIfInBounds_toArray, List.set_cons_zero, List.set_cons_succ, i64_w, i32_w]
                                                        rfl
                                                      refine pure_ (i := 5) (N := some 94) (v := ?_) (a' := ?_) #[false, true, true, true, false, true, false, false, false, false, false] rfl rfl (any_of HT_.out (by kernel_rfl)) (fun _ _ _ h => h) (Or.inl ⟨by rfl, ?_⟩) ?_ ?_
                                                      rotate_left
                                                      · intro w'
                                                        go_simp
                                                        with_reducible rfl
                                                      rotate_left
                                                      · simp only [Act.put, List.setIfInBounds_toArray, List.set_cons_zero, List.set_cons_succ, i64_w, i32_w]
                                                        rfl
                                                      refine pure_ (i := 6) (N := some 95) (v := ?_) (a' := ?_) #[false, true, true, true, false, true, true, false, false, false, false] rfl rfl (any_of HT_.out (by kernel_rfl)) (fun _ _ _ h => h) (Or.inl ⟨by rfl, ?_⟩) ?_ ?_
                                                      rotate_left
                                                      · intro w'
                                                        go_simp
                                                        with_reducible rfl
                                                      rotate_left
                                                      · simp only [Act.put, List.setIfInBounds_toArray, List.set_cons_zero, List.set_cons_succ, i64_w, i32_w]
                                                        rfl
                                                      refine pure_ (i := 7) (N := some 96) (v := ?_) (a' := ?_) #[false, true, true, true, false, true, true, true, false, false, false] rfl rfl (any_of HT_.out (by kernel_rfl)) (fun _ _ _ h => h) (Or.inl ⟨by rfl, ?_⟩) ?_ ?_
                                                      rotate_left
                                                      · intro w'
                                                        go_simp
                                                        with_reducible rfl
                                                      rotate_left
                                                      · simp only [Act.put, List.setIfInBounds_toArray, List.set_cons_zero, List.set_cons_succ, i64_w, i32_w]
                                                        rfl
                                                      refine pure_ (i := 8) (N := some 97) (v := ?_) (a' := ?_) #[false, true, true, true, false, true, true, true, true, false, false] rfl rfl (any_of HT_.out (by kernel_rfl)) (fun _ _ _ h => h) (Or.inl ⟨by rfl, ?_⟩) ?_ ?_
                                                      rotate_left
                                                      · intro w'
                                                        go_simp
                                                        with_reducible rfl
                                                      rotate_left
                                                      · simp only [Act.put, List.setIfInBounds_toArray, List.set_cons_zero, List.set_cons_succ, i64_w, i32_w]
                                                        rfl
                                                      refine one_ (i := 0) (N := some 89) #[true, true, true, true, false, true, true, true, true, false, false] rfl rfl (one_of HT_.out (by kernel_rfl)) (by decide) (fun K hK => ?_)
                                                      refine Kd.R_lit_step (Kd.int .i64) _ 3 ?hg (N := 89) ?hd (xs := ([] : List Int)) (inner := []) (ok := fun _ => True) (okp := fun _ => True) ?hr ?hp (fun _ hk => hk) trivial (Below.refl _ _) (Nat.le_refl _) (by simp) ?_; (case hd => rfl); (case hg => rfl); (case hr => first | (go_simp; done) | (go_simp; rfl)); (case hp => exact (Reps.none _ _))
                                                      intro v148 w46 ho47 hb hg_ hnew_
                                                      clear hg_ hnew_
                                                      (first | rw [← Ny147.out] at ho47 | (simp only [Int.reduceToNat] at ho47; rw [← Ny147.out] at ho47))
                                                      have n0_ := Aside0.mk (Kd.R_elder' (by (with_reducible repeat (first | apply Kd.R_alloc | apply Kd.R_drewN | apply Kd.R_drew)); exact HO_9.out) (Kd.R_base ho47) hb)
                                                      have n1_ := Aside0.mk (Kd.S_elder' (by (with_reducible repeat (first | apply Kd.S_alloc | apply Kd.S_drewN | apply Kd.S_drew)); exact HO_10.out) (Kd.R_base ho47) hb)
                                                      have n2_ := Aside0.mk (Kd.R_elder' (by (with_reducible repeat (first | apply Kd.R_alloc | apply Kd.R_drewN | apply Kd.R_drew)); exact HL146_2.out) (Kd.R_base ho47) hb)
                                                      have n3_ := Aside0.mk (Kd.R_elder' (by (with_reducible repeat (first | apply Kd.R_alloc | apply Kd.R_drewN | apply Kd.R_drew)); exact HL146_3.out) (Kd.R_base ho47) hb)
                                                      have n4_ := Aside0.mk (Kd.R_lower (Kd.R_new' (Kd.R_new' (Kd.R_new' ho47 (Kd.R_lt (by (with_reducible repeat (first | apply Kd.R_alloc | apply Kd.R_drewN | apply Kd.R_drew)); exact HO_9.out))) (Kd.R_lt (by (with_reducible repeat (first | apply Kd.R_alloc | apply Kd.R_drewN | apply Kd.R_drew)); exact HL146_2.out))) (Kd.R_lt (by (with_reducible repeat (first | apply Kd.R_alloc | apply Kd.R_drewN | apply Kd.R_drew)); exact HL146_3.out))) (below_size (by repeat (first | (with_reducible first | exact HB.out | apply below_alloc | apply pw_below_drewN | apply below_drew1) | exact HB.out))))
                                                      have n5_ := Aside0.mk (Kd.C_below (by repeat (first | (with_reducible exact HR146_2.out) | (with_reducible refine Kd.C_alloc ?_ _) | (with_reducible refine Kd.C_drewN ?_ _) | (with_reducible refine Kd.C_drew ?_) | exact HR146_2.out)) hb)
                                                      have n6_ := Aside0.mk (Kd.C_below (by repeat (first | (with_reducible exact HR146_3.out) | (with_reducible refine Kd.C_alloc ?_ _) | (with_reducible refine Kd.C_drewN ?_ _) | (with_reducible refine Kd.C_drew ?_) | exact HR146_3.out)) hb)
                                                      have n7_ := Aside0.mk (Kd.C_below (by repeat (first | (with_reducible exact HR153.out) | (with_reducible refine Kd.C_alloc ?_ _) | (with_reducible refine Kd.C_drewN ?_ _) | (with_reducible refine Kd.C_drew ?_) | exact HR153.out)) hb)
                                                      have n8_ := Aside0.mk (Kd.C_below (by repeat (first | (with_reducible exact HR160.out) | (with_reducible refine Kd.C_alloc ?_ _) | (with_reducible refine Kd.C_drewN ?_ _) | (with_reducible refine Kd.C_drew ?_) | exact HR160.out)) hb)
                                                      have n9_ := Aside0.mk (below_step (by repeat (first | (with_reducible first | exact HB.out | apply below_alloc | apply pw_below_drewN | apply below_drew1) | exact HB.out)) hb)
                                                      clear HO_9
                                                      clear HO_10
                                                      clear HL146_2
                                                      clear HL146_3
                                                      clear HR146_2
                                                      clear HR146_3
                                                      clear HR153
                                                      clear HR160
                                                      clear HB
                                                      have HO_9 := n0_
                                                      have HO_10 := n1_
                                                      have HL146_2 := n2_
                                                      have HL146_3 := n3_
                                                      have HO149 := n4_
                                                      have HR146_2 := n5_
                                                      have HR146_3 := n6_
                                                      have HR153 := n7_
                                                      have HR160 := n8_
                                                      have HB := n9_
                                                      clear n0_ n1_ n2_ n3_ n4_ n5_ n6_ n7_ n8_ n9_
                                                      clear hb ho47
                                                      refine hK.out _ _ trivial (fun hHeld => ?_)
                                                      clear hK K
                                                      refine norm_ (a' := ?_) ?_ ?_
                                                      rotate_left
                                                      · show Act.put _ (some 89) _ = _
                                                        simp only [Act.put, List.setIfInBounds_toArray, List.set_cons_zero, List.set_cons_succ, i64_w, i32_w]
                                                        rfl
                                                      refine one_ (i := 4) (N := some 93) #[true, true, true, true, true, true, true, true, true, false, false] rfl rfl (one_of HT_.out (by kernel_rfl)) (by decide) (fun K hK => ?_)
                                                      refine Kd.R_append_rows_step (Kd.int .i64) (w0 := w) w.heap.size (by rfl) (.tmp 89) (.tmp 92) 30 3 (.int .i64 0) 8 rfl Try.underlying30 info3 rfl (by decide) (by omega) v148 y147 y150 _ _ _ (fun k_ => some k_ ≠ (.slice (some ad145) x9_5.length co41 : Value).ownBlock ∧ some k_ ≠ (.slice A146_2 ((rd_T34 t135 x11_2).f2).length c146_2 : Value).ownBlock ∧ some k_ ≠ (.slice A146_3 ((rd_T34 t135 x11_2).f3).length c146_3 : Value).ownBlock) (fun _ => False) rfl rfl ?aO ?aR (fun _ _ h => h) (fun _ h => h.elim) ?aF ?aB ?aS ?aL ?_
                                                      (case aR => repeat (first | exact (by repeat (first | (with_reducible exact HR153.out) | (with_reducible refine Kd.C_alloc ?_ _) | (with_reducible refine Kd.C_drewN ?_ _) | (with_reducible refine Kd.C_drew ?_) | exact HR153.out)) | (with_reducible refine Kd.C_alloc ?_ _) | (with_reducible refine Kd.C_drewN ?_ _) | (with_reducible refine Kd.C_drew ?_)))
                                                      (case aB => exact (by repeat (first | (with_reducible first | exact HB.out | apply below_alloc | apply pw_below_drewN | apply below_drew1) | exact HB.out)))
                                                      (case aF => exact (fun k_ hk => ⟨Kd.fresh' (Kd.R_lt (by (with_reducible repeat (first | apply Kd.R_alloc | apply Kd.R_drewN | apply Kd.R_drew)); exact HO_9.out)) k_ hk, Kd.fresh' (Kd.R_lt (by (with_reducible repeat (first | apply Kd.R_alloc | apply Kd.R_drewN | apply Kd.R_drew)); exact HL146_2.out)) k_ hk, Kd.fresh' (Kd.R_lt (by (with_reducible repeat (first | apply Kd.R_alloc | apply Kd.R_drewN | apply Kd.R_drew)); exact HL146_3.out)) k_ hk⟩))
                                                      (case aO => exact (by (with_reducible repeat (first | apply Kd.R_alloc | apply Kd.R_drewN | apply Kd.R_drew)); exact Kd.R_mono HO149.out (fun _ hk => ⟨hk.1.1.2, ⟨hk.1.2, hk.2⟩⟩)))
                                                      (case aS => exact (below_size (by repeat (first | (with_reducible first | exact HB.out | apply below_alloc | apply pw_below_drewN | apply below_drew1) | exact HB.out))))
                                                      (case aL => have := LMc36.out; omega)
                                                      intro v155 w48 ho hb hg hat
                                                      rw [← Ny154.out] at ho
                                                      have n0_ := Aside0.mk (Kd.R_after (ok := (fun _ => True)) (by (with_reducible repeat (first | apply Kd.R_alloc | apply Kd.R_drewN | apply Kd.R_drew)); exact HO_9.out) hg hat)
                                                      have n1_ := Aside0.mk (Kd.S_after (ok := (fun k_ => some k_ ≠ (.slice (some ad145) x9_5.length co41 : Value).ownBlock)) (by (with_reducible repeat (first | apply Kd.S_alloc | apply Kd.S_drewN | apply Kd.S_drew)); exact HO_10.out) hg hat)
                                                      have n2_ := Aside0.mk (Kd.R_after (ok := (fun k_ => some k_ ≠ (.slice (some ad145) x9_5.length co41 : Value).ownBlock ∧ some k_ ≠ (.slice (some ad146) t135.length co16 : Value).ownBlock)) (by (with_reducible repeat (first | apply Kd.R_alloc | apply Kd.R_drewN | apply Kd.R_drew)); exact HL146_2.out) hg hat)
                                                      have n3_ := Aside0.mk (Kd.R_after (ok := (fun k_ => some k_ ≠ (.slice (some ad145) x9_5.length co41 : Value).ownBlock ∧ some k_ ≠ (.slice (some ad146) t135.length co16 : Value).ownBlock)) (by (with_reducible repeat (first | apply Kd.R_alloc | apply Kd.R_drewN | apply Kd.R_drew)); exact HL146_3.out) hg hat)
                                                      have n4_ := Aside0.mk (hb)
                                                      have n5_ := Aside0.mk ((show Kd.C (Kd.int .i64) w48 (some ad145) y150.length y150 from by rw [Ny150.out]; exact Kd.C_take (m := (x12_5 : Int).toNat) ((Kd.R_reads' (Kd.R_after (ok := (fun _ => True)) (by (with_reducible repeat (first | apply Kd.R_alloc | apply Kd.R_drewN | apply Kd.R_drew)); exact HO_9.out) hg hat)).2.2) KL44.out))
                                                      have n6_ := Aside0.mk ((show Kd.C (Kd.int .i64) w48 A45 y157.length y157 from by rw [Ny157.out, KA45.out]; exact Kd.C_drop (m := ((ji37) : Int).toNat) (c := co41) ((Kd.R_reads' (Kd.R_after (ok := (fun _ => True)) (by (with_reducible repeat (first | apply Kd.R_alloc | apply Kd.R_drewN | apply Kd.R_drew)); exact HO_9.out) hg hat)).2.2) KL45.out ((Kd.R_reads' (Kd.R_after (ok := (fun _ => True)) (by (with_reducible repeat (first | apply Kd.R_alloc | apply Kd.R_drewN | apply Kd.R_drew)); exact HO_9.out) hg hat)).2.1)))
                                                      have n7_ := Aside0.mk (ho)
                                                      clear HO_9
                                                      clear HO_10
                                                      clear HL146_2
                                                      clear HL146_3
                                                      clear HB
                                                      clear HR153
                                                      clear HR160
                                                      clear HO149
                                                      have HO_9 := n0_
                                                      have HO_10 := n1_
                                                      have HL146_2 := n2_
                                                      have HL146_3 := n3_
                                                      have HB := n4_
                                                      have HR153 := n5_
                                                      have HR160 := n6_
                                                      have HO156 := n7_
                                                      clear n0_ n1_ n2_ n3_ n4_ n5_ n6_ n7_
                                                      clear ho hb hg hat
                                                      refine hK.out _ _ trivial (fun hHeld => ?_)
                                                      clear hK K
                                                      refine norm_ (a' := ?_) ?_ ?_
                                                      rotate_left
                                                      · show Act.put _ (some 93) _ = _
                                                        simp only [Act.put, List.setIfInBounds_toArray, List.set_cons_zero, List.set_cons_succ, i64_w, i32_w]
                                                        rfl
                                                      refine one_ (i := 9) (N := some 98) #[true, true, true, true, true, true, true, true, true, true, false] rfl rfl (one_of HT_.out (by kernel_rfl)) (by decide) (fun K hK => ?_)
                                                      refine Kd.R_append_rows_step (Kd.int .i64) (w0 := w) w.heap.size (by rfl) (.tmp 93) (.tmp 97) 30 3 (.int .i64 0) 8 rfl Try.underlying30 info3 rfl (by decide) (by omega) v155 y154 y157 _ _ _ (fun k_ => some k_ ≠ (.slice (some ad145) x9_5.length co41 : Value).ownBlock ∧ some k_ ≠ (.slice A146_2 ((rd_T34 t135 x11_2).f2).length c146_2 : Value).ownBlock ∧ some k_ ≠ (.slice A146_3 ((rd_T34 t135 x11_2).f3).length c146_3 : Value).ownBlock) (fun _ => False) rfl rfl ?aO ?aR (fun _ _ h => h) (fun _ h => h.elim) ?aF ?aB ?aS ?aL ?_
                                                      (case aR => repeat (first | exact (by repeat (first | (with_reducible exact HR160.out) | (with_reducible refine Kd.C_alloc ?_ _) | (with_reducible refine Kd.C_drewN ?_ _) | (with_reducible refine Kd.C_drew ?_) | exact HR160.out)) | (with_reducible refine Kd.C_alloc ?_ _) | (with_reducible refine Kd.C_drewN ?_ _) | (with_reducible refine Kd.C_drew ?_)))
                                                      (case aB => exact (by repeat (first | (with_reducible first | exact HB.out | apply below_alloc | apply pw_below_drewN | apply below_drew1) | exact HB.out)))
                                                      (case aF => exact (fun k_ hk => ⟨Kd.fresh' (Kd.R_lt (by (with_reducible repeat (first | apply Kd.R_alloc | apply Kd.R_drewN | apply Kd.R_drew)); exact HO_9.out)) k_ hk, Kd.fresh' (Kd.R_lt (by (with_reducible repeat (first | apply Kd.R_alloc | apply Kd.R_drewN | apply Kd.R_drew)); exact HL146_2.out)) k_ hk, Kd.fresh' (Kd.R_lt (by (with_reducible repeat (first | apply Kd.R_alloc | apply Kd.R_drewN | apply Kd.R_drew)); exact HL146_3.out)) k_ hk⟩))
                                                      (case aO => exact (by (with_reducible repeat (first | apply Kd.R_alloc | apply Kd.R_drewN | apply Kd.R_drew)); exact HO156.out))
                                                      (case aS => exact (below_size (by repeat (first | (with_reducible first | exact HB.out | apply below_alloc | apply pw_below_drewN | apply below_drew1) | exact HB.out))))
                                                      (case aL => have := LMc40.out; omega)
                                                      intro v162 w49 ho hb hg hat
                                                      rw [← Ny161.out] at ho
                                                      have n0_ := Aside0.mk (Kd.R_after (ok := (fun _ => True)) (by (with_reducible repeat (first | apply Kd.R_alloc | apply Kd.R_drewN | apply Kd.R_drew)); exact HO_9.out) hg hat)
                                                      have n1_ := Aside0.mk (Kd.S_after (ok := (fun k_ => some k_ ≠ (.slice (some ad145) x9_5.length co41 : Value).ownBlock)) (by (with_reducible repeat (first | apply Kd.S_alloc | apply Kd.S_drewN | apply Kd.S_drew)); exact HO_10.out) hg hat)
                                                      have n2_ := Aside0.mk (Kd.R_after (ok := (fun k_ => some k_ ≠ (.slice (some ad145) x9_5.length co41 : Value).ownBlock ∧ some k_ ≠ (.slice (some ad146) t135.length co16 : Value).ownBlock)) (by (with_reducible repeat (first | apply Kd.R_alloc | apply Kd.R_drewN | apply Kd.R_drew)); exact HL146_2.out) hg hat)
                                                      have n3_ := Aside0.mk (Kd.R_after (ok := (fun k_ => some k_ ≠ (.slice (some ad145) x9_5.length co41 : Value).ownBlock ∧ some k_ ≠ (.slice (some ad146) t135.length co16 : Value).ownBlock)) (by (with_reducible repeat (first | apply Kd.R_alloc | apply Kd.R_drewN | apply Kd.R_drew)); exact HL146_3.out) hg hat)
                                                      have n4_ := Aside0.mk (hb)
                                                      have n5_ := Aside0.mk ((show Kd.C (Kd.int .i64) w49 (some ad145) y150.length y150 from by rw [Ny150.out]; exact Kd.C_take (m := (x12_5 : Int).toNat) ((Kd.R_reads' (Kd.R_after (ok := (fun _ => True)) (by (with_reducible repeat (first | apply Kd.R_alloc | apply Kd.R_drewN | apply Kd.R_drew)); exact HO_9.out) hg hat)).2.2) KL44.out))
                                                      have n6_ := Aside0.mk ((show Kd.C (Kd.int .i64) w49 A45 y157.length y157 from by rw [Ny157.out, KA45.out]; exact Kd.C_drop (m := ((ji37) : Int).toNat) (c := co41) ((Kd.R_reads' (Kd.R_after (ok := (fun _ => True)) (by (with_reducible repeat (first | apply Kd.R_alloc | apply Kd.R_drewN | apply Kd.R_drew)); exact HO_9.out) hg hat)).2.2) KL45.out ((Kd.R_reads' (Kd.R_after (ok := (fun _ => True)) (by (with_reducible repeat (first | apply Kd.R_alloc | apply Kd.R_drewN | apply Kd.R_drew)); exact HO_9.out) hg hat)).2.1)))
                                                      have n7_ := Aside0.mk (ho)
                                                      clear HO_9
                                                      clear HO_10
                                                      clear HL146_2
                                                      clear HL146_3
                                                      clear HB
                                                      clear HR153
                                                      clear HR160
                                                      clear HO156
                                                      have HO_9 := n0_
                                                      have HO_10 := n1_
                                                      have HL146_2 := n2_
                                                      have HL146_3 := n3_
                                                      have HB := n4_
                                                      have HR153 := n5_
                                                      have HR160 := n6_
                                                      have HO163 := n7_
                                                      clear n0_ n1_ n2_ n3_ n4_ n5_ n6_ n7_
                                                      clear ho hb hg hat
                                                      refine hK.out _ _ trivial (fun hHeld => ?_)
                                                      clear hK K
                                                      refine norm_ (a' := ?_) ?_ ?_
                                                      rotate_left
                                                      · show Act.put _ (some 98) _ = _
                                                        simp only [Act.put, List.setIfInBounds_toArray, List.set_cons_zero, List.set_cons_succ, i64_w, i32_w]
                                                        rfl
                                                      refine pure_ (i := 10) (N := some 9) (v := ?_) (a' := ?_) #[true, true, true, true, true, true, true, true, true, true, true] rfl rfl (any_of HT_.out (by kernel_rfl)) (fun _ _ _ h => h) (Or.inl ⟨by rfl, ?_⟩) ?_ ?_
                                                      rotate_left
                                                      · intro w'
                                                        go_simp
                                                        with_reducible rfl
                                                      rotate_left
                                                      · simp only [Act.put, List.setIfInBounds_toArray, List.set_cons_zero, List.set_cons_succ, i64_w, i32_w]
                                                        rfl
                                                      refine done_ (done_of HT_.out (by kernel_rfl)) ?_
                                                      try go_wp2
                                                      go_roundg k5
                                                      case measure => have := HJ4.out; have := HK2.out; have := HJ18.out; have := HJ22.out; have := HK5.out; omega
                                                      case rel => exact ⟨(y161), (wrap64 (x11_2 + 1)), (by first | rfl | (simp; done) | (simp [*]; done)), H', ⟨by have := HJ4.out; have := HK2.out; have := HJ18.out; have := HJ22.out; have := HK5.out; omega⟩, ⟨by (with_reducible repeat (first | apply Kd.R_alloc | apply Kd.R_drewN | apply Kd.R_drew)); exact Kd.R_mono HO163.out (fun _ hk => trivial)⟩, ⟨by (with_reducible repeat (first | apply Kd.S_alloc | apply Kd.S_drewN | apply Kd.S_drew)); exact Kd.S_mono HO_10.out (fun _ hk => hk.2)⟩, ⟨by repeat (first | (with_reducible first | exact HB.out | apply below_alloc | apply pw_below_drewN | apply below_drew1) | exact HB.out)⟩⟩
                                                    · rw [if_neg c40] at H
                                                      exact absurd H (by simp)
                                                  · rw [if_neg c39] at H
                                                    exact absurd H (by simp)
                                                · rw [if_neg c38] at H
                                                  exact absurd H (by simp)
                                              · rw [if_neg c36] at H
                                                exact absurd H (by simp)
                                            · rw [if_neg c35] at H
                                              exact absurd H (by simp)
                                          · rw [if_neg c33] at H
                                            have c33b0 : ((rd x9_5 x12_5) == ((rd_T34 t135 x11_2).f0)) = false := beq_eq_false_iff_ne.mpr c33
                                            have c33b1 : ((rd x9_5 x12_5) != ((rd_T34 t135 x11_2).f0)) = true := bne_iff_ne.mpr c33
                                            have H' := Aside0.mk H
                                            clear H
                                            obtain ⟨Ao50, co50, eo50⟩ := Kd.R_slice HO_9.out
                                            subst eo50
                                            try go_wp2
                                            have n0_ := Aside0.mk (Kd.R_drew HO_9.out)
                                            have n1_ := Aside0.mk (Kd.S_drew HO_10.out)
                                            have n2_ := Aside0.mk (below_drew1 HB.out)
                                            clear HO_9
                                            clear HO_10
                                            clear HB
                                            have HO_9 := n0_
                                            have HO_10 := n1_
                                            have HB := n2_
                                            clear n0_ n1_ n2_
                                            have p145 : 0 ≤ (x12_5 : Int) := of_decide_eq_true (by first | (with_reducible assumption) | assumption)
                                            have q145 : x12_5 < (x9_5.length : Int) := of_decide_eq_true (by first | (with_reducible assumption) | assumption)
                                            obtain ⟨ad145, e145, hx145_0⟩ := Kd.at_int (Kd.R_reads' HO_9.out).2.2 x12_5 p145 q145
                                            cases e145
                                            replace p145 := eq_true p145
                                            replace q145 := eq_true q145
                                            have p146 : 0 ≤ (x11_2 : Int) := of_decide_eq_true (by first | (with_reducible assumption) | assumption)
                                            have q146 : x11_2 < (t135.length : Int) := of_decide_eq_true (by first | (with_reducible assumption) | assumption)
                                            obtain ⟨ad146, A146_2, c146_2, A146_3, c146_3, e146, hx146_0, hx146_1, hx146_2, hx146_3, hl146_2, hi146_2, hl146_3, hi146_3⟩ := at_T34 (Kd.S_reads' HO_10.out).2.2 x11_2 p146 q146
                                            cases e146
                                            obtain ⟨ce146, hce146, hMe146, hcc146⟩ := Kd.S_get HO_10.out z34 x11_2 p146 (by first | exact q146 | exact of_decide_eq_true (by first | (with_reducible assumption) | assumption) | (have e_ := (Kd.S_reads' HO_10.out).1; omega))
                                            obtain ⟨ve146_2, ve146_3, rfl, ge146_2, ge146_3⟩ := k34_openM hMe146
                                            have hv146_2 := hcc146 2 _ rfl
                                            rw [add_field _ _ 2 (by omega)] at hv146_2
                                            replace hv146_2 := Option.some.inj (hv146_2.symm.trans hx146_2)
                                            rw [hv146_2] at ge146_2
                                            have HL146_2 := Aside0.mk (show Kd.R (Kd.int .i64) 3 _ _ _ _ ((rd_T34 t135 x11_2).f2) from ge146_2)
                                            clear hv146_2 ge146_2
                                            have hv146_3 := hcc146 3 _ rfl
                                            rw [add_field _ _ 3 (by omega)] at hv146_3
                                            replace hv146_3 := Option.some.inj (hv146_3.symm.trans hx146_3)
                                            rw [hv146_3] at ge146_3
                                            have HL146_3 := Aside0.mk (show Kd.R (Kd.int .i64) 3 _ _ _ _ ((rd_T34 t135 x11_2).f3) from ge146_3)
                                            clear hv146_3 ge146_3
                                            clear hcc146 hce146
                                            have HR146_2 := Aside0.mk hi146_2
                                            have HC146_2 := Aside0.mk hl146_2
                                            clear hi146_2 hl146_2
                                            have HR146_3 := Aside0.mk hi146_3
                                            have HC146_3 := Aside0.mk hl146_3
                                            clear hi146_3 hl146_3
                                            replace p146 := eq_true p146
                                            replace q146 := eq_true q146
                                            refine start_ (n := 10) (S := fun w' => w'.cell? (ad145.add (x12_5).toNat) = some (.int .i64 (rd x9_5 x12_5)) ∧ w'.cell? (ad146.add ((x11_2).toNat * 4)) = some (.int .i64 ((rd_T34 t135 x11_2).f0)) ∧ w'.cell? ⟨(ad146.add ((x11_2).toNat * 4)).block, (ad146.add ((x11_2).toNat * 4)).off + 1, none⟩ = some (.bool ((rd_T34 t135 x11_2).f1)) ∧ w'.cell? ⟨(ad146.add ((x11_2).toNat * 4)).block, (ad146.add ((x11_2).toNat * 4)).off + 2, none⟩ = some (.slice A146_2 ((rd_T34 t135 x11_2).f2).length c146_2) ∧ w'.cell? ⟨(ad146.add ((x11_2).toNat * 4)).block, (ad146.add ((x11_2).toNat * 4)).off + 3, none⟩ = some (.slice A146_3 ((rd_T34 t135 x11_2).f3).length c146_3)) (ds := []) #[false, false, false, false, false, false, false, false, false, false] (by kernel_rfl) rfl rfl ⟨hx145_0, hx146_0, hx146_1, hx146_2, hx146_3⟩ (fun hHeld => ?_); refine with_tabW laws_FnHeapTree.tab16 laws_FnHeapTree.bits16 (fun HT_ HW_ => ?_)
                                            generalize wr.drew = w51 at HO_9 HO_10 HB HL146_2 HL146_3 HR146_2 HR146_3 hx145_0 hx146_0 hx146_1 hx146_2 hx146_3 hHeld ⊢
                                            refine pure_ (i := 0) (N := some 79) (v := ?_) (a' := ?_) #[true, false, false, false, false, false, false, false, false, false] rfl rfl (any_of HT_.out (by kernel_rfl)) (fun _ _ _ h => h) (Or.inl ⟨by rfl, ?_⟩) ?_ ?_
                                            rotate_left
                                            · intro w'
                                              go_simp
                                              with_reducible rfl
                                            rotate_left
                                            · simp only [Act.put, List.setIfInBounds_toArray, List.set_cons_zero, List.set_cons_succ, i64_w, i32_w]
                                              rfl
                                            refine pure_ (i := 1) (N := some 80) (v := ?_) (a' := ?_) #[true, true, false, false, false, false, false, false, false, false] rfl rfl (any_of HT_.out (by kernel_rfl)) (fun _ _ _ h => h) (Or.inl ⟨by rfl, ?_⟩) ?_ ?_
                                            rotate_left
                                            · intro w'
                                              go_simp
                                              with_reducible rfl
                                            rotate_left
                                            · simp only [Act.put, List.setIfInBounds_toArray, List.set_cons_zero, List.set_cons_succ, i64_w, i32_w]
                                              rfl
                                            refine pure_ (i := 2) (N := some 81) (v := ?_) (a' := ?_) #[true, true, true, false, false, false, false, false, false, false] rfl rfl (any_of HT_.out (by kernel_rfl)) (fun _ _ _ h => h) (Or.inl ⟨by rfl, ?_⟩) ?_ ?_
                                            rotate_left
                                            · intro w'
                                              go_simp
                                              with_reducible rfl
                                            rotate_left
                                            · simp only [Act.put, List.setIfInBounds_toArray, List.set_cons_zero, List.set_cons_succ, i64_w, i32_w]
                                              rfl
                                            refine pure_ (i := 4) (N := some 83) (v := ?_) (a' := ?_) #[true, true, true, false, true, false, false, false, false, false] rfl rfl (any_of HT_.out (by kernel_rfl)) (fun _ _ _ h => h) (Or.inl ⟨by rfl, ?_⟩) ?_ ?_
                                            rotate_left
                                            · intro w'
                                              go_simp
                                              with_reducible rfl
                                            rotate_left
                                            · simp only [Act.put, List.setIfInBounds_toArray, List.set_cons_zero, List.set_cons_succ, i64_w, i32_w]
                                              rfl
                                            refine pure_ (i := 5) (N := some 84) (v := ?_) (a' := ?_) #[true, true, true, false, true, true, false, false, false, false] rfl rfl (any_of HT_.out (by kernel_rfl)) (fun _ _ _ h => h) (Or.inl ⟨by rfl, ?_⟩) ?_ ?_
                                            rotate_left
                                            · intro w'
                                              go_simp
                                              with_reducible rfl
                                            rotate_left
                                            · simp only [Act.put, List.setIfInBounds_toArray, List.set_cons_zero, List.set_cons_succ, i64_w, i32_w]
                                              rfl
                                            refine pure_ (i := 6) (N := some 85) (v := ?_) (a' := ?_) #[true, true, true, false, true, true, true, false, false, false] rfl rfl (any_of HT_.out (by kernel_rfl)) (fun _ _ _ h => h) (Or.inl ⟨by rfl, ?_⟩) ?_ ?_
                                            rotate_left
                                            · intro w'
                                              go_simp
                                              with_reducible rfl
                                            rotate_left
                                            · simp only [Act.put, List.setIfInBounds_toArray, List.set_cons_zero, List.set_cons_succ, i64_w, i32_w]
                                              rfl
                                            refine pure_ (i := 7) (N := some 86) (v := ?_) (a' := ?_) #[true, true, true, false, true, true, true, true, false, false] rfl rfl (any_of HT_.out (by kernel_rfl)) (fun _ _ _ h => h) (Or.inl ⟨by rfl, ?_⟩) ?_ ?_
                                            rotate_left
                                            · intro w'
                                              go_simp
                                              with_reducible rfl
                                            rotate_left
                                            · simp only [Act.put, List.setIfInBounds_toArray, List.set_cons_zero, List.set_cons_succ, i64_w, i32_w]
                                              rfl
                                            refine take_ (i := 3) (N := some 82) (v := ?_) (a' := ?_) #[true, true, true, true, true, true, true, true, false, false] rfl rfl (take_ofW HT_.out HW_.out (by kernel_rfl)) (fun _ _ _ h => h) (Or.inl ⟨by rfl, ?_⟩) hHeld ?_ ?_
                                            rotate_left
                                            · rintro w' ⟨s0, s1, s2, s3, s4⟩
                                              go_simp
                                              with_reducible rfl
                                            rotate_left
                                            · simp only [Act.put, List.setIfInBounds_toArray, List.set_cons_zero, List.set_cons_succ, i64_w, i32_w]
                                              rfl
                                            refine take_ (i := 8) (N := some 87) (v := ?_) (a' := ?_) #[true, true, true, true, true, true, true, true, true, false] rfl rfl (take_ofW HT_.out HW_.out (by kernel_rfl)) (fun _ _ _ h => h) (Or.inl ⟨by rfl, ?_⟩) hHeld ?_ ?_
                                            rotate_left
                                            · rintro w' ⟨s0, s1, s2, s3, s4⟩
                                              go_simp
                                              with_reducible rfl
                                            rotate_left
                                            · simp only [Act.put, List.setIfInBounds_toArray, List.set_cons_zero, List.set_cons_succ, i64_w, i32_w]
                                              rfl
                                            refine pure_ (i := 9) (N := some 88) (v := ?_) (a' := ?_) #[true, true, true, true, true, true, true, true, true, true] rfl rfl (any_of HT_.out (by kernel_rfl)) (fun _ _ _ h => h) (Or.inl ⟨by rfl, ?_⟩) ?_ ?_
                                            rotate_left
                                            · intro w'
                                              go_simp
                                              with_reducible rfl
                                            rotate_left
                                            · simp only [Act.put, List.setIfInBounds_toArray, List.set_cons_zero, List.set_cons_succ, i64_w, i32_w]
                                              rfl
                                            refine done_ (done_of HT_.out (by kernel_rfl)) ?_
                                            try go_wp2
                                            go_roundg k5
                                            case measure => have := HJ4.out; have := HK2.out; have := HJ18.out; have := HJ22.out; have := HK5.out; omega
                                            case rel => exact ⟨(x9_5), (wrap64 (x12_5 + 1)), (by first | rfl | (simp; done) | (simp [*]; done)), H', ⟨by have := HJ4.out; have := HK2.out; have := HJ18.out; have := HJ22.out; have := HK5.out; omega⟩, ⟨by (with_reducible repeat (first | apply Kd.R_alloc | apply Kd.R_drewN | apply Kd.R_drew)); exact HO_9.out⟩, ⟨by (with_reducible repeat (first | apply Kd.S_alloc | apply Kd.S_drewN | apply Kd.S_drew)); exact HO_10.out⟩, ⟨by repeat (first | (with_reducible first | exact HB.out | apply below_alloc | apply pw_below_drewN | apply below_drew1) | exact HB.out)⟩⟩
                                        · rw [if_neg c32] at H
                                          exact absurd H (by simp)
                                      · rw [if_neg c31] at H
                                        exact absurd H (by simp)
                                    · rw [if_neg c30] at H
                                      exact absurd H (by simp)
                                  · rw [if_neg c29] at H
                                    have c29b0 : decide (x12_5 < (x9_5.length : Int)) = false := decide_eq_false c29
                                    clear c29
                                    have H' := Aside0.mk H
                                    clear H
                                    obtain ⟨Ao52, co52, eo52⟩ := Kd.R_slice HO_9.out
                                    subst eo52
                                    go_wp2
                                    go_roundg k5
                                    case measure => have := HJ4.out; have := HK2.out; have := HJ18.out; have := HJ22.out; have := HK5.out; omega
                                    case rel => exact ⟨(x9_5), (wrap64 (x11_2 + 1)), (by first | rfl | (simp; done) | (simp [*]; done)), H', ⟨by have := HJ4.out; have := HK2.out; have := HJ18.out; have := HJ22.out; have := HK5.out; omega⟩, ⟨by (with_reducible repeat (first | apply Kd.R_alloc | apply Kd.R_drewN | apply Kd.R_drew)); exact HO_9.out⟩, ⟨by (with_reducible repeat (first | apply Kd.S_alloc | apply Kd.S_drewN | apply Kd.S_drew)); exact HO_10.out⟩, ⟨by repeat (first | (with_reducible first | exact HB.out | apply below_alloc | apply pw_below_drewN | apply below_drew1) | exact HB.out)⟩⟩
                            · replace c28 := Bool.eq_false_iff.mpr c28
                              subst c28
                              have H1 : (laws_FnHeapTree.l0 kj22 l0 a1 l2 l3 x9_18 t135 (wrap64 (x11_2 + 1))) = some r := by rw [if_neg (show ¬ (false = true) by decide)] at H; exact H
                              clear H
                              have H := H1
                              clear H1
                              have H' := Aside0.mk H
                              clear H
                              go_wp2
                              go_roundg kj22
                              case measure => have := HJ4.out; have := HK2.out; have := HJ18.out; have := HJ22.out; omega
                              case rel => exact ⟨(x9_18), (wrap64 (x11_2 + 1)), (by first | rfl | (simp; done) | (simp [*]; done)), H', ⟨by have := HJ4.out; have := HK2.out; have := HJ18.out; have := HJ22.out; omega⟩, ⟨by (with_reducible repeat (first | apply Kd.R_alloc | apply Kd.R_drewN | apply Kd.R_drew)); exact HO_9.out⟩, ⟨by (with_reducible repeat (first | apply Kd.S_alloc | apply Kd.S_drewN | apply Kd.S_drew)); exact HO_10.out⟩, ⟨by repeat (first | (with_reducible first | exact HB.out | apply below_alloc | apply pw_below_drewN | apply below_drew1) | exact HB.out)⟩⟩
                  · rw [if_neg c18] at H
                    exact absurd H (by simp)
                · rw [if_neg c17] at H
                  have c17b0 : decide (x11_2 < (l3.length : Int)) = false := decide_eq_false c17
                  clear c17
                  replace H := Option.bind_eq_some_iff.mp H
                  obtain ⟨t164, A530, H⟩ := H
                  replace H : ((spec_BagRows.f k2 ([] : List Int) t164 x9_2).bind fun t167 => (if t167 = true then ((laws_heapTree.f k2 l0 t164).bind fun t168 => (if t168 = true then ((impl_HeapData.f l0 a1 (([3] : List Int)) ([] : List (S27))).bind fun t172 => (some ((t172.length : Int) == 1))) else (some false))) else (some false))) = some r := H
                  have A53 := Aside0.mk A530
                  clear A530
                  replace H := Option.bind_eq_some_iff.mp H
                  obtain ⟨t167, A540, H⟩ := H
                  replace H : (if t167 = true then ((laws_heapTree.f k2 l0 t164).bind fun t168 => (if t168 = true then ((impl_HeapData.f l0 a1 (([3] : List Int)) ([] : List (S27))).bind fun t172 => (some ((t172.length : Int) == 1))) else (some false))) else (some false)) = some r := H
                  have A54 := Aside0.mk A540
                  clear A540
                  by_cases c55 : t167 = true
                  · subst c55
                    have H1 : ((laws_heapTree.f k2 l0 t164).bind fun t168 => (if t168 = true then ((impl_HeapData.f l0 a1 (([3] : List Int)) ([] : List (S27))).bind fun t172 => (some ((t172.length : Int) == 1))) else (some false))) = some r := by rw [if_pos rfl] at H; exact H
                    clear H
                    have H := H1
                    clear H1
                    replace H := Option.bind_eq_some_iff.mp H
                    obtain ⟨t168, A560, H⟩ := H
                    replace H : (if t168 = true then ((impl_HeapData.f l0 a1 (([3] : List Int)) ([] : List (S27))).bind fun t172 => (some ((t172.length : Int) == 1))) else (some false)) = some r := H
                    have A56 := Aside0.mk A560
                    clear A560
                    by_cases c57 : t168 = true
                    · subst c57
                      have H1 : ((impl_HeapData.f l0 a1 (([3] : List Int)) ([] : List (S27))).bind fun t172 => (some ((t172.length : Int) == 1))) = some r := by rw [if_pos rfl] at H; exact H
                      clear H
                      have H := H1
                      clear H1
                      obtain ⟨y169, hy169⟩ : ∃ y_ : List Int, y_ = (([3] : List Int)) := ⟨_, rfl⟩
                      replace H : ((impl_HeapData.f l0 a1 y169 ([] : List (S27))).bind fun t172 => (some ((t172.length : Int) == 1))) = some r := by first | (rw [hy169]; with_reducible exact H) | (have H2_ := (Option.bind_some _ _).symm.trans H; rw [hy169]; with_reducible exact H2_) | (have H2_ := (Option.bind_some _ _).symm.trans H; with_reducible exact H2_) | with_reducible exact H | (rw [hy169]; exact H) | exact H
                      have Ny169 := Aside0.mk hy169
                      clear hy169
                      replace H := Option.bind_eq_some_iff.mp H
                      obtain ⟨t172, A580, H⟩ := H
                      replace H : (some ((t172.length : Int) == 1)) = some r := H
                      have A58 := Aside0.mk A580
                      clear A580
                      obtain rfl := Option.some.inj H
                      go_wp2_with (first | ((with_reducible refine gate_callee (f := 21) rfl ?_); refine goesL_ (some 103) rfl rfl Try.func21 (by kernel_rfl) rfl #[.slice A0 l0.length c0, .int .i64 a1, .slice A2 l2.length c2, .slice A3 l3.length c3] rfl (by (try simp only [List.map_toArray, List.map_cons, List.map_nil]); first | done | rfl | (simp only [List.length_drop, List.length_take]; rfl)) ?_; (with_reducible refine (impl_HeapData.calls _ _ l0 a1 _ _ l2 _ _ l3 t164 _ ?side1 ?side2 ?side3 ?side4 ?side5 ?side6 A53.out).mono ?_); (case side1 => repeat (first | exact (Kd.C_below HR0.out HB.out) | (with_reducible refine Kd.C_alloc ?_ _) | (with_reducible refine Kd.C_drewN ?_ _) | (with_reducible refine Kd.C_drew ?_))); (case side2 => exact HC0.out); (case side3 => repeat (first | exact (Kd.C_below HR2.out HB.out) | (with_reducible refine Kd.C_alloc ?_ _) | (with_reducible refine Kd.C_drewN ?_ _) | (with_reducible refine Kd.C_drew ?_))); (case side4 => exact HC2.out); (case side5 => repeat (first | exact (Kd.C_below HR3.out HB.out) | (with_reducible refine Kd.C_alloc ?_ _) | (with_reducible refine Kd.C_drewN ?_ _) | (with_reducible refine Kd.C_drew ?_))); (case side6 => exact HC3.out); rintro e w59 ⟨v165, rfl, ho0, hb⟩; refine ⟨_, rfl, ?_⟩; have n0_ := Aside0.mk (Kd.R_elder' (by (with_reducible repeat (first | apply Kd.R_alloc | apply Kd.R_drewN | apply Kd.R_drew)); exact HO_9.out) (Kd.R_base ho0) hb); have n1_ := Aside0.mk (Kd.S_elder' (by (with_reducible repeat (first | apply Kd.S_alloc | apply Kd.S_drewN | apply Kd.S_drew)); exact HO_10.out) (Kd.R_base ho0) hb); have n2_ := Aside0.mk (Kd.R_lower (Kd.R_new' ho0 (Kd.R_lt (by (with_reducible repeat (first | apply Kd.R_alloc | apply Kd.R_drewN | apply Kd.R_drew)); exact HO_9.out))) (below_size (by repeat (first | (with_reducible first | exact HB.out | apply below_alloc | apply pw_below_drewN | apply below_drew1) | exact HB.out)))); have n3_ := Aside0.mk (below_step (by repeat (first | (with_reducible first | exact HB.out | apply below_alloc | apply pw_below_drewN | apply below_drew1) | exact HB.out)) hb); clear HO_9; clear HO_10; clear HB; have HO_9 := n0_; have HO_10 := n1_; have HO166 := n2_; have HB := n3_; clear n0_ n1_ n2_ n3_; (try clear hb); (try clear hb2); (try clear hk); (try clear hi); (try clear ho0); obtain ⟨Ao60, co60, eo60⟩ := Kd.R_slice HO166.out; subst eo60; obtain ⟨Ao61, co61, eo61⟩ := Kd.R_slice HO_9.out; subst eo61) | ((with_reducible refine gate_callee (f := 20) rfl ?_); refine goesL_ (some 106) rfl rfl Try.func20 (by kernel_rfl) rfl #[.slice none 0 0, .slice Ao60 t164.length co60, .slice Ao61 x9_2.length co61] rfl (by (try simp only [List.map_toArray, List.map_cons, List.map_nil]); first | done | rfl | (simp only [List.length_drop, List.length_take]; rfl)) ?_; (refine (spec_BagRows.calls k2 _ _ ([] : List Int) _ _ t164 _ _ x9_2 true _ ?side1 ?side2 ?side3 ?side4 ?side5 ?side6 A54.out).mono ?_); (case side1 => exact Kd.C_nil _ _); (case side2 => exact Nat.le_refl _); (case side3 => repeat (first | exact (Kd.R_reads' HO166.out).2.2 | (with_reducible refine Kd.C_alloc ?_ _) | (with_reducible refine Kd.C_drewN ?_ _) | (with_reducible refine Kd.C_drew ?_))); (case side4 => exact (Kd.R_reads' HO166.out).2.1); (case side5 => repeat (first | exact (Kd.R_reads' HO_9.out).2.2 | (with_reducible refine Kd.C_alloc ?_ _) | (with_reducible refine Kd.C_drewN ?_ _) | (with_reducible refine Kd.C_drew ?_))); (case side6 => exact (Kd.R_reads' HO_9.out).2.1); rintro e w' ⟨rfl, ⟨nd, rfl⟩⟩; refine ⟨_, rfl, ?_⟩) | (go_at_call 23; (with_reducible refine (laws_heapTree.calls k2 _ _ l0 _ _ t164 true _ ?side1 ?side2 ?side3 ?side4 A56.out).mono ?_); (case side1 => repeat (first | exact (Kd.C_below HR0.out (by repeat (first | (with_reducible first | exact HB.out | apply below_alloc | apply pw_below_drewN | apply below_drew1) | exact HB.out))) | (with_reducible refine Kd.C_alloc ?_ _) | (with_reducible refine Kd.C_drewN ?_ _) | (with_reducible refine Kd.C_drew ?_))); (case side2 => exact HC0.out); (case side3 => repeat (first | exact (Kd.R_reads' HO166.out).2.2 | (with_reducible refine Kd.C_alloc ?_ _) | (with_reducible refine Kd.C_drewN ?_ _) | (with_reducible refine Kd.C_drew ?_))); (case side4 => exact (Kd.R_reads' HO166.out).2.1); rintro e w' ⟨rfl, ⟨nd, rfl⟩⟩) | ((with_reducible refine gate_dst (N := 115) rfl ?_); (try (refine gate_guard (by rfl) ?_; dsimp only)); refine Kd.R_lit (Kd.int .i64) _ 3 ?hg (N := 115) ?hd (xs := ([3] : List Int)) (inner := [.int .i64 3]) (ok := fun _ => True) (okp := fun _ => True) ?hr ?hp (fun _ hk => hk) trivial (Below.refl _ _) (Nat.le_refl _) (by simp) ?_; (case hd => rfl); (case hg => rfl); (case hr => first | (go_simp; done) | (go_simp; rfl)); (case hp => exact (Reps.one (show Kd.M (Kd.int .i64) _ _ _ 3 [.int .i64 3] from rfl) (Reps.none _ _))); intro v170 w62 ho63 hb hg_ hnew_; clear hg_ hnew_; (first | rw [← Ny169.out] at ho63 | (simp only [Int.reduceToNat] at ho63; rw [← Ny169.out] at ho63)); have n0_ := Aside0.mk (Kd.R_elder' (by (with_reducible repeat (first | apply Kd.R_alloc | apply Kd.R_drewN | apply Kd.R_drew)); exact HO_9.out) (Kd.R_base ho63) hb); have n1_ := Aside0.mk (Kd.S_elder' (by (with_reducible repeat (first | apply Kd.S_alloc | apply Kd.S_drewN | apply Kd.S_drew)); exact HO_10.out) (Kd.R_base ho63) hb); have n2_ := Aside0.mk (Kd.R_elder' (by (with_reducible repeat (first | apply Kd.R_alloc | apply Kd.R_drewN | apply Kd.R_drew)); exact HO166.out) (Kd.R_base ho63) hb); have n3_ := Aside0.mk (Kd.R_lower (Kd.R_new' (Kd.R_new' ho63 (Kd.R_lt (by (with_reducible repeat (first | apply Kd.R_alloc | apply Kd.R_drewN | apply Kd.R_drew)); exact HO_9.out))) (Kd.R_lt (by (with_reducible repeat (first | apply Kd.R_alloc | apply Kd.R_drewN | apply Kd.R_drew)); exact HO166.out))) (below_size (by repeat (first | (with_reducible first | exact HB.out | apply below_alloc | apply pw_below_drewN | apply below_drew1) | exact HB.out)))); have n4_ := Aside0.mk (below_step (by repeat (first | (with_reducible first | exact HB.out | apply below_alloc | apply pw_below_drewN | apply below_drew1) | exact HB.out)) hb); clear HO_9; clear HO_10; clear HO166; clear HB; have HO_9 := n0_; have HO_10 := n1_; have HO166 := n2_; have HO171 := n3_; have HB := n4_; clear n0_ n1_ n2_ n3_ n4_; clear hb ho63; obtain ⟨Ao64, co64, eo64⟩ := Kd.R_slice HO171.out; subst eo64) | (go_at_call 21; (refine (impl_HeapData.calls _ _ l0 a1 _ _ y169 _ _ ([] : List (S27)) t172 _ ?side1 ?side2 ?side3 ?side4 ?side5 ?side6 A58.out).mono ?_); (case side1 => repeat (first | exact (Kd.C_below HR0.out HB.out) | (with_reducible refine Kd.C_alloc ?_ _) | (with_reducible refine Kd.C_drewN ?_ _) | (with_reducible refine Kd.C_drew ?_))); (case side2 => exact HC0.out); (case side3 => repeat (first | exact (Kd.R_reads' HO171.out).2.2 | (with_reducible refine Kd.C_alloc ?_ _) | (with_reducible refine Kd.C_drewN ?_ _) | (with_reducible refine Kd.C_drew ?_))); (case side4 => exact (Kd.R_reads' HO171.out).2.1); (case side5 => exact Kd.C_nil _ _); (case side6 => exact Nat.le_refl _); rintro e w65 ⟨v173, rfl, ho0, hb⟩; have n0_ := Aside0.mk (Kd.R_elder' (by (with_reducible repeat (first | apply Kd.R_alloc | apply Kd.R_drewN | apply Kd.R_drew)); exact HO_9.out) (Kd.R_base ho0) hb); have n1_ := Aside0.mk (Kd.S_elder' (by (with_reducible repeat (first | apply Kd.S_alloc | apply Kd.S_drewN | apply Kd.S_drew)); exact HO_10.out) (Kd.R_base ho0) hb); have n2_ := Aside0.mk (Kd.R_elder' (by (with_reducible repeat (first | apply Kd.R_alloc | apply Kd.R_drewN | apply Kd.R_drew)); exact HO166.out) (Kd.R_base ho0) hb); have n3_ := Aside0.mk (Kd.R_elder' (by (with_reducible repeat (first | apply Kd.R_alloc | apply Kd.R_drewN | apply Kd.R_drew)); exact HO171.out) (Kd.R_base ho0) hb); have n4_ := Aside0.mk (Kd.R_lower (Kd.R_new' (Kd.R_new' (Kd.R_new' ho0 (Kd.R_lt (by (with_reducible repeat (first | apply Kd.R_alloc | apply Kd.R_drewN | apply Kd.R_drew)); exact HO_9.out))) (Kd.R_lt (by (with_reducible repeat (first | apply Kd.R_alloc | apply Kd.R_drewN | apply Kd.R_drew)); exact HO166.out))) (Kd.R_lt (by (with_reducible repeat (first | apply Kd.R_alloc | apply Kd.R_drewN | apply Kd.R_drew)); exact HO171.out))) (below_size (by repeat (first | (with_reducible first | exact HB.out | apply below_alloc | apply pw_below_drewN | apply below_drew1) | exact HB.out)))); have n5_ := Aside0.mk (below_step (by repeat (first | (with_reducible first | exact HB.out | apply below_alloc | apply pw_below_drewN | apply below_drew1) | exact HB.out)) hb); clear HO_9; clear HO_10; clear HO166; clear HO171; clear HB; have HO_9 := n0_; have HO_10 := n1_; have HO166 := n2_; have HO171 := n3_; have HO174 := n4_; have HB := n5_; clear n0_ n1_ n2_ n3_ n4_ n5_; (try clear hb); (try clear hb2); (try clear hk); (try clear hi); (try clear ho0); obtain ⟨Ao66, co66, eo66⟩ := Kd.R_slice HO174.out; subst eo66))
                      go_ret
                      exact ⟨by first | rfl | (simp [errW_none, errW_some] <;> rfl) | (simp [*, errW_none, errW_some] <;> rfl), by repeat (first | (with_reducible first | exact HB.out | apply below_alloc | apply pw_below_drewN | apply below_drew1) | exact HB.out)⟩
                    · replace c57 := Bool.eq_false_iff.mpr c57
                      subst c57
                      have H1 : (some false) = some r := by rw [if_neg (show ¬ (false = true) by decide)] at H; exact H
                      clear H
                      have H := H1
                      clear H1
                      obtain rfl := Option.some.inj H
                      go_wp2_with (first | ((with_reducible refine gate_callee (f := 21) rfl ?_); refine goesL_ (some 103) rfl rfl Try.func21 (by kernel_rfl) rfl #[.slice A0 l0.length c0, .int .i64 a1, .slice A2 l2.length c2, .slice A3 l3.length c3] rfl (by (try simp only [List.map_toArray, List.map_cons, List.map_nil]); first | done | rfl | (simp only [List.length_drop, List.length_take]; rfl)) ?_; (with_reducible refine (impl_HeapData.calls _ _ l0 a1 _ _ l2 _ _ l3 t164 _ ?side1 ?side2 ?side3 ?side4 ?side5 ?side6 A53.out).mono ?_); (case side1 => repeat (first | exact (Kd.C_below HR0.out HB.out) | (with_reducible refine Kd.C_alloc ?_ _) | (with_reducible refine Kd.C_drewN ?_ _) | (with_reducible refine Kd.C_drew ?_))); (case side2 => exact HC0.out); (case side3 => repeat (first | exact (Kd.C_below HR2.out HB.out) | (with_reducible refine Kd.C_alloc ?_ _) | (with_reducible refine Kd.C_drewN ?_ _) | (with_reducible refine Kd.C_drew ?_))); (case side4 => exact HC2.out); (case side5 => repeat (first | exact (Kd.C_below HR3.out HB.out) | (with_reducible refine Kd.C_alloc ?_ _) | (with_reducible refine Kd.C_drewN ?_ _) | (with_reducible refine Kd.C_drew ?_))); (case side6 => exact HC3.out); rintro e w67 ⟨v165, rfl, ho0, hb⟩; refine ⟨_, rfl, ?_⟩; have n0_ := Aside0.mk (Kd.R_elder' (by (with_reducible repeat (first | apply Kd.R_alloc | apply Kd.R_drewN | apply Kd.R_drew)); exact HO_9.out) (Kd.R_base ho0) hb); have n1_ := Aside0.mk (Kd.S_elder' (by (with_reducible repeat (first | apply Kd.S_alloc | apply Kd.S_drewN | apply Kd.S_drew)); exact HO_10.out) (Kd.R_base ho0) hb); have n2_ := Aside0.mk (Kd.R_lower (Kd.R_new' ho0 (Kd.R_lt (by (with_reducible repeat (first | apply Kd.R_alloc | apply Kd.R_drewN | apply Kd.R_drew)); exact HO_9.out))) (below_size (by repeat (first | (with_reducible first | exact HB.out | apply below_alloc | apply pw_below_drewN | apply below_drew1) | exact HB.out)))); have n3_ := Aside0.mk (below_step (by repeat (first | (with_reducible first | exact HB.out | apply below_alloc | apply pw_below_drewN | apply below_drew1) | exact HB.out)) hb); clear HO_9; clear HO_10; clear HB; have HO_9 := n0_; have HO_10 := n1_; have HO166 := n2_; have HB := n3_; clear n0_ n1_ n2_ n3_; (try clear hb); (try clear hb2); (try clear hk); (try clear hi); (try clear ho0); obtain ⟨Ao68, co68, eo68⟩ := Kd.R_slice HO166.out; subst eo68; obtain ⟨Ao69, co69, eo69⟩ := Kd.R_slice HO_9.out; subst eo69) | ((with_reducible refine gate_callee (f := 20) rfl ?_); refine goesL_ (some 106) rfl rfl Try.func20 (by kernel_rfl) rfl #[.slice none 0 0, .slice Ao68 t164.length co68, .slice Ao69 x9_2.length co69] rfl (by (try simp only [List.map_toArray, List.map_cons, List.map_nil]); first | done | rfl | (simp only [List.length_drop, List.length_take]; rfl)) ?_; (refine (spec_BagRows.calls k2 _ _ ([] : List Int) _ _ t164 _ _ x9_2 true _ ?side1 ?side2 ?side3 ?side4 ?side5 ?side6 A54.out).mono ?_); (case side1 => exact Kd.C_nil _ _); (case side2 => exact Nat.le_refl _); (case side3 => repeat (first | exact (Kd.R_reads' HO166.out).2.2 | (with_reducible refine Kd.C_alloc ?_ _) | (with_reducible refine Kd.C_drewN ?_ _) | (with_reducible refine Kd.C_drew ?_))); (case side4 => exact (Kd.R_reads' HO166.out).2.1); (case side5 => repeat (first | exact (Kd.R_reads' HO_9.out).2.2 | (with_reducible refine Kd.C_alloc ?_ _) | (with_reducible refine Kd.C_drewN ?_ _) | (with_reducible refine Kd.C_drew ?_))); (case side6 => exact (Kd.R_reads' HO_9.out).2.1); rintro e w' ⟨rfl, ⟨nd, rfl⟩⟩; refine ⟨_, rfl, ?_⟩) | (go_at_call 23; (with_reducible refine (laws_heapTree.calls k2 _ _ l0 _ _ t164 false _ ?side1 ?side2 ?side3 ?side4 A56.out).mono ?_); (case side1 => repeat (first | exact (Kd.C_below HR0.out (by repeat (first | (with_reducible first | exact HB.out | apply below_alloc | apply pw_below_drewN | apply below_drew1) | exact HB.out))) | (with_reducible refine Kd.C_alloc ?_ _) | (with_reducible refine Kd.C_drewN ?_ _) | (with_reducible refine Kd.C_drew ?_))); (case side2 => exact HC0.out); (case side3 => repeat (first | exact (Kd.R_reads' HO166.out).2.2 | (with_reducible refine Kd.C_alloc ?_ _) | (with_reducible refine Kd.C_drewN ?_ _) | (with_reducible refine Kd.C_drew ?_))); (case side4 => exact (Kd.R_reads' HO166.out).2.1); rintro e w' ⟨rfl, ⟨nd, rfl⟩⟩))
                      go_ret
                      exact ⟨by first | rfl | (simp [errW_none, errW_some] <;> rfl) | (simp [*, errW_none, errW_some] <;> rfl), by repeat (first | (with_reducible first | exact HB.out | apply below_alloc | apply pw_below_drewN | apply below_drew1) | exact HB.out)⟩
                  · replace c55 := Bool.eq_false_iff.mpr c55
                    subst c55
                    have H1 : (some false) = some r := by rw [if_neg (show ¬ (false = true) by decide)] at H; exact H
                    clear H
                    have H := H1
                    clear H1
                    obtain rfl := Option.some.inj H
                    go_wp2_with (first | ((with_reducible refine gate_callee (f := 21) rfl ?_); refine goesL_ (some 103) rfl rfl Try.func21 (by kernel_rfl) rfl #[.slice A0 l0.length c0, .int .i64 a1, .slice A2 l2.length c2, .slice A3 l3.length c3] rfl (by (try simp only [List.map_toArray, List.map_cons, List.map_nil]); first | done | rfl | (simp only [List.length_drop, List.length_take]; rfl)) ?_; (with_reducible refine (impl_HeapData.calls _ _ l0 a1 _ _ l2 _ _ l3 t164 _ ?side1 ?side2 ?side3 ?side4 ?side5 ?side6 A53.out).mono ?_); (case side1 => repeat (first | exact (Kd.C_below HR0.out HB.out) | (with_reducible refine Kd.C_alloc ?_ _) | (with_reducible refine Kd.C_drewN ?_ _) | (with_reducible refine Kd.C_drew ?_))); (case side2 => exact HC0.out); (case side3 => repeat (first | exact (Kd.C_below HR2.out HB.out) | (with_reducible refine Kd.C_alloc ?_ _) | (with_reducible refine Kd.C_drewN ?_ _) | (with_reducible refine Kd.C_drew ?_))); (case side4 => exact HC2.out); (case side5 => repeat (first | exact (Kd.C_below HR3.out HB.out) | (with_reducible refine Kd.C_alloc ?_ _) | (with_reducible refine Kd.C_drewN ?_ _) | (with_reducible refine Kd.C_drew ?_))); (case side6 => exact HC3.out); rintro e w70 ⟨v165, rfl, ho0, hb⟩; refine ⟨_, rfl, ?_⟩; have n0_ := Aside0.mk (Kd.R_elder' (by (with_reducible repeat (first | apply Kd.R_alloc | apply Kd.R_drewN | apply Kd.R_drew)); exact HO_9.out) (Kd.R_base ho0) hb); have n1_ := Aside0.mk (Kd.S_elder' (by (with_reducible repeat (first | apply Kd.S_alloc | apply Kd.S_drewN | apply Kd.S_drew)); exact HO_10.out) (Kd.R_base ho0) hb); have n2_ := Aside0.mk (Kd.R_lower (Kd.R_new' ho0 (Kd.R_lt (by (with_reducible repeat (first | apply Kd.R_alloc | apply Kd.R_drewN | apply Kd.R_drew)); exact HO_9.out))) (below_size (by repeat (first | (with_reducible first | exact HB.out | apply below_alloc | apply pw_below_drewN | apply below_drew1) | exact HB.out)))); have n3_ := Aside0.mk (below_step (by repeat (first | (with_reducible first | exact HB.out | apply below_alloc | apply pw_below_drewN | apply below_drew1) | exact HB.out)) hb); clear HO_9; clear HO_10; clear HB; have HO_9 := n0_; have HO_10 := n1_; have HO166 := n2_; have HB := n3_; clear n0_ n1_ n2_ n3_; (try clear hb); (try clear hb2); (try clear hk); (try clear hi); (try clear ho0); obtain ⟨Ao71, co71, eo71⟩ := Kd.R_slice HO166.out; subst eo71; obtain ⟨Ao72, co72, eo72⟩ := Kd.R_slice HO_9.out; subst eo72) | ((with_reducible refine gate_callee (f := 20) rfl ?_); refine goesL_ (some 106) rfl rfl Try.func20 (by kernel_rfl) rfl #[.slice none 0 0, .slice Ao71 t164.length co71, .slice Ao72 x9_2.length co72] rfl (by (try simp only [List.map_toArray, List.map_cons, List.map_nil]); first | done | rfl | (simp only [List.length_drop, List.length_take]; rfl)) ?_; (refine (spec_BagRows.calls k2 _ _ ([] : List Int) _ _ t164 _ _ x9_2 false _ ?side1 ?side2 ?side3 ?side4 ?side5 ?side6 A54.out).mono ?_); (case side1 => exact Kd.C_nil _ _); (case side2 => exact Nat.le_refl _); (case side3 => repeat (first | exact (Kd.R_reads' HO166.out).2.2 | (with_reducible refine Kd.C_alloc ?_ _) | (with_reducible refine Kd.C_drewN ?_ _) | (with_reducible refine Kd.C_drew ?_))); (case side4 => exact (Kd.R_reads' HO166.out).2.1); (case side5 => repeat (first | exact (Kd.R_reads' HO_9.out).2.2 | (with_reducible refine Kd.C_alloc ?_ _) | (with_reducible refine Kd.C_drewN ?_ _) | (with_reducible refine Kd.C_drew ?_))); (case side6 => exact (Kd.R_reads' HO_9.out).2.1); rintro e w' ⟨rfl, ⟨nd, rfl⟩⟩; refine ⟨_, rfl, ?_⟩))
                    go_ret
                    exact ⟨by first | rfl | (simp [errW_none, errW_some] <;> rfl) | (simp [*, errW_none, errW_some] <;> rfl), by repeat (first | (with_reducible first | exact HB.out | apply below_alloc | apply pw_below_drewN | apply below_drew1) | exact HB.out)⟩
          · rw [if_neg c11] at H
            have c11b0 : ((t135.length : Int) == (l3.length : Int)) = false := beq_eq_false_iff_ne.mpr c11
            have c11b1 : ((t135.length : Int) != (l3.length : Int)) = true := bne_iff_ne.mpr c11
            have c11b2 : (t135.length == l3.length) = false := by first | simpa using c11 | (simp at c11 ⊢; omega)
            obtain rfl := Option.some.inj H
            go_wp2_with (first | ((with_reducible refine gate_dst (N := 27) rfl ?_); (try (refine gate_guard (by rfl) ?_; dsimp only)); refine Kd.R_lit (Kd.int .i64) _ 3 ?hg (N := 27) ?hd (xs := ([] : List Int)) (inner := []) (ok := fun _ => True) (okp := fun _ => True) ?hr ?hp (fun _ hk => hk) trivial (Below.refl _ _) (Nat.le_refl _) (by simp) ?_; (case hd => rfl); (case hg => rfl); (case hr => first | (go_simp; done) | (go_simp; rfl)); (case hp => exact (Reps.none _ _)); intro v130 w73 ho74 hb hg_ hnew_; clear hg_ hnew_; (first | rw [← Ny129.out] at ho74 | (simp only [Int.reduceToNat] at ho74; rw [← Ny129.out] at ho74)); have n0_ := Aside0.mk (Kd.R_lower ho74 (below_size (by repeat (first | (with_reducible first | exact HB.out | apply below_alloc | apply pw_below_drewN | apply below_drew1) | exact HB.out)))); have n1_ := Aside0.mk (below_step (by repeat (first | (with_reducible first | exact HB.out | apply below_alloc | apply pw_below_drewN | apply below_drew1) | exact HB.out)) hb); clear HB; have HO131 := n0_; have HB := n1_; clear n0_ n1_; clear hb ho74) | ((with_reducible refine gate_builtin (b := .append) (xs := #[.tmp 27, .tmp 28]) rfl ?_); (try (refine gate_guard (by rfl) ?_; dsimp only)); at_builtin; refine Kd.R_append_rows (Kd.int .i64) (w0 := w) w.heap.size rfl (.tmp 27) (.tmp 28) 30 3 (.int .i64 0) 8 rfl Try.underlying30 info3 rfl (by decide) (by omega) v130 y129 l2 _ _ _ (fun _ => True) (fun _ => False) rfl rfl ?aO ?aR (fun _ _ h => h) (fun _ h => h.elim) ?aF ?aB ?aS ?aL ?_; (case aR => repeat (first | exact (Kd.C_below HR2.out HB.out) | (with_reducible refine Kd.C_alloc ?_ _) | (with_reducible refine Kd.C_drewN ?_ _) | (with_reducible refine Kd.C_drew ?_))); (case aB => exact (by repeat (first | (with_reducible first | exact HB.out | apply below_alloc | apply pw_below_drewN | apply below_drew1) | exact HB.out))); (case aF => exact (fun _ _ => trivial)); (case aO => exact (by (with_reducible repeat (first | apply Kd.R_alloc | apply Kd.R_drewN | apply Kd.R_drew)); exact HO131.out)); (case aS => exact (below_size (by repeat (first | (with_reducible first | exact HB.out | apply below_alloc | apply pw_below_drewN | apply below_drew1) | exact HB.out)))); (case aL => have := LMc9.out; omega); intro v133 w75 ho hb hg hat; rw [← Ny132.out] at ho; have n0_ := Aside0.mk (hb); have n1_ := Aside0.mk (ho); clear HB; clear HO131; have HB := n0_; have HO134 := n1_; clear n0_ n1_; clear ho hb hg hat) | ((with_reducible refine gate_callee (f := 17) rfl ?_); refine goesL_ (some 34) rfl rfl Try.func17 (by kernel_rfl) rfl #[.slice A0 l0.length c0, .int .i64 a1, .slice A2 l2.length c2, .slice A3 l3.length c3] rfl (by (try simp only [List.map_toArray, List.map_cons, List.map_nil]); first | done | rfl | (simp only [List.length_drop, List.length_take]; rfl)) ?_; (with_reducible refine (impl_HeapRun.calls _ _ l0 a1 _ _ l2 _ _ l3 t135 _ ?side1 ?side2 ?side3 ?side4 ?side5 ?side6 A10.out).mono ?_); (case side1 => repeat (first | exact (Kd.C_below HR0.out HB.out) | (with_reducible refine Kd.C_alloc ?_ _) | (with_reducible refine Kd.C_drewN ?_ _) | (with_reducible refine Kd.C_drew ?_))); (case side2 => exact HC0.out); (case side3 => repeat (first | exact (Kd.C_below HR2.out HB.out) | (with_reducible refine Kd.C_alloc ?_ _) | (with_reducible refine Kd.C_drewN ?_ _) | (with_reducible refine Kd.C_drew ?_))); (case side4 => exact HC2.out); (case side5 => repeat (first | exact (Kd.C_below HR3.out HB.out) | (with_reducible refine Kd.C_alloc ?_ _) | (with_reducible refine Kd.C_drewN ?_ _) | (with_reducible refine Kd.C_drew ?_))); (case side6 => exact HC3.out); rintro e w76 ⟨v136, rfl, ho0, hb⟩; refine ⟨_, rfl, ?_⟩; have n0_ := Aside0.mk (Kd.R_below (by (with_reducible repeat (first | apply Kd.R_alloc | apply Kd.R_drewN | apply Kd.R_drew)); exact HO134.out) hb); have n1_ := Aside0.mk (Kd.S_lower (Kd.S_new' ho0 (Kd.R_lt (by (with_reducible repeat (first | apply Kd.R_alloc | apply Kd.R_drewN | apply Kd.R_drew)); exact HO134.out))) (below_size (by repeat (first | (with_reducible first | exact HB.out | apply below_alloc | apply pw_below_drewN | apply below_drew1) | exact HB.out)))); have n2_ := Aside0.mk (below_step (by repeat (first | (with_reducible first | exact HB.out | apply below_alloc | apply pw_below_drewN | apply below_drew1) | exact HB.out)) hb); clear HO134; clear HB; have HO134 := n0_; have HO137 := n1_; have HB := n2_; clear n0_ n1_ n2_; (try clear hb); (try clear hb2); (try clear hk); (try clear hi); (try clear ho0); obtain ⟨Ao77, co77, eo77⟩ := Kd.S_slice HO137.out; subst eo77))
            go_ret
            exact ⟨by first | rfl | (simp [errW_none, errW_some] <;> rfl) | (simp [*, errW_none, errW_some] <;> rfl), by repeat (first | (with_reducible first | exact HB.out | apply below_alloc | apply pw_below_drewN | apply below_drew1) | exact HB.out)⟩
        · rw [if_neg c9] at H
          exact absurd H (by simp)

end Go.Proofs.Ytmhnhfmkcipcpaa.QFnHeapTree
