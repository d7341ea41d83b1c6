/- What the law's row stands on, part 2: contracts of functions, for the arguments and worlds that each one names. -/
import Derived.Test.YtjlcebgfknfelaaCkFnTreesAgree1
import Derived.Deep.Draws
import Derived.WalkKit
import Derived.Test.YtjlcebgfknfelaaProg
import Derived.Deep.WholeRow
import Derived.Deep.MidRow
import Derived.StillTailTactics
namespace Go.Proofs.Ytjlcebgfknfelaa.QFnTreesAgree
open Go.RowKit Go.Proofs.YtjlcebgfknfelaaW.PrintWords Go.Proofs.YtjlcebgfknfelaaW.PrintLast Go.Proofs.YtjlcebgfknfelaaW.PrintMore
attribute [local go_sem] max2_int min2_int max_two min_two max_three min_three max_four min_four   -- for this text's walks alone
set_option linter.unusedVariables false
set_option linter.unusedSimpArgs false
def laws_treeRuns.l0 : Nat → List Int → List (S66) → List (S46) → List (S46) → Bool → Int → Option (Bool)
  | 0, _, _, _, _, _, _ => none
  | k + 1, x0, x1, x2, x3, x4, x11 => if x11 < (x3.length : Int) then (if 0 ≤ x11 then (if x11 < (x1.length : Int) then (if ((rd_T66 x1 x11).f0) = 5 then (laws_treeRuns.l0 k x0 x1 x2 x3 x4 (wrap64 (x11 + 1))) else (if x4 = true then (if x11 < (x2.length : Int) then ((spec_SameTold.f k x0 ((rd_T66 x1 x11).f0) ((rd_T46 x2 x11).f0) ((rd_T46 x2 x11).f1) ((rd_T46 x2 x11).f2) ((rd_T46 x2 x11).f3) ((rd_T46 x3 x11).f0) ((rd_T46 x3 x11).f1) ((rd_T46 x3 x11).f2) ((rd_T46 x3 x11).f3)).bind fun t119 => (if t119 = true then (laws_treeRuns.l0 k x0 x1 x2 x3 x4 (wrap64 (x11 + 1))) else (some false))) else (none)) else (if ((rd_T66 x1 x11).f0) = 3 then (laws_treeRuns.l0 k x0 x1 x2 x3 x4 (wrap64 (x11 + 1))) else (if x11 < (x2.length : Int) then ((spec_SameTold.f k x0 ((rd_T66 x1 x11).f0) ((rd_T46 x2 x11).f0) ((rd_T46 x2 x11).f1) ((rd_T46 x2 x11).f2) ((rd_T46 x2 x11).f3) ((rd_T46 x3 x11).f0) ((rd_T46 x3 x11).f1) ((rd_T46 x3 x11).f2) ((rd_T46 x3 x11).f3)).bind fun t124 => (if t124 = true then (laws_treeRuns.l0 k x0 x1 x2 x3 x4 (wrap64 (x11 + 1))) else (some false))) else (none))))) else (none)) else (none)) else (some true)
def laws_treeRuns.f (k : Nat) (l0 : List Int) (l1 : List (S66)) (l2 : List (S46)) (l3 : List (S46)) (a4 : Bool) : Option (Bool) := if (l2.length : Int) = (l3.length : Int) then (laws_treeRuns.l0 k l0 l1 l2 l3 a4 0) else (some false)
def laws_treeRuns.T6 : Bool × List (List Nat × List Nat) := (true, [([], []), ([], []), ([0, 1], [0, 1]), ([2], [2]), ([3], [3]), ([4], [4]), ([5], [5]), ([6], [6]), ([7, 6, 6], [6, 7]), ([8], [8]), ([8], [8]), ([9, 10, 8], [8, 9, 10]), ([11, 8], [8, 11]), ([12, 8], [8, 12]), ([13, 8], [8, 13]), ([8, 14, 6], [6, 8, 14]), ([6, 15], [6, 15]), ([16, 8], [16]), ([17], [17]), ([17], [17]), ([17], [17]), ([19, 20, 17], [17, 19, 20]), ([21, 17], [17, 21]), ([22, 17], [17, 22]), ([17], [17]), ([17], [17]), ([24, 25, 17], [17, 24, 25]), ([26, 17], [17, 26]), ([17], [17]), ([17], [17]), ([28, 29, 17], [17, 28, 29]), ([30, 17], [17, 30]), ([18, 23, 27, 31, 17, 17], [17, 18, 23, 27, 31]), ([32, 17], [17, 32]), ([17, 33], [17, 33])])
def laws_treeRuns.B6 : List Nat := [0, 0, 3, 7, 15, 31, 63, 127, 255, 511, 511, 2047, 4095, 8191, 16383, 32767, 65535, 131071, 262143, 262143, 262143, 1835007, 3932159, 8126463, 262143, 262143, 50593791, 117702655, 262143, 262143, 805568511, 1879310335, 4294967295, 8589934591, 17179869183]
theorem laws_treeRuns.tab6 : rtab .any (opsOf Try.f28 6) = laws_treeRuns.T6 := by kernel_rfl
theorem laws_treeRuns.bits6 : waitsOk laws_treeRuns.T6.2 laws_treeRuns.B6 = true := by kernel_rfl
set_option maxHeartbeats 8000000 in
set_option maxRecDepth 100000 in
theorem laws_treeRuns.calls (k : Nat) (A0 : Option Addr) (c0 : Nat) (l0 : List Int) (A1 : Option Addr) (c1 : Nat) (l1 : List (S66)) (A2 : Option Addr) (c2 : Nat) (l2 : List (S46)) (A3 : Option Addr) (c3 : Nat) (l3 : List (S46)) (a4 : Bool) (r : Bool) (w : World) (hr0 : Kd.C (Kd.int .i64) w A0 l0.length l0) (hc0 : l0.length ≤ c0) (hr1 : Kd.C k66 w A1 l1.length l1) (hc1 : l1.length ≤ c1) (hr2 : Kd.C k46 w A2 l2.length l2) (hc2 : l2.length ≤ c2) (hr3 : Kd.C k46 w A3 l3.length l3) (hc3 : l3.length ≤ c3) (h : laws_treeRuns.f k l0 l1 l2 l3 a4 = some r) :
    Calls Try.prog 28 #[.slice A0 l0.length c0, .slice A1 l1.length c1, .slice A2 l2.length c2, .slice A3 l3.length c3, .bool a4] w fun e w' => e = .returned (.bool r) ∧ Below w.heap.size w w' := by
  have hu46 := Try.underlying46
  have HR0 := Aside0.mk hr0
  have HC0 := Aside0.mk hc0
  clear hr0 hc0
  have HR1 := Aside0.mk hr1
  have HC1 := Aside0.mk hc1
  clear hr1 hc1
  have HR2 := Aside0.mk hr2
  have HC2 := Aside0.mk hc2
  clear hr2 hc2
  have HR3 := Aside0.mk hr3
  have HC3 := Aside0.mk hc3
  clear hr3 hc3
  have HB := Aside0.mk (Below.refl w.heap.size w)
  have H : (if (l2.length : Int) = (l3.length : Int) then (laws_treeRuns.l0 k l0 l1 l2 l3 a4 0) else (some false)) = some r := h
  clear h
  by_cases c6 : (l2.length : Int) = (l3.length : Int)
  · rw [if_pos c6] at H
    have c6b0 : ((l2.length : Int) == (l3.length : Int)) = true := beq_iff_eq.mpr c6
    have c6b1 : ((l2.length : Int) != (l3.length : Int)) = false := bne_eq_false_iff_eq.mpr c6
    have c6b2 : (l2.length == l3.length) = true := by first | simpa using c6 | (simp at c6 ⊢; omega)
    clear c6
    have H' := Aside0.mk H
    clear H
    go_enter Try.func28, Try.ntmps28
    go_wp2
    go_loopg [11] k (fun kq v11 w' => ∃ (x11_1 : Int), v11 = .int .i64 x11_1 ∧ Aside0 (laws_treeRuns.l0 kq l0 l1 l2 l3 a4 x11_1 = some r) ∧ Aside0 (kq ≤ k) ∧ Aside0 (Below w.heap.size w w'))
    case atStart => exact ⟨(0), (by first | rfl | (simp; done) | (simp [*]; done)), H', ⟨Nat.le_refl _⟩, ⟨by repeat (first | (with_reducible first | exact HB.out | apply below_alloc | apply pw_below_drewN | apply below_drew1) | exact HB.out)⟩⟩
    case round =>
      clear H'
      try clear c1
      try clear c2
      try clear p2
      try clear c3
      try clear c6
      try clear c6b0
      try clear c6b1
      try clear c6b2
      obtain ⟨x11_1, rfl, HA, HK1, HB⟩ := hrel
      cases gk with
      | zero => exact absurd HA.out (by simp [laws_treeRuns.l0])
      | succ k1 =>
        have H := HA.out
        clear HA
        simp only [laws_treeRuns.l0] at H
        by_cases c7 : x11_1 < (l3.length : Int)
        · rw [if_pos c7] at H
          have c7b0 : decide (x11_1 < (l3.length : Int)) = true := decide_eq_true c7
          clear c7
          by_cases c8 : 0 ≤ x11_1
          · rw [if_pos c8] at H
            have c8b0 : decide (0 ≤ x11_1) = true := decide_eq_true c8
            clear c8
            by_cases c9 : x11_1 < (l1.length : Int)
            · rw [if_pos c9] at H
              have c9b0 : decide (x11_1 < (l1.length : Int)) = true := decide_eq_true c9
              clear c9
              by_cases c10 : ((rd_T66 l1 x11_1).f0) = 5
              · rw [if_pos c10] at H
                have c10b0 : (((rd_T66 l1 x11_1).f0) == 5) = true := beq_iff_eq.mpr c10
                have c10b1 : (((rd_T66 l1 x11_1).f0) != 5) = false := bne_eq_false_iff_eq.mpr c10
                clear c10
                have H' := Aside0.mk H
                clear H
                try go_wp2
                have n0_ := Aside0.mk (below_drew1 HB.out)
                clear HB
                have HB := n0_
                clear n0_
                have p115 : 0 ≤ (x11_1 : Int) := of_decide_eq_true (by first | (with_reducible assumption) | assumption)
                have q115 : x11_1 < (l1.length : Int) := of_decide_eq_true (by first | (with_reducible assumption) | assumption)
                obtain ⟨ad115, e115, hx115_0, hx115_1, hx115_2⟩ := at_T66 HR1.out x11_1 p115 q115
                have hw115_2 := hx115_2
                have hw115_1 := hx115_1
                have hw115_0 := hx115_0
                cases e115
                replace hx115_0 := (HB.out.cell (World.block_lt_of_cell? w _ hx115_0)).trans hx115_0
                replace hx115_1 := (HB.out.cell (World.block_lt_of_cell? w _ hx115_1)).trans hx115_1
                replace hx115_2 := (HB.out.cell (World.block_lt_of_cell? w _ hx115_2)).trans hx115_2
                replace p115 := eq_true p115
                replace q115 := eq_true q115
                refine start_ (n := 35) (S := fun w' => w'.cell? (ad115.add ((x11_1).toNat * 3)) = some (.int .i64 ((rd_T66 l1 x11_1).f0)) ∧ w'.cell? ⟨(ad115.add ((x11_1).toNat * 3)).block, (ad115.add ((x11_1).toNat * 3)).off + 1, none⟩ = some (.int .i64 ((rd_T66 l1 x11_1).f1)) ∧ w'.cell? ⟨(ad115.add ((x11_1).toNat * 3)).block, (ad115.add ((x11_1).toNat * 3)).off + 2, none⟩ = some (.int .i64 ((rd_T66 l1 x11_1).f2))) (ds := []) #[false, false, false, false, false, false, false, false, false, false, false, false, false, false, false, false, false, false, false, false, false, false, false, false, false, false, false, false, false, false, false, false, false, false, false] (by kernel_rfl) rfl rfl ⟨((HB.out.cell (World.block_lt_of_cell? w _ hw115_0)).trans hw115_0), ((HB.out.cell (World.block_lt_of_cell? w _ hw115_1)).trans hw115_1), ((HB.out.cell (World.block_lt_of_cell? w _ hw115_2)).trans hw115_2)⟩ (fun hHeld => ?_); refine with_tabW laws_treeRuns.tab6 laws_treeRuns.bits6 (fun HT_ HW_ => ?_)
                generalize wr.drew = w11 at HB hx115_0 hx115_1 hx115_2 hHeld ⊢
                refine pure_ (i := 0) (N := some 23) (v := ?_) (a' := ?_) #[true, false, false, false, false, false, false, false, false, false, false, false, false, false, false, false, false, false, false, false, false, false, false, false, false, false, false, false, false, false, false, false, false, false, false] rfl rfl (any_of HT_.out (by kernel_rfl)) (fun _ _ _ h => h) (Or.inl ⟨by rfl, ?_⟩) ?_ ?_
                rotate_left
                · intro w'
                  go_simp
                  with_reducible rfl
                rotate_left
                · simp only [Act.put, List.setIfInBounds_toArray, List.set_cons_zero, List.set_cons_succ, i64_w, i32_w]
                  rfl
                refine pure_ (i := 1) (N := some 24) (v := ?_) (a' := ?_) #[true, true, false, false, false, false, false, false, false, false, false, false, false, false, false, false, false, false, false, false, false, false, false, false, false, false, false, false, false, false, false, false, false, false, false] rfl rfl (any_of HT_.out (by kernel_rfl)) (fun _ _ _ h => h) (Or.inl ⟨by rfl, ?_⟩) ?_ ?_
                rotate_left
                · intro w'
                  go_simp
                  with_reducible rfl
                rotate_left
                · simp only [Act.put, List.setIfInBounds_toArray, List.set_cons_zero, List.set_cons_succ, i64_w, i32_w]
                  rfl
                refine pure_ (i := 2) (N := some 25) (v := ?_) (a' := ?_) #[true, true, true, false, false, false, false, false, false, false, false, false, false, false, false, false, false, false, false, false, false, false, false, false, false, false, false, false, false, false, false, false, false, false, false] rfl rfl (any_of HT_.out (by kernel_rfl)) (fun _ _ _ h => h) (Or.inl ⟨by rfl, ?_⟩) ?_ ?_
                rotate_left
                · intro w'
                  go_simp
                  with_reducible rfl
                rotate_left
                · simp only [Act.put, List.setIfInBounds_toArray, List.set_cons_zero, List.set_cons_succ, i64_w, i32_w]
                  rfl
                refine pure_ (i := 3) (N := some 26) (v := ?_) (a' := ?_) #[true, true, true, true, false, false, false, false, false, false, false, false, false, false, false, false, false, false, false, false, false, false, false, false, false, false, false, false, false, false, false, false, false, false, false] rfl rfl (any_of HT_.out (by kernel_rfl)) (fun _ _ _ h => h) (Or.inl ⟨by rfl, ?_⟩) ?_ ?_
                rotate_left
                · intro w'
                  go_simp
                  with_reducible rfl
                rotate_left
                · simp only [Act.put, List.setIfInBounds_toArray, List.set_cons_zero, List.set_cons_succ, i64_w, i32_w]
                  rfl
                refine take_ (i := 4) (N := some 27) (v := ?_) (a' := ?_) #[true, true, true, true, true, false, false, false, false, false, false, false, false, false, false, false, false, false, false, false, false, false, false, false, false, false, false, false, false, false, false, false, false, false, false] rfl rfl (take_ofW HT_.out HW_.out (by kernel_rfl)) (fun _ _ _ h => h) (Or.inl ⟨by rfl, ?_⟩) hHeld ?_ ?_
                rotate_left
                · rintro w' ⟨s0, s1, s2⟩
                  go_simp
                  with_reducible rfl
                rotate_left
                · simp only [Act.put, List.setIfInBounds_toArray, List.set_cons_zero, List.set_cons_succ, i64_w, i32_w]
                  rfl
                refine pure_ (i := 5) (N := some 28) (v := ?_) (a' := ?_) #[true, true, true, true, true, true, false, false, false, false, false, false, false, false, false, false, false, false, false, false, false, false, false, false, false, false, false, false, false, false, false, false, false, false, false] rfl rfl (any_of HT_.out (by kernel_rfl)) (fun _ _ _ h => h) (Or.inl ⟨by rfl, ?_⟩) ?_ ?_
                rotate_left
                · intro w'
                  go_simp
                  with_reducible rfl
                rotate_left
                · simp only [Act.put, List.setIfInBounds_toArray, List.set_cons_zero, List.set_cons_succ, i64_w, i32_w]
                  rfl
                refine pure_ (i := 6) (N := some 29) (v := ?_) (a' := ?_) #[true, true, true, true, true, true, true, false, false, false, false, false, false, false, false, false, false, false, false, false, false, false, false, false, false, false, false, false, false, false, false, false, false, false, false] rfl rfl (any_of HT_.out (by kernel_rfl)) (fun _ _ _ h => h) (Or.inl ⟨by rfl, ?_⟩) ?_ ?_
                rotate_left
                · intro w'
                  go_simp
                  with_reducible rfl
                rotate_left
                · simp only [Act.put, List.setIfInBounds_toArray, List.set_cons_zero, List.set_cons_succ, i64_w, i32_w]
                  rfl
                refine pure_ (i := 7) (N := some 30) (v := undef) (a' := ?_) #[true, true, true, true, true, true, true, true, false, false, false, false, false, false, false, false, false, false, false, false, false, false, false, false, false, false, false, false, false, false, false, false, false, false, false] rfl rfl (any_of HT_.out (by kernel_rfl)) (fun _ _ _ h => h) (Or.inr ⟨by rfl, rfl⟩) ?_ ?_
                rotate_left
                · simp only [Act.put, List.setIfInBounds_toArray, List.set_cons_zero, List.set_cons_succ, i64_w, i32_w]
                  rfl
                refine pure_ (i := 8) (N := some 31) (v := undef) (a' := ?_) #[true, true, true, true, true, true, true, true, true, false, false, false, false, false, false, false, false, false, false, false, false, false, false, false, false, false, false, false, false, false, false, false, false, false, false] rfl rfl (any_of HT_.out (by kernel_rfl)) (fun _ _ _ h => h) (Or.inr ⟨by rfl, rfl⟩) ?_ ?_
                rotate_left
                · simp only [Act.put, List.setIfInBounds_toArray, List.set_cons_zero, List.set_cons_succ, i64_w, i32_w]
                  rfl
                refine pure_ (i := 9) (N := some 32) (v := undef) (a' := ?_) #[true, true, true, true, true, true, true, true, true, true, false, false, false, false, false, false, false, false, false, false, false, false, false, false, false, false, false, false, false, false, false, false, false, false, false] rfl rfl (any_of HT_.out (by kernel_rfl)) (fun _ _ _ h => h) (Or.inr ⟨by rfl, rfl⟩) ?_ ?_
                rotate_left
                · simp only [Act.put, List.setIfInBounds_toArray, List.set_cons_zero, List.set_cons_succ, i64_w, i32_w]
                  rfl
                refine pure_ (i := 10) (N := some 33) (v := undef) (a' := ?_) #[true, true, true, true, true, true, true, true, true, true, true, false, false, false, false, false, false, false, false, false, false, false, false, false, false, false, false, false, false, false, false, false, false, false, false] rfl rfl (any_of HT_.out (by kernel_rfl)) (fun _ _ _ h => h) (Or.inr ⟨by rfl, rfl⟩) ?_ ?_
                rotate_left
                · simp only [Act.put, List.setIfInBounds_toArray, List.set_cons_zero, List.set_cons_succ, i64_w, i32_w]
                  rfl
                refine pure_ (i := 11) (N := some 34) (v := undef) (a' := ?_) #[true, true, true, true, true, true, true, true, true, true, true, true, false, false, false, false, false, false, false, false, false, false, false, false, false, false, false, false, false, false, false, false, false, false, false] rfl rfl (any_of HT_.out (by kernel_rfl)) (fun _ _ _ h => h) (Or.inr ⟨by rfl, rfl⟩) ?_ ?_
                rotate_left
                · simp only [Act.put, List.setIfInBounds_toArray, List.set_cons_zero, List.set_cons_succ, i64_w, i32_w]
                  rfl
                refine pure_ (i := 12) (N := some 35) (v := undef) (a' := ?_) #[true, true, true, true, true, true, true, true, true, true, true, true, true, false, false, false, false, false, false, false, false, false, false, false, false, false, false, false, false, false, false, false, false, false, false] rfl rfl (any_of HT_.out (by kernel_rfl)) (fun _ _ _ h => h) (Or.inr ⟨by rfl, rfl⟩) ?_ ?_
                rotate_left
                · simp only [Act.put, List.setIfInBounds_toArray, List.set_cons_zero, List.set_cons_succ, i64_w, i32_w]
                  rfl
                refine pure_ (i := 13) (N := some 36) (v := undef) (a' := ?_) #[true, true, true, true, true, true, true, true, true, true, true, true, true, true, false, false, false, false, false, false, false, false, false, false, false, false, false, false, false, false, false, false, false, false, false] rfl rfl (any_of HT_.out (by kernel_rfl)) (fun _ _ _ h => h) (Or.inr ⟨by rfl, rfl⟩) ?_ ?_
                rotate_left
                · simp only [Act.put, List.setIfInBounds_toArray, List.set_cons_zero, List.set_cons_succ, i64_w, i32_w]
                  rfl
                refine pure_ (i := 14) (N := some 37) (v := undef) (a' := ?_) #[true, true, true, true, true, true, true, true, true, true, true, true, true, true, true, false, false, false, false, false, false, false, false, false, false, false, false, false, false, false, false, false, false, false, false] rfl rfl (any_of HT_.out (by kernel_rfl)) (fun _ _ _ h => h) (Or.inr ⟨by rfl, rfl⟩) ?_ ?_
                rotate_left
                · simp only [Act.put, List.setIfInBounds_toArray, List.set_cons_zero, List.set_cons_succ, i64_w, i32_w]
                  rfl
                refine pure_ (i := 15) (N := some 38) (v := undef) (a' := ?_) #[true, true, true, true, true, true, true, true, true, true, true, true, true, true, true, true, false, false, false, false, false, false, false, false, false, false, false, false, false, false, false, false, false, false, false] rfl rfl (any_of HT_.out (by kernel_rfl)) (fun _ _ _ h => h) (Or.inr ⟨by rfl, rfl⟩) ?_ ?_
                rotate_left
                · simp only [Act.put, List.setIfInBounds_toArray, List.set_cons_zero, List.set_cons_succ, i64_w, i32_w]
                  rfl
                refine pure_ (i := 16) (N := some 39) (v := ?_) (a' := ?_) #[true, true, true, true, true, true, true, true, true, true, true, true, true, true, true, true, true, false, false, false, false, false, false, false, false, false, false, false, false, false, false, false, false, false, false] rfl rfl (any_of HT_.out (by kernel_rfl)) (fun _ _ _ h => h) (Or.inl ⟨by rfl, ?_⟩) ?_ ?_
                rotate_left
                · intro w'
                  go_simp
                  with_reducible rfl
                rotate_left
                · simp only [Act.put, List.setIfInBounds_toArray, List.set_cons_zero, List.set_cons_succ, i64_w, i32_w]
                  rfl
                refine pure_ (i := 17) (N := some 40) (v := ?_) (a' := ?_) #[true, true, true, true, true, true, true, true, true, true, true, true, true, true, true, true, true, true, false, false, false, false, false, false, false, false, false, false, false, false, false, false, false, false, false] rfl rfl (any_of HT_.out (by kernel_rfl)) (fun _ _ _ h => h) (Or.inl ⟨by rfl, ?_⟩) ?_ ?_
                rotate_left
                · intro w'
                  go_simp
                  with_reducible rfl
                rotate_left
                · simp only [Act.put, List.setIfInBounds_toArray, List.set_cons_zero, List.set_cons_succ, i64_w, i32_w]
                  rfl
                refine pure_ (i := 18) (N := some 41) (v := undef) (a' := ?_) #[true, true, true, true, true, true, true, true, true, true, true, true, true, true, true, true, true, true, true, false, false, false, false, false, false, false, false, false, false, false, false, false, false, false, false] rfl rfl (any_of HT_.out (by kernel_rfl)) (fun _ _ _ h => h) (Or.inr ⟨by rfl, rfl⟩) ?_ ?_
                rotate_left
                · simp only [Act.put, List.setIfInBounds_toArray, List.set_cons_zero, List.set_cons_succ, i64_w, i32_w]
                  rfl
                refine pure_ (i := 19) (N := some 42) (v := undef) (a' := ?_) #[true, true, true, true, true, true, true, true, true, true, true, true, true, true, true, true, true, true, true, true, false, false, false, false, false, false, false, false, false, false, false, false, false, false, false] rfl rfl (any_of HT_.out (by kernel_rfl)) (fun _ _ _ h => h) (Or.inr ⟨by rfl, rfl⟩) ?_ ?_
                rotate_left
                · simp only [Act.put, List.setIfInBounds_toArray, List.set_cons_zero, List.set_cons_succ, i64_w, i32_w]
                  rfl
                refine pure_ (i := 20) (N := some 43) (v := undef) (a' := ?_) #[true, true, true, true, true, true, true, true, true, true, true, true, true, true, true, true, true, true, true, true, true, false, false, false, false, false, false, false, false, false, false, false, false, false, false] rfl rfl (any_of HT_.out (by kernel_rfl)) (fun _ _ _ h => h) (Or.inr ⟨by rfl, rfl⟩) ?_ ?_
                rotate_left
                · simp only [Act.put, List.setIfInBounds_toArray, List.set_cons_zero, List.set_cons_succ, i64_w, i32_w]
                  rfl
                refine pure_ (i := 21) (N := some 44) (v := undef) (a' := ?_) #[true, true, true, true, true, true, true, true, true, true, true, true, true, true, true, true, true, true, true, true, true, true, false, false, false, false, false, false, false, false, false, false, false, false, false] rfl rfl (any_of HT_.out (by kernel_rfl)) (fun _ _ _ h => h) (Or.inr ⟨by rfl, rfl⟩) ?_ ?_
                rotate_left
                · simp only [Act.put, List.setIfInBounds_toArray, List.set_cons_zero, List.set_cons_succ, i64_w, i32_w]
                  rfl
                refine pure_ (i := 22) (N := some 45) (v := undef) (a' := ?_) #[true, true, true, true, true, true, true, true, true, true, true, true, true, true, true, true, true, true, true, true, true, true, true, false, false, false, false, false, false, false, false, false, false, false, false] rfl rfl (any_of HT_.out (by kernel_rfl)) (fun _ _ _ h => h) (Or.inr ⟨by rfl, rfl⟩) ?_ ?_
                rotate_left
                · simp only [Act.put, List.setIfInBounds_toArray, List.set_cons_zero, List.set_cons_succ, i64_w, i32_w]
                  rfl
                refine pure_ (i := 23) (N := some 46) (v := undef) (a' := ?_) #[true, true, true, true, true, true, true, true, true, true, true, true, true, true, true, true, true, true, true, true, true, true, true, true, false, false, false, false, false, false, false, false, false, false, false] rfl rfl (any_of HT_.out (by kernel_rfl)) (fun _ _ _ h => h) (Or.inr ⟨by rfl, rfl⟩) ?_ ?_
                rotate_left
                · simp only [Act.put, List.setIfInBounds_toArray, List.set_cons_zero, List.set_cons_succ, i64_w, i32_w]
                  rfl
                refine pure_ (i := 24) (N := some 47) (v := undef) (a' := ?_) #[true, true, true, true, true, true, true, true, true, true, true, true, true, true, true, true, true, true, true, true, true, true, true, true, true, false, false, false, false, false, false, false, false, false, false] rfl rfl (any_of HT_.out (by kernel_rfl)) (fun _ _ _ h => h) (Or.inr ⟨by rfl, rfl⟩) ?_ ?_
                rotate_left
                · simp only [Act.put, List.setIfInBounds_toArray, List.set_cons_zero, List.set_cons_succ, i64_w, i32_w]
                  rfl
                refine pure_ (i := 25) (N := some 48) (v := undef) (a' := ?_) #[true, true, true, true, true, true, true, true, true, true, true, true, true, true, true, true, true, true, true, true, true, true, true, true, true, true, false, false, false, false, false, false, false, false, false] rfl rfl (any_of HT_.out (by kernel_rfl)) (fun _ _ _ h => h) (Or.inr ⟨by rfl, rfl⟩) ?_ ?_
                rotate_left
                · simp only [Act.put, List.setIfInBounds_toArray, List.set_cons_zero, List.set_cons_succ, i64_w, i32_w]
                  rfl
                refine pure_ (i := 26) (N := some 49) (v := undef) (a' := ?_) #[true, true, true, true, true, true, true, true, true, true, true, true, true, true, true, true, true, true, true, true, true, true, true, true, true, true, true, false, false, false, false, false, false, false, false] rfl rfl (any_of HT_.out (by kernel_rfl)) (fun _ _ _ h => h) (Or.inr ⟨by rfl, rfl⟩) ?_ ?_
                rotate_left
                · simp only [Act.put, List.setIfInBounds_toArray, List.set_cons_zero, List.set_cons_succ, i64_w, i32_w]
                  rfl
                refine pure_ (i := 27) (N := some 50) (v := undef) (a' := ?_) #[true, true, true, true, true, true, true, true, true, true, true, true, true, true, true, true, true, true, true, true, true, true, true, true, true, true, true, true, false, false, false, false, false, false, false] rfl rfl (any_of HT_.out (by kernel_rfl)) (fun _ _ _ h => h) (Or.inr ⟨by rfl, rfl⟩) ?_ ?_
                rotate_left
                · simp only [Act.put, List.setIfInBounds_toArray, List.set_cons_zero, List.set_cons_succ, i64_w, i32_w]
                  rfl
                refine pure_ (i := 28) (N := some 51) (v := undef) (a' := ?_) #[true, true, true, true, true, true, true, true, true, true, true, true, true, true, true, true, true, true, true, true, true, true, true, true, true, true, true, true, true, false, false, false, false, false, false] rfl rfl (any_of HT_.out (by kernel_rfl)) (fun _ _ _ h => h) (Or.inr ⟨by rfl, rfl⟩) ?_ ?_
                rotate_left
                · simp only [Act.put, List.setIfInBounds_toArray, List.set_cons_zero, List.set_cons_succ, i64_w, i32_w]
                  rfl
                refine pure_ (i := 29) (N := some 52) (v := undef) (a' := ?_) #[true, true, true, true, true, true, true, true, true, true, true, true, true, true, true, true, true, true, true, true, true, true, true, true, true, true, true, true, true, true, false, false, false, false, false] rfl rfl (any_of HT_.out (by kernel_rfl)) (fun _ _ _ h => h) (Or.inr ⟨by rfl, rfl⟩) ?_ ?_
                rotate_left
                · simp only [Act.put, List.setIfInBounds_toArray, List.set_cons_zero, List.set_cons_succ, i64_w, i32_w]
                  rfl
                refine pure_ (i := 30) (N := some 53) (v := undef) (a' := ?_) #[true, true, true, true, true, true, true, true, true, true, true, true, true, true, true, true, true, true, true, true, true, true, true, true, true, true, true, true, true, true, true, false, false, false, false] rfl rfl (any_of HT_.out (by kernel_rfl)) (fun _ _ _ h => h) (Or.inr ⟨by rfl, rfl⟩) ?_ ?_
                rotate_left
                · simp only [Act.put, List.setIfInBounds_toArray, List.set_cons_zero, List.set_cons_succ, i64_w, i32_w]
                  rfl
                refine pure_ (i := 31) (N := some 54) (v := undef) (a' := ?_) #[true, true, true, true, true, true, true, true, true, true, true, true, true, true, true, true, true, true, true, true, true, true, true, true, true, true, true, true, true, true, true, true, false, false, false] rfl rfl (any_of HT_.out (by kernel_rfl)) (fun _ _ _ h => h) (Or.inr ⟨by rfl, rfl⟩) ?_ ?_
                rotate_left
                · simp only [Act.put, List.setIfInBounds_toArray, List.set_cons_zero, List.set_cons_succ, i64_w, i32_w]
                  rfl
                refine pure_ (i := 32) (N := some 55) (v := undef) (a' := ?_) #[true, true, true, true, true, true, true, true, true, true, true, true, true, true, true, true, true, true, true, true, true, true, true, true, true, true, true, true, true, true, true, true, true, false, false] rfl rfl (any_of HT_.out (by kernel_rfl)) (fun _ _ _ h => h) (Or.inr ⟨by rfl, rfl⟩) ?_ ?_
                rotate_left
                · simp only [Act.put, List.setIfInBounds_toArray, List.set_cons_zero, List.set_cons_succ, i64_w, i32_w]
                  rfl
                refine pure_ (i := 33) (N := some 56) (v := undef) (a' := ?_) #[true, true, true, true, true, true, true, true, true, true, true, true, true, true, true, true, true, true, true, true, true, true, true, true, true, true, true, true, true, true, true, true, true, true, false] rfl rfl (any_of HT_.out (by kernel_rfl)) (fun _ _ _ h => h) (Or.inr ⟨by rfl, rfl⟩) ?_ ?_
                rotate_left
                · simp only [Act.put, List.setIfInBounds_toArray, List.set_cons_zero, List.set_cons_succ, i64_w, i32_w]
                  rfl
                refine pure_ (i := 34) (N := some 57) (v := ?_) (a' := ?_) #[true, true, true, true, true, true, true, true, true, true, true, true, true, true, true, true, true, true, true, true, true, true, true, true, true, true, true, true, true, true, true, true, true, true, true] rfl rfl (any_of HT_.out (by kernel_rfl)) (fun _ _ _ h => h) (Or.inl ⟨by rfl, ?_⟩) ?_ ?_
                rotate_left
                · intro w'
                  go_simp
                  with_reducible rfl
                rotate_left
                · simp only [Act.put, List.setIfInBounds_toArray, List.set_cons_zero, List.set_cons_succ, i64_w, i32_w]
                  rfl
                refine done_ (done_of HT_.out (by kernel_rfl)) ?_
                try go_wp2
                go_roundg k1
                case measure => have := HK1.out; omega
                case rel => exact ⟨(wrap64 (x11_1 + 1)), (by first | rfl | (simp; done) | (simp [*]; done)), H', ⟨by have := HK1.out; omega⟩, ⟨by repeat (first | (with_reducible first | exact HB.out | apply below_alloc | apply pw_below_drewN | apply below_drew1) | exact HB.out)⟩⟩
              · rw [if_neg c10] at H
                have c10b0 : (((rd_T66 l1 x11_1).f0) == 5) = false := beq_eq_false_iff_ne.mpr c10
                have c10b1 : (((rd_T66 l1 x11_1).f0) != 5) = true := bne_iff_ne.mpr c10
                by_cases c12 : a4 = true
                · subst c12
                  have H1 : (if x11_1 < (l2.length : Int) then ((spec_SameTold.f k1 l0 ((rd_T66 l1 x11_1).f0) ((rd_T46 l2 x11_1).f0) ((rd_T46 l2 x11_1).f1) ((rd_T46 l2 x11_1).f2) ((rd_T46 l2 x11_1).f3) ((rd_T46 l3 x11_1).f0) ((rd_T46 l3 x11_1).f1) ((rd_T46 l3 x11_1).f2) ((rd_T46 l3 x11_1).f3)).bind fun t119 => (if t119 = true then (laws_treeRuns.l0 k1 l0 l1 l2 l3 true (wrap64 (x11_1 + 1))) else (some false))) else (none)) = some r := by rw [if_pos rfl] at H; exact H
                  clear H
                  have H := H1
                  clear H1
                  by_cases c13 : x11_1 < (l2.length : Int)
                  · rw [if_pos c13] at H
                    have c13b0 : decide (x11_1 < (l2.length : Int)) = true := decide_eq_true c13
                    clear c13
                    replace H := Option.bind_eq_some_iff.mp H
                    obtain ⟨t119, A140, H⟩ := H
                    replace H : (if t119 = true then (laws_treeRuns.l0 k1 l0 l1 l2 l3 true (wrap64 (x11_1 + 1))) else (some false)) = some r := H
                    have A14 := Aside0.mk A140
                    clear A140
                    by_cases c15 : t119 = true
                    · subst c15
                      have H1 : (laws_treeRuns.l0 k1 l0 l1 l2 l3 true (wrap64 (x11_1 + 1))) = some r := by rw [if_pos rfl] at H; exact H
                      clear H
                      have H := H1
                      clear H1
                      have H' := Aside0.mk H
                      clear H
                      try go_wp2
                      have n0_ := Aside0.mk (below_drew1 HB.out)
                      clear HB
                      have HB := n0_
                      clear n0_
                      have p115 : 0 ≤ (x11_1 : Int) := of_decide_eq_true (by first | (with_reducible assumption) | assumption)
                      have q115 : x11_1 < (l1.length : Int) := of_decide_eq_true (by first | (with_reducible assumption) | assumption)
                      obtain ⟨ad115, e115, hx115_0, hx115_1, hx115_2⟩ := at_T66 HR1.out x11_1 p115 q115
                      have hw115_2 := hx115_2
                      have hw115_1 := hx115_1
                      have hw115_0 := hx115_0
                      cases e115
                      replace hx115_0 := (HB.out.cell (World.block_lt_of_cell? w _ hx115_0)).trans hx115_0
                      replace hx115_1 := (HB.out.cell (World.block_lt_of_cell? w _ hx115_1)).trans hx115_1
                      replace hx115_2 := (HB.out.cell (World.block_lt_of_cell? w _ hx115_2)).trans hx115_2
                      replace p115 := eq_true p115
                      replace q115 := eq_true q115
                      have p116 : 0 ≤ (x11_1 : Int) := of_decide_eq_true (by first | (with_reducible assumption) | assumption)
                      have q116 : x11_1 < (l1.length : Int) := of_decide_eq_true (by first | (with_reducible assumption) | assumption)
                      obtain ⟨ad116, e116, hx116_0, hx116_1, hx116_2⟩ := at_T66 HR1.out x11_1 p116 q116
                      have hw116_2 := hx116_2
                      have hw116_1 := hx116_1
                      have hw116_0 := hx116_0
                      obtain rfl : ad115 = ad116 := (by injection e116)
                      replace hx116_0 := (HB.out.cell (World.block_lt_of_cell? w _ hx116_0)).trans hx116_0
                      replace hx116_1 := (HB.out.cell (World.block_lt_of_cell? w _ hx116_1)).trans hx116_1
                      replace hx116_2 := (HB.out.cell (World.block_lt_of_cell? w _ hx116_2)).trans hx116_2
                      replace p116 := eq_true p116
                      replace q116 := eq_true q116
                      have p117 : 0 ≤ (x11_1 : Int) := of_decide_eq_true (by first | (with_reducible assumption) | assumption)
                      have q117 : x11_1 < (l2.length : Int) := of_decide_eq_true (by first | (with_reducible assumption) | assumption)
                      obtain ⟨ad117, A117_2, c117_2, A117_3, c117_3, e117, hx117_0, hx117_1, hx117_2, hx117_3, hl117_2, hi117_2, hl117_3, hi117_3⟩ := at_T46 HR2.out x11_1 p117 q117
                      have hw117_3 := hx117_3
                      have hw117_2 := hx117_2
                      have hw117_1 := hx117_1
                      have hw117_0 := hx117_0
                      cases e117
                      replace hx117_0 := (HB.out.cell (World.block_lt_of_cell? w _ hx117_0)).trans hx117_0
                      replace hx117_1 := (HB.out.cell (World.block_lt_of_cell? w _ hx117_1)).trans hx117_1
                      replace hx117_2 := (HB.out.cell (World.block_lt_of_cell? w _ hx117_2)).trans hx117_2
                      replace hx117_3 := (HB.out.cell (World.block_lt_of_cell? w _ hx117_3)).trans hx117_3
                      have HR117_2 := Aside0.mk hi117_2
                      have HC117_2 := Aside0.mk hl117_2
                      clear hi117_2 hl117_2
                      have HR117_3 := Aside0.mk hi117_3
                      have HC117_3 := Aside0.mk hl117_3
                      clear hi117_3 hl117_3
                      replace p117 := eq_true p117
                      replace q117 := eq_true q117
                      have p118 : 0 ≤ (x11_1 : Int) := of_decide_eq_true (by first | (with_reducible assumption) | assumption)
                      have q118 : x11_1 < (l3.length : Int) := of_decide_eq_true (by first | (with_reducible assumption) | assumption)
                      obtain ⟨ad118, A118_2, c118_2, A118_3, c118_3, e118, hx118_0, hx118_1, hx118_2, hx118_3, hl118_2, hi118_2, hl118_3, hi118_3⟩ := at_T46 HR3.out x11_1 p118 q118
                      have hw118_3 := hx118_3
                      have hw118_2 := hx118_2
                      have hw118_1 := hx118_1
                      have hw118_0 := hx118_0
                      cases e118
                      replace hx118_0 := (HB.out.cell (World.block_lt_of_cell? w _ hx118_0)).trans hx118_0
                      replace hx118_1 := (HB.out.cell (World.block_lt_of_cell? w _ hx118_1)).trans hx118_1
                      replace hx118_2 := (HB.out.cell (World.block_lt_of_cell? w _ hx118_2)).trans hx118_2
                      replace hx118_3 := (HB.out.cell (World.block_lt_of_cell? w _ hx118_3)).trans hx118_3
                      have HR118_2 := Aside0.mk hi118_2
                      have HC118_2 := Aside0.mk hl118_2
                      clear hi118_2 hl118_2
                      have HR118_3 := Aside0.mk hi118_3
                      have HC118_3 := Aside0.mk hl118_3
                      clear hi118_3 hl118_3
                      replace p118 := eq_true p118
                      replace q118 := eq_true q118
                      refine start_ (n := 35) (S := fun w' => w'.cell? (ad115.add ((x11_1).toNat * 3)) = some (.int .i64 ((rd_T66 l1 x11_1).f0)) ∧ w'.cell? ⟨(ad115.add ((x11_1).toNat * 3)).block, (ad115.add ((x11_1).toNat * 3)).off + 1, none⟩ = some (.int .i64 ((rd_T66 l1 x11_1).f1)) ∧ w'.cell? ⟨(ad115.add ((x11_1).toNat * 3)).block, (ad115.add ((x11_1).toNat * 3)).off + 2, none⟩ = some (.int .i64 ((rd_T66 l1 x11_1).f2)) ∧ w'.cell? (ad115.add ((x11_1).toNat * 3)) = some (.int .i64 ((rd_T66 l1 x11_1).f0)) ∧ w'.cell? ⟨(ad115.add ((x11_1).toNat * 3)).block, (ad115.add ((x11_1).toNat * 3)).off + 1, none⟩ = some (.int .i64 ((rd_T66 l1 x11_1).f1)) ∧ w'.cell? ⟨(ad115.add ((x11_1).toNat * 3)).block, (ad115.add ((x11_1).toNat * 3)).off + 2, none⟩ = some (.int .i64 ((rd_T66 l1 x11_1).f2)) ∧ w'.cell? (ad117.add ((x11_1).toNat * 4)) = some (.int .i64 ((rd_T46 l2 x11_1).f0)) ∧ w'.cell? ⟨(ad117.add ((x11_1).toNat * 4)).block, (ad117.add ((x11_1).toNat * 4)).off + 1, none⟩ = some (.bool ((rd_T46 l2 x11_1).f1)) ∧ w'.cell? ⟨(ad117.add ((x11_1).toNat * 4)).block, (ad117.add ((x11_1).toNat * 4)).off + 2, none⟩ = some (.slice A117_2 ((rd_T46 l2 x11_1).f2).length c117_2) ∧ w'.cell? ⟨(ad117.add ((x11_1).toNat * 4)).block, (ad117.add ((x11_1).toNat * 4)).off + 3, none⟩ = some (.slice A117_3 ((rd_T46 l2 x11_1).f3).length c117_3) ∧ w'.cell? (ad118.add ((x11_1).toNat * 4)) = some (.int .i64 ((rd_T46 l3 x11_1).f0)) ∧ w'.cell? ⟨(ad118.add ((x11_1).toNat * 4)).block, (ad118.add ((x11_1).toNat * 4)).off + 1, none⟩ = some (.bool ((rd_T46 l3 x11_1).f1)) ∧ w'.cell? ⟨(ad118.add ((x11_1).toNat * 4)).block, (ad118.add ((x11_1).toNat * 4)).off + 2, none⟩ = some (.slice A118_2 ((rd_T46 l3 x11_1).f2).length c118_2) ∧ w'.cell? ⟨(ad118.add ((x11_1).toNat * 4)).block, (ad118.add ((x11_1).toNat * 4)).off + 3, none⟩ = some (.slice A118_3 ((rd_T46 l3 x11_1).f3).length c118_3)) (ds := []) #[false, false, false, false, false, false, false, false, false, false, false, false, false, false, false, false, false, false, false, false, false, false, false, false, false, false, false, false, false, false, false, false, false, false, false] (by kernel_rfl) rfl rfl ⟨((HB.out.cell (World.block_lt_of_cell? w _ hw115_0)).trans hw115_0), ((HB.out.cell (World.block_lt_of_cell? w _ hw115_1)).trans hw115_1), ((HB.out.cell (World.block_lt_of_cell? w _ hw115_2)).trans hw115_2), ((HB.out.cell (World.block_lt_of_cell? w _ hw116_0)).trans hw116_0), ((HB.out.cell (World.block_lt_of_cell? w _ hw116_1)).trans hw116_1), ((HB.out.cell (World.block_lt_of_cell? w _ hw116_2)).trans hw116_2), ((HB.out.cell (World.block_lt_of_cell? w _ hw117_0)).trans hw117_0), ((HB.out.cell (World.block_lt_of_cell? w _ hw117_1)).trans hw117_1), ((HB.out.cell (World.block_lt_of_cell? w _ hw117_2)).trans hw117_2), ((HB.out.cell (World.block_lt_of_cell? w _ hw117_3)).trans hw117_3), ((HB.out.cell (World.block_lt_of_cell? w _ hw118_0)).trans hw118_0), ((HB.out.cell (World.block_lt_of_cell? w _ hw118_1)).trans hw118_1), ((HB.out.cell (World.block_lt_of_cell? w _ hw118_2)).trans hw118_2), ((HB.out.cell (World.block_lt_of_cell? w _ hw118_3)).trans hw118_3)⟩ (fun hHeld => ?_); refine with_tabW laws_treeRuns.tab6 laws_treeRuns.bits6 (fun HT_ HW_ => ?_)
                      generalize wr.drew = w16 at HB HR117_2 HR117_3 HR118_2 HR118_3 hx115_0 hx115_1 hx115_2 hx116_0 hx116_1 hx116_2 hx117_0 hx117_1 hx117_2 hx117_3 hx118_0 hx118_1 hx118_2 hx118_3 hHeld ⊢
                      refine pure_ (i := 0) (N := some 23) (v := ?_) (a' := ?_) #[true, false, false, false, false, false, false, false, false, false, false, false, false, false, false, false, false, false, false, false, false, false, false, false, false, false, false, false, false, false, false, false, false, false, false] rfl rfl (any_of HT_.out (by kernel_rfl)) (fun _ _ _ h => h) (Or.inl ⟨by rfl, ?_⟩) ?_ ?_
                      rotate_left
                      · intro w'
                        go_simp
                        with_reducible rfl
                      rotate_left
                      · simp only [Act.put, List.setIfInBounds_toArray, List.set_cons_zero, List.set_cons_succ, i64_w, i32_w]
                        rfl
                      refine pure_ (i := 1) (N := some 24) (v := ?_) (a' := ?_) #[true, true, false, false, false, false, false, false, false, false, false, false, false, false, false, false, false, false, false, false, false, false, false, false, false, false, false, false, false, false, false, false, false, false, false] rfl rfl (any_of HT_.out (by kernel_rfl)) (fun _ _ _ h => h) (Or.inl ⟨by rfl, ?_⟩) ?_ ?_
                      rotate_left
                      · intro w'
                        go_simp
                        with_reducible rfl
                      rotate_left
                      · simp only [Act.put, List.setIfInBounds_toArray, List.set_cons_zero, List.set_cons_succ, i64_w, i32_w]
                        rfl
                      refine pure_ (i := 2) (N := some 25) (v := ?_) (a' := ?_) #[true, true, true, false, false, false, false, false, false, false, false, false, false, false, false, false, false, false, false, false, false, false, false, false, false, false, false, false, false, false, false, false, false, false, false] rfl rfl (any_of HT_.out (by kernel_rfl)) (fun _ _ _ h => h) (Or.inl ⟨by rfl, ?_⟩) ?_ ?_
                      rotate_left
                      · intro w'
                        go_simp
                        with_reducible rfl
                      rotate_left
                      · simp only [Act.put, List.setIfInBounds_toArray, List.set_cons_zero, List.set_cons_succ, i64_w, i32_w]
                        rfl
                      refine pure_ (i := 3) (N := some 26) (v := ?_) (a' := ?_) #[true, true, true, true, false, false, false, false, false, false, false, false, false, false, false, false, false, false, false, false, false, false, false, false, false, false, false, false, false, false, false, false, false, false, false] rfl rfl (any_of HT_.out (by kernel_rfl)) (fun _ _ _ h => h) (Or.inl ⟨by rfl, ?_⟩) ?_ ?_
                      rotate_left
                      · intro w'
                        go_simp
                        with_reducible rfl
                      rotate_left
                      · simp only [Act.put, List.setIfInBounds_toArray, List.set_cons_zero, List.set_cons_succ, i64_w, i32_w]
                        rfl
                      refine take_ (i := 4) (N := some 27) (v := ?_) (a' := ?_) #[true, true, true, true, true, false, false, false, false, false, false, false, false, false, false, false, false, false, false, false, false, false, false, false, false, false, false, false, false, false, false, false, false, false, false] rfl rfl (take_ofW HT_.out HW_.out (by kernel_rfl)) (fun _ _ _ h => h) (Or.inl ⟨by rfl, ?_⟩) hHeld ?_ ?_
                      rotate_left
                      · rintro w' ⟨s0, s1, s2, s3, s4, s5, s6, s7, s8, s9, s10, s11, s12, s13⟩
                        go_simp
                        with_reducible rfl
                      rotate_left
                      · simp only [Act.put, List.setIfInBounds_toArray, List.set_cons_zero, List.set_cons_succ, i64_w, i32_w]
                        rfl
                      refine pure_ (i := 5) (N := some 28) (v := ?_) (a' := ?_) #[true, true, true, true, true, true, false, false, false, false, false, false, false, false, false, false, false, false, false, false, false, false, false, false, false, false, false, false, false, false, false, false, false, false, false] rfl rfl (any_of HT_.out (by kernel_rfl)) (fun _ _ _ h => h) (Or.inl ⟨by rfl, ?_⟩) ?_ ?_
                      rotate_left
                      · intro w'
                        go_simp
                        with_reducible rfl
                      rotate_left
                      · simp only [Act.put, List.setIfInBounds_toArray, List.set_cons_zero, List.set_cons_succ, i64_w, i32_w]
                        rfl
                      refine pure_ (i := 6) (N := some 29) (v := ?_) (a' := ?_) #[true, true, true, true, true, true, true, false, false, false, false, false, false, false, false, false, false, false, false, false, false, false, false, false, false, false, false, false, false, false, false, false, false, false, false] rfl rfl (any_of HT_.out (by kernel_rfl)) (fun _ _ _ h => h) (Or.inl ⟨by rfl, ?_⟩) ?_ ?_
                      rotate_left
                      · intro w'
                        go_simp
                        with_reducible rfl
                      rotate_left
                      · simp only [Act.put, List.setIfInBounds_toArray, List.set_cons_zero, List.set_cons_succ, i64_w, i32_w]
                        rfl
                      refine pure_ (i := 7) (N := some 30) (v := ?_) (a' := ?_) #[true, true, true, true, true, true, true, true, false, false, false, false, false, false, false, false, false, false, false, false, false, false, false, false, false, false, false, false, false, false, false, false, false, false, false] rfl rfl (any_of HT_.out (by kernel_rfl)) (fun _ _ _ h => h) (Or.inl ⟨by rfl, ?_⟩) ?_ ?_
                      rotate_left
                      · intro w'
                        go_simp
                        with_reducible rfl
                      rotate_left
                      · simp only [Act.put, List.setIfInBounds_toArray, List.set_cons_zero, List.set_cons_succ, i64_w, i32_w]
                        rfl
                      refine pure_ (i := 8) (N := some 31) (v := ?_) (a' := ?_) #[true, true, true, true, true, true, true, true, true, false, false, false, false, false, false, false, false, false, false, false, false, false, false, false, false, false, false, false, false, false, false, false, false, false, false] rfl rfl (any_of HT_.out (by kernel_rfl)) (fun _ _ _ h => h) (Or.inl ⟨by rfl, ?_⟩) ?_ ?_
                      rotate_left
                      · intro w'
                        go_simp
                        with_reducible rfl
                      rotate_left
                      · simp only [Act.put, List.setIfInBounds_toArray, List.set_cons_zero, List.set_cons_succ, i64_w, i32_w]
                        rfl
                      refine pure_ (i := 9) (N := some 32) (v := undef) (a' := ?_) #[true, true, true, true, true, true, true, true, true, true, false, false, false, false, false, false, false, false, false, false, false, false, false, false, false, false, false, false, false, false, false, false, false, false, false] rfl rfl (any_of HT_.out (by kernel_rfl)) (fun _ _ _ h => h) (Or.inr ⟨by rfl, rfl⟩) ?_ ?_
                      rotate_left
                      · simp only [Act.put, List.setIfInBounds_toArray, List.set_cons_zero, List.set_cons_succ, i64_w, i32_w]
                        rfl
                      refine pure_ (i := 10) (N := some 33) (v := undef) (a' := ?_) #[true, true, true, true, true, true, true, true, true, true, true, false, false, false, false, false, false, false, false, false, false, false, false, false, false, false, false, false, false, false, false, false, false, false, false] rfl rfl (any_of HT_.out (by kernel_rfl)) (fun _ _ _ h => h) (Or.inr ⟨by rfl, rfl⟩) ?_ ?_
                      rotate_left
                      · simp only [Act.put, List.setIfInBounds_toArray, List.set_cons_zero, List.set_cons_succ, i64_w, i32_w]
                        rfl
                      refine pure_ (i := 11) (N := some 34) (v := undef) (a' := ?_) #[true, true, true, true, true, true, true, true, true, true, true, true, false, false, false, false, false, false, false, false, false, false, false, false, false, false, false, false, false, false, false, false, false, false, false] rfl rfl (any_of HT_.out (by kernel_rfl)) (fun _ _ _ h => h) (Or.inr ⟨by rfl, rfl⟩) ?_ ?_
                      rotate_left
                      · simp only [Act.put, List.setIfInBounds_toArray, List.set_cons_zero, List.set_cons_succ, i64_w, i32_w]
                        rfl
                      refine pure_ (i := 12) (N := some 35) (v := undef) (a' := ?_) #[true, true, true, true, true, true, true, true, true, true, true, true, true, false, false, false, false, false, false, false, false, false, false, false, false, false, false, false, false, false, false, false, false, false, false] rfl rfl (any_of HT_.out (by kernel_rfl)) (fun _ _ _ h => h) (Or.inr ⟨by rfl, rfl⟩) ?_ ?_
                      rotate_left
                      · simp only [Act.put, List.setIfInBounds_toArray, List.set_cons_zero, List.set_cons_succ, i64_w, i32_w]
                        rfl
                      refine pure_ (i := 13) (N := some 36) (v := undef) (a' := ?_) #[true, true, true, true, true, true, true, true, true, true, true, true, true, true, false, false, false, false, false, false, false, false, false, false, false, false, false, false, false, false, false, false, false, false, false] rfl rfl (any_of HT_.out (by kernel_rfl)) (fun _ _ _ h => h) (Or.inr ⟨by rfl, rfl⟩) ?_ ?_
                      rotate_left
                      · simp only [Act.put, List.setIfInBounds_toArray, List.set_cons_zero, List.set_cons_succ, i64_w, i32_w]
                        rfl
                      refine pure_ (i := 14) (N := some 37) (v := undef) (a' := ?_) #[true, true, true, true, true, true, true, true, true, true, true, true, true, true, true, false, false, false, false, false, false, false, false, false, false, false, false, false, false, false, false, false, false, false, false] rfl rfl (any_of HT_.out (by kernel_rfl)) (fun _ _ _ h => h) (Or.inr ⟨by rfl, rfl⟩) ?_ ?_
                      rotate_left
                      · simp only [Act.put, List.setIfInBounds_toArray, List.set_cons_zero, List.set_cons_succ, i64_w, i32_w]
                        rfl
                      refine pure_ (i := 15) (N := some 38) (v := ?_) (a' := ?_) #[true, true, true, true, true, true, true, true, true, true, true, true, true, true, true, true, false, false, false, false, false, false, false, false, false, false, false, false, false, false, false, false, false, false, false] rfl rfl (any_of HT_.out (by kernel_rfl)) (fun _ _ _ h => h) (Or.inl ⟨by rfl, ?_⟩) ?_ ?_
                      rotate_left
                      · intro w'
                        go_simp
                        with_reducible rfl
                      rotate_left
                      · simp only [Act.put, List.setIfInBounds_toArray, List.set_cons_zero, List.set_cons_succ, i64_w, i32_w]
                        rfl
                      refine pure_ (i := 16) (N := some 39) (v := ?_) (a' := ?_) #[true, true, true, true, true, true, true, true, true, true, true, true, true, true, true, true, true, false, false, false, false, false, false, false, false, false, false, false, false, false, false, false, false, false, false] rfl rfl (any_of HT_.out (by kernel_rfl)) (fun _ _ _ h => h) (Or.inl ⟨by rfl, ?_⟩) ?_ ?_
                      rotate_left
                      · intro w'
                        go_simp
                        with_reducible rfl
                      rotate_left
                      · simp only [Act.put, List.setIfInBounds_toArray, List.set_cons_zero, List.set_cons_succ, i64_w, i32_w]
                        rfl
                      refine pure_ (i := 17) (N := some 40) (v := ?_) (a' := ?_) #[true, true, true, true, true, true, true, true, true, true, true, true, true, true, true, true, true, true, false, false, false, false, false, false, false, false, false, false, false, false, false, false, false, false, false] rfl rfl (any_of HT_.out (by kernel_rfl)) (fun _ _ _ h => h) (Or.inl ⟨by rfl, ?_⟩) ?_ ?_
                      rotate_left
                      · intro w'
                        go_simp
                        with_reducible rfl
                      rotate_left
                      · simp only [Act.put, List.setIfInBounds_toArray, List.set_cons_zero, List.set_cons_succ, i64_w, i32_w]
                        rfl
                      refine pure_ (i := 18) (N := some 41) (v := ?_) (a' := ?_) #[true, true, true, true, true, true, true, true, true, true, true, true, true, true, true, true, true, true, true, false, false, false, false, false, false, false, false, false, false, false, false, false, false, false, false] rfl rfl (any_of HT_.out (by kernel_rfl)) (fun _ _ _ h => h) (Or.inl ⟨by rfl, ?_⟩) ?_ ?_
                      rotate_left
                      · intro w'
                        go_simp
                        with_reducible rfl
                      rotate_left
                      · simp only [Act.put, List.setIfInBounds_toArray, List.set_cons_zero, List.set_cons_succ, i64_w, i32_w]
                        rfl
                      refine pure_ (i := 19) (N := some 42) (v := ?_) (a' := ?_) #[true, true, true, true, true, true, true, true, true, true, true, true, true, true, true, true, true, true, true, true, false, false, false, false, false, false, false, false, false, false, false, false, false, false, false] rfl rfl (any_of HT_.out (by kernel_rfl)) (fun _ _ _ h => h) (Or.inl ⟨by rfl, ?_⟩) ?_ ?_
                      rotate_left
                      · intro w'
                        go_simp
                        with_reducible rfl
                      rotate_left
                      · simp only [Act.put, List.setIfInBounds_toArray, List.set_cons_zero, List.set_cons_succ, i64_w, i32_w]
                        rfl
                      refine pure_ (i := 20) (N := some 43) (v := ?_) (a' := ?_) #[true, true, true, true, true, true, true, true, true, true, true, true, true, true, true, true, true, true, true, true, true, false, false, false, false, false, false, false, false, false, false, false, false, false, false] rfl rfl (any_of HT_.out (by kernel_rfl)) (fun _ _ _ h => h) (Or.inl ⟨by rfl, ?_⟩) ?_ ?_
                      rotate_left
                      · intro w'
                        go_simp
                        with_reducible rfl
                      rotate_left
                      · simp only [Act.put, List.setIfInBounds_toArray, List.set_cons_zero, List.set_cons_succ, i64_w, i32_w]
                        rfl
                      refine pure_ (i := 21) (N := some 44) (v := ?_) (a' := ?_) #[true, true, true, true, true, true, true, true, true, true, true, true, true, true, true, true, true, true, true, true, true, true, false, false, false, false, false, false, false, false, false, false, false, false, false] rfl rfl (any_of HT_.out (by kernel_rfl)) (fun _ _ _ h => h) (Or.inl ⟨by rfl, ?_⟩) ?_ ?_
                      rotate_left
                      · intro w'
                        go_simp
                        with_reducible rfl
                      rotate_left
                      · simp only [Act.put, List.setIfInBounds_toArray, List.set_cons_zero, List.set_cons_succ, i64_w, i32_w]
                        rfl
                      refine pure_ (i := 22) (N := some 45) (v := ?_) (a' := ?_) #[true, true, true, true, true, true, true, true, true, true, true, true, true, true, true, true, true, true, true, true, true, true, true, false, false, false, false, false, false, false, false, false, false, false, false] rfl rfl (any_of HT_.out (by kernel_rfl)) (fun _ _ _ h => h) (Or.inl ⟨by rfl, ?_⟩) ?_ ?_
                      rotate_left
                      · intro w'
                        go_simp
                        with_reducible rfl
                      rotate_left
                      · simp only [Act.put, List.setIfInBounds_toArray, List.set_cons_zero, List.set_cons_succ, i64_w, i32_w]
                        rfl
                      refine pure_ (i := 24) (N := some 47) (v := ?_) (a' := ?_) #[true, true, true, true, true, true, true, true, true, true, true, true, true, true, true, true, true, true, true, true, true, true, true, false, true, false, false, false, false, false, false, false, false, false, false] rfl rfl (any_of HT_.out (by kernel_rfl)) (fun _ _ _ h => h) (Or.inl ⟨by rfl, ?_⟩) ?_ ?_
                      rotate_left
                      · intro w'
                        go_simp
                        with_reducible rfl
                      rotate_left
                      · simp only [Act.put, List.setIfInBounds_toArray, List.set_cons_zero, List.set_cons_succ, i64_w, i32_w]
                        rfl
                      refine pure_ (i := 25) (N := some 48) (v := ?_) (a' := ?_) #[true, true, true, true, true, true, true, true, true, true, true, true, true, true, true, true, true, true, true, true, true, true, true, false, true, true, false, false, false, false, false, false, false, false, false] rfl rfl (any_of HT_.out (by kernel_rfl)) (fun _ _ _ h => h) (Or.inl ⟨by rfl, ?_⟩) ?_ ?_
                      rotate_left
                      · intro w'
                        go_simp
                        with_reducible rfl
                      rotate_left
                      · simp only [Act.put, List.setIfInBounds_toArray, List.set_cons_zero, List.set_cons_succ, i64_w, i32_w]
                        rfl
                      refine pure_ (i := 26) (N := some 49) (v := ?_) (a' := ?_) #[true, true, true, true, true, true, true, true, true, true, true, true, true, true, true, true, true, true, true, true, true, true, true, false, true, true, true, false, false, false, false, false, false, false, false] rfl rfl (any_of HT_.out (by kernel_rfl)) (fun _ _ _ h => h) (Or.inl ⟨by rfl, ?_⟩) ?_ ?_
                      rotate_left
                      · intro w'
                        go_simp
                        with_reducible rfl
                      rotate_left
                      · simp only [Act.put, List.setIfInBounds_toArray, List.set_cons_zero, List.set_cons_succ, i64_w, i32_w]
                        rfl
                      refine pure_ (i := 28) (N := some 51) (v := ?_) (a' := ?_) #[true, true, true, true, true, true, true, true, true, true, true, true, true, true, true, true, true, true, true, true, true, true, true, false, true, true, true, false, true, false, false, false, false, false, false] rfl rfl (any_of HT_.out (by kernel_rfl)) (fun _ _ _ h => h) (Or.inl ⟨by rfl, ?_⟩) ?_ ?_
                      rotate_left
                      · intro w'
                        go_simp
                        with_reducible rfl
                      rotate_left
                      · simp only [Act.put, List.setIfInBounds_toArray, List.set_cons_zero, List.set_cons_succ, i64_w, i32_w]
                        rfl
                      refine pure_ (i := 29) (N := some 52) (v := ?_) (a' := ?_) #[true, true, true, true, true, true, true, true, true, true, true, true, true, true, true, true, true, true, true, true, true, true, true, false, true, true, true, false, true, true, false, false, false, false, false] rfl rfl (any_of HT_.out (by kernel_rfl)) (fun _ _ _ h => h) (Or.inl ⟨by rfl, ?_⟩) ?_ ?_
                      rotate_left
                      · intro w'
                        go_simp
                        with_reducible rfl
                      rotate_left
                      · simp only [Act.put, List.setIfInBounds_toArray, List.set_cons_zero, List.set_cons_succ, i64_w, i32_w]
                        rfl
                      refine pure_ (i := 30) (N := some 53) (v := ?_) (a' := ?_) #[true, true, true, true, true, true, true, true, true, true, true, true, true, true, true, true, true, true, true, true, true, true, true, false, true, true, true, false, true, true, true, false, false, false, false] rfl rfl (any_of HT_.out (by kernel_rfl)) (fun _ _ _ h => h) (Or.inl ⟨by rfl, ?_⟩) ?_ ?_
                      rotate_left
                      · intro w'
                        go_simp
                        with_reducible rfl
                      rotate_left
                      · simp only [Act.put, List.setIfInBounds_toArray, List.set_cons_zero, List.set_cons_succ, i64_w, i32_w]
                        rfl
                      refine take_ (i := 23) (N := some 46) (v := ?_) (a' := ?_) #[true, true, true, true, true, true, true, true, true, true, true, true, true, true, true, true, true, true, true, true, true, true, true, true, true, true, true, false, true, true, true, false, false, false, false] rfl rfl (take_ofW HT_.out HW_.out (by kernel_rfl)) (fun _ _ _ h => h) (Or.inl ⟨by rfl, ?_⟩) hHeld ?_ ?_
                      rotate_left
                      · rintro w' ⟨s0, s1, s2, s3, s4, s5, s6, s7, s8, s9, s10, s11, s12, s13⟩
                        go_simp
                        with_reducible rfl
                      rotate_left
                      · simp only [Act.put, List.setIfInBounds_toArray, List.set_cons_zero, List.set_cons_succ, i64_w, i32_w]
                        rfl
                      refine take_ (i := 27) (N := some 50) (v := ?_) (a' := ?_) #[true, true, true, true, true, true, true, true, true, true, true, true, true, true, true, true, true, true, true, true, true, true, true, true, true, true, true, true, true, true, true, false, false, false, false] rfl rfl (take_ofW HT_.out HW_.out (by kernel_rfl)) (fun _ _ _ h => h) (Or.inl ⟨by rfl, ?_⟩) hHeld ?_ ?_
                      rotate_left
                      · rintro w' ⟨s0, s1, s2, s3, s4, s5, s6, s7, s8, s9, s10, s11, s12, s13⟩
                        go_simp
                        with_reducible rfl
                      rotate_left
                      · simp only [Act.put, List.setIfInBounds_toArray, List.set_cons_zero, List.set_cons_succ, i64_w, i32_w]
                        rfl
                      refine take_ (i := 31) (N := some 54) (v := ?_) (a' := ?_) #[true, true, true, true, true, true, true, true, true, true, true, true, true, true, true, true, true, true, true, true, true, true, true, true, true, true, true, true, true, true, true, true, false, false, false] rfl rfl (take_ofW HT_.out HW_.out (by kernel_rfl)) (fun _ _ _ h => h) (Or.inl ⟨by rfl, ?_⟩) hHeld ?_ ?_
                      rotate_left
                      · rintro w' ⟨s0, s1, s2, s3, s4, s5, s6, s7, s8, s9, s10, s11, s12, s13⟩
                        go_simp
                        with_reducible rfl
                      rotate_left
                      · simp only [Act.put, List.setIfInBounds_toArray, List.set_cons_zero, List.set_cons_succ, i64_w, i32_w]
                        rfl
                      refine one_ (i := 32) (N := some 55) #[true, true, true, true, true, true, true, true, true, true, true, true, true, true, true, true, true, true, true, true, true, true, true, true, true, true, true, true, true, true, true, true, true, false, false] rfl rfl (one_of HT_.out (by kernel_rfl)) (by decide) (fun K hK => ?_)
                      refine goes_ Try.func49 (by kernel_rfl) rfl #[.slice A0 l0.length c0, .int .i64 ((rd_T66 l1 x11_1).f0), .agg #[.int .i64 ((rd_T46 l2 x11_1).f0), .bool ((rd_T46 l2 x11_1).f1), .slice A117_2 ((rd_T46 l2 x11_1).f2).length c117_2, .slice A117_3 ((rd_T46 l2 x11_1).f3).length c117_3], .agg #[.int .i64 ((rd_T46 l3 x11_1).f0), .bool ((rd_T46 l3 x11_1).f1), .slice A118_2 ((rd_T46 l3 x11_1).f2).length c118_2, .slice A118_3 ((rd_T46 l3 x11_1).f3).length c118_3]] (by rfl) rfl rfl (by (try simp only [List.map_toArray, List.map_cons, List.map_nil]); first | done | rfl | (simp only [List.length_drop, List.length_take]; rfl)) ?_
                      with_reducible refine (spec_SameTold.calls k1 _ _ l0 ((rd_T66 l1 x11_1).f0) ((rd_T46 l2 x11_1).f0) ((rd_T46 l2 x11_1).f1) _ _ ((rd_T46 l2 x11_1).f2) _ _ ((rd_T46 l2 x11_1).f3) ((rd_T46 l3 x11_1).f0) ((rd_T46 l3 x11_1).f1) _ _ ((rd_T46 l3 x11_1).f2) _ _ ((rd_T46 l3 x11_1).f3) true _ ?side1 ?side2 ?side3 ?side4 ?side5 ?side6 ?side7 ?side8 ?side9 ?side10 A14.out).mono ?_
                      (case side1 => repeat (first | exact (Kd.C_below HR0.out HB.out) | (with_reducible refine Kd.C_alloc ?_ _) | (with_reducible refine Kd.C_drewN ?_ _) | (with_reducible refine Kd.C_drew ?_)))
                      (case side2 => exact HC0.out)
                      (case side3 => repeat (first | exact (Kd.C_below HR117_2.out HB.out) | (with_reducible refine Kd.C_alloc ?_ _) | (with_reducible refine Kd.C_drewN ?_ _) | (with_reducible refine Kd.C_drew ?_)))
                      (case side4 => exact HC117_2.out)
                      (case side5 => repeat (first | exact (Kd.C_below HR117_3.out HB.out) | (with_reducible refine Kd.C_alloc ?_ _) | (with_reducible refine Kd.C_drewN ?_ _) | (with_reducible refine Kd.C_drew ?_)))
                      (case side6 => exact HC117_3.out)
                      (case side7 => repeat (first | exact (Kd.C_below HR118_2.out HB.out) | (with_reducible refine Kd.C_alloc ?_ _) | (with_reducible refine Kd.C_drewN ?_ _) | (with_reducible refine Kd.C_drew ?_)))
                      (case side8 => exact HC118_2.out)
                      (case side9 => repeat (first | exact (Kd.C_below HR118_3.out HB.out) | (with_reducible refine Kd.C_alloc ?_ _) | (with_reducible refine Kd.C_drewN ?_ _) | (with_reducible refine Kd.C_drew ?_)))
                      (case side10 => exact HC118_3.out)
                      rintro e w17 ⟨rfl, hb⟩
                      refine ⟨_, rfl, ?_⟩
                      have n0_ := Aside0.mk (below_step (by repeat (first | (with_reducible first | exact HB.out | apply below_alloc | apply pw_below_drewN | apply below_drew1) | exact HB.out)) hb)
                      clear HB
                      have HB := n0_
                      clear n0_
                      (try clear hb)
                      (try clear hb2)
                      (try clear hk)
                      (try clear hi)
                      refine hK.out _ _ ⟨((HB.out.cell (World.block_lt_of_cell? w _ hw115_0)).trans hw115_0), ((HB.out.cell (World.block_lt_of_cell? w _ hw115_1)).trans hw115_1), ((HB.out.cell (World.block_lt_of_cell? w _ hw115_2)).trans hw115_2), ((HB.out.cell (World.block_lt_of_cell? w _ hw116_0)).trans hw116_0), ((HB.out.cell (World.block_lt_of_cell? w _ hw116_1)).trans hw116_1), ((HB.out.cell (World.block_lt_of_cell? w _ hw116_2)).trans hw116_2), ((HB.out.cell (World.block_lt_of_cell? w _ hw117_0)).trans hw117_0), ((HB.out.cell (World.block_lt_of_cell? w _ hw117_1)).trans hw117_1), ((HB.out.cell (World.block_lt_of_cell? w _ hw117_2)).trans hw117_2), ((HB.out.cell (World.block_lt_of_cell? w _ hw117_3)).trans hw117_3), ((HB.out.cell (World.block_lt_of_cell? w _ hw118_0)).trans hw118_0), ((HB.out.cell (World.block_lt_of_cell? w _ hw118_1)).trans hw118_1), ((HB.out.cell (World.block_lt_of_cell? w _ hw118_2)).trans hw118_2), ((HB.out.cell (World.block_lt_of_cell? w _ hw118_3)).trans hw118_3)⟩ (fun hHeld => ?_)
                      clear hK K
                      refine norm_ (a' := ?_) ?_ ?_
                      rotate_left
                      · show Act.put _ (some 55) _ = _
                        simp only [Act.put, List.setIfInBounds_toArray, List.set_cons_zero, List.set_cons_succ, i64_w, i32_w]
                        rfl
                      refine pure_ (i := 33) (N := some 56) (v := ?_) (a' := ?_) #[true, true, true, true, true, true, true, true, true, true, true, true, true, true, true, true, true, true, true, true, true, true, true, true, true, true, true, true, true, true, true, true, true, true, false] rfl rfl (any_of HT_.out (by kernel_rfl)) (fun _ _ _ h => h) (Or.inl ⟨by rfl, ?_⟩) ?_ ?_
                      rotate_left
                      · intro w'
                        go_simp
                        with_reducible rfl
                      rotate_left
                      · simp only [Act.put, List.setIfInBounds_toArray, List.set_cons_zero, List.set_cons_succ, i64_w, i32_w]
                        rfl
                      refine pure_ (i := 34) (N := some 57) (v := ?_) (a' := ?_) #[true, true, true, true, true, true, true, true, true, true, true, true, true, true, true, true, true, true, true, true, true, true, true, true, true, true, true, true, true, true, true, true, true, true, true] rfl rfl (any_of HT_.out (by kernel_rfl)) (fun _ _ _ h => h) (Or.inl ⟨by rfl, ?_⟩) ?_ ?_
                      rotate_left
                      · intro w'
                        go_simp
                        with_reducible rfl
                      rotate_left
                      · simp only [Act.put, List.setIfInBounds_toArray, List.set_cons_zero, List.set_cons_succ, i64_w, i32_w]
                        rfl
                      refine done_ (done_of HT_.out (by kernel_rfl)) ?_
                      try go_wp2
                      go_roundg k1
                      case measure => have := HK1.out; omega
                      case rel => exact ⟨(wrap64 (x11_1 + 1)), (by first | rfl | (simp; done) | (simp [*]; done)), H', ⟨by have := HK1.out; omega⟩, ⟨by repeat (first | (with_reducible first | exact HB.out | apply below_alloc | apply pw_below_drewN | apply below_drew1) | exact HB.out)⟩⟩
                    · replace c15 := Bool.eq_false_iff.mpr c15
                      subst c15
                      have H1 : (some false) = some r := by rw [if_neg (show ¬ (false = true) by decide)] at H; exact H
                      clear H
                      have H := H1
                      clear H1
                      obtain rfl := Option.some.inj H
                      try go_wp2
                      have n0_ := Aside0.mk (below_drew1 HB.out)
                      clear HB
                      have HB := n0_
                      clear n0_
                      have p115 : 0 ≤ (x11_1 : Int) := of_decide_eq_true (by first | (with_reducible assumption) | assumption)
                      have q115 : x11_1 < (l1.length : Int) := of_decide_eq_true (by first | (with_reducible assumption) | assumption)
                      obtain ⟨ad115, e115, hx115_0, hx115_1, hx115_2⟩ := at_T66 HR1.out x11_1 p115 q115
                      have hw115_2 := hx115_2
                      have hw115_1 := hx115_1
                      have hw115_0 := hx115_0
                      cases e115
                      replace hx115_0 := (HB.out.cell (World.block_lt_of_cell? w _ hx115_0)).trans hx115_0
                      replace hx115_1 := (HB.out.cell (World.block_lt_of_cell? w _ hx115_1)).trans hx115_1
                      replace hx115_2 := (HB.out.cell (World.block_lt_of_cell? w _ hx115_2)).trans hx115_2
                      replace p115 := eq_true p115
                      replace q115 := eq_true q115
                      have p116 : 0 ≤ (x11_1 : Int) := of_decide_eq_true (by first | (with_reducible assumption) | assumption)
                      have q116 : x11_1 < (l1.length : Int) := of_decide_eq_true (by first | (with_reducible assumption) | assumption)
                      obtain ⟨ad116, e116, hx116_0, hx116_1, hx116_2⟩ := at_T66 HR1.out x11_1 p116 q116
                      have hw116_2 := hx116_2
                      have hw116_1 := hx116_1
                      have hw116_0 := hx116_0
                      obtain rfl : ad115 = ad116 := (by injection e116)
                      replace hx116_0 := (HB.out.cell (World.block_lt_of_cell? w _ hx116_0)).trans hx116_0
                      replace hx116_1 := (HB.out.cell (World.block_lt_of_cell? w _ hx116_1)).trans hx116_1
                      replace hx116_2 := (HB.out.cell (World.block_lt_of_cell? w _ hx116_2)).trans hx116_2
                      replace p116 := eq_true p116
                      replace q116 := eq_true q116
                      have p117 : 0 ≤ (x11_1 : Int) := of_decide_eq_true (by first | (with_reducible assumption) | assumption)
                      have q117 : x11_1 < (l2.length : Int) := of_decide_eq_true (by first | (with_reducible assumption) | assumption)
                      obtain ⟨ad117, A117_2, c117_2, A117_3, c117_3, e117, hx117_0, hx117_1, hx117_2, hx117_3, hl117_2, hi117_2, hl117_3, hi117_3⟩ := at_T46 HR2.out x11_1 p117 q117
                      have hw117_3 := hx117_3
                      have hw117_2 := hx117_2
                      have hw117_1 := hx117_1
                      have hw117_0 := hx117_0
                      cases e117
                      replace hx117_0 := (HB.out.cell (World.block_lt_of_cell? w _ hx117_0)).trans hx117_0
                      replace hx117_1 := (HB.out.cell (World.block_lt_of_cell? w _ hx117_1)).trans hx117_1
                      replace hx117_2 := (HB.out.cell (World.block_lt_of_cell? w _ hx117_2)).trans hx117_2
                      replace hx117_3 := (HB.out.cell (World.block_lt_of_cell? w _ hx117_3)).trans hx117_3
                      have HR117_2 := Aside0.mk hi117_2
                      have HC117_2 := Aside0.mk hl117_2
                      clear hi117_2 hl117_2
                      have HR117_3 := Aside0.mk hi117_3
                      have HC117_3 := Aside0.mk hl117_3
                      clear hi117_3 hl117_3
                      replace p117 := eq_true p117
                      replace q117 := eq_true q117
                      have p118 : 0 ≤ (x11_1 : Int) := of_decide_eq_true (by first | (with_reducible assumption) | assumption)
                      have q118 : x11_1 < (l3.length : Int) := of_decide_eq_true (by first | (with_reducible assumption) | assumption)
                      obtain ⟨ad118, A118_2, c118_2, A118_3, c118_3, e118, hx118_0, hx118_1, hx118_2, hx118_3, hl118_2, hi118_2, hl118_3, hi118_3⟩ := at_T46 HR3.out x11_1 p118 q118
                      have hw118_3 := hx118_3
                      have hw118_2 := hx118_2
                      have hw118_1 := hx118_1
                      have hw118_0 := hx118_0
                      cases e118
                      replace hx118_0 := (HB.out.cell (World.block_lt_of_cell? w _ hx118_0)).trans hx118_0
                      replace hx118_1 := (HB.out.cell (World.block_lt_of_cell? w _ hx118_1)).trans hx118_1
                      replace hx118_2 := (HB.out.cell (World.block_lt_of_cell? w _ hx118_2)).trans hx118_2
                      replace hx118_3 := (HB.out.cell (World.block_lt_of_cell? w _ hx118_3)).trans hx118_3
                      have HR118_2 := Aside0.mk hi118_2
                      have HC118_2 := Aside0.mk hl118_2
                      clear hi118_2 hl118_2
                      have HR118_3 := Aside0.mk hi118_3
                      have HC118_3 := Aside0.mk hl118_3
                      clear hi118_3 hl118_3
                      replace p118 := eq_true p118
                      replace q118 := eq_true q118
                      refine start_ (n := 35) (S := fun w' => w'.cell? (ad115.add ((x11_1).toNat * 3)) = some (.int .i64 ((rd_T66 l1 x11_1).f0)) ∧ w'.cell? ⟨(ad115.add ((x11_1).toNat * 3)).block, (ad115.add ((x11_1).toNat * 3)).off + 1, none⟩ = some (.int .i64 ((rd_T66 l1 x11_1).f1)) ∧ w'.cell? ⟨(ad115.add ((x11_1).toNat * 3)).block, (ad115.add ((x11_1).toNat * 3)).off + 2, none⟩ = some (.int .i64 ((rd_T66 l1 x11_1).f2)) ∧ w'.cell? (ad115.add ((x11_1).toNat * 3)) = some (.int .i64 ((rd_T66 l1 x11_1).f0)) ∧ w'.cell? ⟨(ad115.add ((x11_1).toNat * 3)).block, (ad115.add ((x11_1).toNat * 3)).off + 1, none⟩ = some (.int .i64 ((rd_T66 l1 x11_1).f1)) ∧ w'.cell? ⟨(ad115.add ((x11_1).toNat * 3)).block, (ad115.add ((x11_1).toNat * 3)).off + 2, none⟩ = some (.int .i64 ((rd_T66 l1 x11_1).f2)) ∧ w'.cell? (ad117.add ((x11_1).toNat * 4)) = some (.int .i64 ((rd_T46 l2 x11_1).f0)) ∧ w'.cell? ⟨(ad117.add ((x11_1).toNat * 4)).block, (ad117.add ((x11_1).toNat * 4)).off + 1, none⟩ = some (.bool ((rd_T46 l2 x11_1).f1)) ∧ w'.cell? ⟨(ad117.add ((x11_1).toNat * 4)).block, (ad117.add ((x11_1).toNat * 4)).off + 2, none⟩ = some (.slice A117_2 ((rd_T46 l2 x11_1).f2).length c117_2) ∧ w'.cell? ⟨(ad117.add ((x11_1).toNat * 4)).block, (ad117.add ((x11_1).toNat * 4)).off + 3, none⟩ = some (.slice A117_3 ((rd_T46 l2 x11_1).f3).length c117_3) ∧ w'.cell? (ad118.add ((x11_1).toNat * 4)) = some (.int .i64 ((rd_T46 l3 x11_1).f0)) ∧ w'.cell? ⟨(ad118.add ((x11_1).toNat * 4)).block, (ad118.add ((x11_1).toNat * 4)).off + 1, none⟩ = some (.bool ((rd_T46 l3 x11_1).f1)) ∧ w'.cell? ⟨(ad118.add ((x11_1).toNat * 4)).block, (ad118.add ((x11_1).toNat * 4)).off + 2, none⟩ = some (.slice A118_2 ((rd_T46 l3 x11_1).f2).length c118_2) ∧ w'.cell? ⟨(ad118.add ((x11_1).toNat * 4)).block, (ad118.add ((x11_1).toNat * 4)).off + 3, none⟩ = some (.slice A118_3 ((rd_T46 l3 x11_1).f3).length c118_3)) (ds := []) #[false, false, false, false, false, false, false, false, false, false, false, false, false, false, false, false, false, false, false, false, false, false, false, false, false, false, false, false, false, false, false, false, false, false, false] (by kernel_rfl) rfl rfl ⟨((HB.out.cell (World.block_lt_of_cell? w _ hw115_0)).trans hw115_0), ((HB.out.cell (World.block_lt_of_cell? w _ hw115_1)).trans hw115_1), ((HB.out.cell (World.block_lt_of_cell? w _ hw115_2)).trans hw115_2), ((HB.out.cell (World.block_lt_of_cell? w _ hw116_0)).trans hw116_0), ((HB.out.cell (World.block_lt_of_cell? w _ hw116_1)).trans hw116_1), ((HB.out.cell (World.block_lt_of_cell? w _ hw116_2)).trans hw116_2), ((HB.out.cell (World.block_lt_of_cell? w _ hw117_0)).trans hw117_0), ((HB.out.cell (World.block_lt_of_cell? w _ hw117_1)).trans hw117_1), ((HB.out.cell (World.block_lt_of_cell? w _ hw117_2)).trans hw117_2), ((HB.out.cell (World.block_lt_of_cell? w _ hw117_3)).trans hw117_3), ((HB.out.cell (World.block_lt_of_cell? w _ hw118_0)).trans hw118_0), ((HB.out.cell (World.block_lt_of_cell? w _ hw118_1)).trans hw118_1), ((HB.out.cell (World.block_lt_of_cell? w _ hw118_2)).trans hw118_2), ((HB.out.cell (World.block_lt_of_cell? w _ hw118_3)).trans hw118_3)⟩ (fun hHeld => ?_); refine with_tabW laws_treeRuns.tab6 laws_treeRuns.bits6 (fun HT_ HW_ => ?_)
                      generalize wr.drew = w18 at HB HR117_2 HR117_3 HR118_2 HR118_3 hx115_0 hx115_1 hx115_2 hx116_0 hx116_1 hx116_2 hx117_0 hx117_1 hx117_2 hx117_3 hx118_0 hx118_1 hx118_2 hx118_3 hHeld ⊢
                      refine pure_ (i := 0) (N := some 23) (v := ?_) (a' := ?_) #[true, false, false, false, false, false, false, false, false, false, false, false, false, false, false, false, false, false, false, false, false, false, false, false, false, false, false, false, false, false, false, false, false, false, false] rfl rfl (any_of HT_.out (by kernel_rfl)) (fun _ _ _ h => h) (Or.inl ⟨by rfl, ?_⟩) ?_ ?_
                      rotate_left
                      · intro w'
                        go_simp
                        with_reducible rfl
                      rotate_left
                      · simp only [Act.put, List.setIfInBounds_toArray, List.set_cons_zero, List.set_cons_succ, i64_w, i32_w]
                        rfl
                      refine pure_ (i := 1) (N := some 24) (v := ?_) (a' := ?_) #[true, true, false, false, false, false, false, false, false, false, false, false, false, false, false, false, false, false, false, false, false, false, false, false, false, false, false, false, false, false, false, false, false, false, false] rfl rfl (any_of HT_.out (by kernel_rfl)) (fun _ _ _ h => h) (Or.inl ⟨by rfl, ?_⟩) ?_ ?_
                      rotate_left
                      · intro w'
                        go_simp
                        with_reducible rfl
                      rotate_left
                      · simp only [Act.put, List.setIfInBounds_toArray, List.set_cons_zero, List.set_cons_succ, i64_w, i32_w]
                        rfl
                      refine pure_ (i := 2) (N := some 25) (v := ?_) (a' := ?_) #[true, true, true, false, false, false, false, false, false, false, false, false, false, false, false, false, false, false, false, false, false, false, false, false, false, false, false, false, false, false, false, false, false, false, false] rfl rfl (any_of HT_.out (by kernel_rfl)) (fun _ _ _ h => h) (Or.inl ⟨by rfl, ?_⟩) ?_ ?_
                      rotate_left
                      · intro w'
                        go_simp
                        with_reducible rfl
                      rotate_left
                      · simp only [Act.put, List.setIfInBounds_toArray, List.set_cons_zero, List.set_cons_succ, i64_w, i32_w]
                        rfl
                      refine pure_ (i := 3) (N := some 26) (v := ?_) (a' := ?_) #[true, true, true, true, false, false, false, false, false, false, false, false, false, false, false, false, false, false, false, false, false, false, false, false, false, false, false, false, false, false, false, false, false, false, false] rfl rfl (any_of HT_.out (by kernel_rfl)) (fun _ _ _ h => h) (Or.inl ⟨by rfl, ?_⟩) ?_ ?_
                      rotate_left
                      · intro w'
                        go_simp
                        with_reducible rfl
                      rotate_left
                      · simp only [Act.put, List.setIfInBounds_toArray, List.set_cons_zero, List.set_cons_succ, i64_w, i32_w]
                        rfl
                      refine take_ (i := 4) (N := some 27) (v := ?_) (a' := ?_) #[true, true, true, true, true, false, false, false, false, false, false, false, false, false, false, false, false, false, false, false, false, false, false, false, false, false, false, false, false, false, false, false, false, false, false] rfl rfl (take_ofW HT_.out HW_.out (by kernel_rfl)) (fun _ _ _ h => h) (Or.inl ⟨by rfl, ?_⟩) hHeld ?_ ?_
                      rotate_left
                      · rintro w' ⟨s0, s1, s2, s3, s4, s5, s6, s7, s8, s9, s10, s11, s12, s13⟩
                        go_simp
                        with_reducible rfl
                      rotate_left
                      · simp only [Act.put, List.setIfInBounds_toArray, List.set_cons_zero, List.set_cons_succ, i64_w, i32_w]
                        rfl
                      refine pure_ (i := 5) (N := some 28) (v := ?_) (a' := ?_) #[true, true, true, true, true, true, false, false, false, false, false, false, false, false, false, false, false, false, false, false, false, false, false, false, false, false, false, false, false, false, false, false, false, false, false] rfl rfl (any_of HT_.out (by kernel_rfl)) (fun _ _ _ h => h) (Or.inl ⟨by rfl, ?_⟩) ?_ ?_
                      rotate_left
                      · intro w'
                        go_simp
                        with_reducible rfl
                      rotate_left
                      · simp only [Act.put, List.setIfInBounds_toArray, List.set_cons_zero, List.set_cons_succ, i64_w, i32_w]
                        rfl
                      refine pure_ (i := 6) (N := some 29) (v := ?_) (a' := ?_) #[true, true, true, true, true, true, true, false, false, false, false, false, false, false, false, false, false, false, false, false, false, false, false, false, false, false, false, false, false, false, false, false, false, false, false] rfl rfl (any_of HT_.out (by kernel_rfl)) (fun _ _ _ h => h) (Or.inl ⟨by rfl, ?_⟩) ?_ ?_
                      rotate_left
                      · intro w'
                        go_simp
                        with_reducible rfl
                      rotate_left
                      · simp only [Act.put, List.setIfInBounds_toArray, List.set_cons_zero, List.set_cons_succ, i64_w, i32_w]
                        rfl
                      refine pure_ (i := 7) (N := some 30) (v := ?_) (a' := ?_) #[true, true, true, true, true, true, true, true, false, false, false, false, false, false, false, false, false, false, false, false, false, false, false, false, false, false, false, false, false, false, false, false, false, false, false] rfl rfl (any_of HT_.out (by kernel_rfl)) (fun _ _ _ h => h) (Or.inl ⟨by rfl, ?_⟩) ?_ ?_
                      rotate_left
                      · intro w'
                        go_simp
                        with_reducible rfl
                      rotate_left
                      · simp only [Act.put, List.setIfInBounds_toArray, List.set_cons_zero, List.set_cons_succ, i64_w, i32_w]
                        rfl
                      refine pure_ (i := 8) (N := some 31) (v := ?_) (a' := ?_) #[true, true, true, true, true, true, true, true, true, false, false, false, false, false, false, false, false, false, false, false, false, false, false, false, false, false, false, false, false, false, false, false, false, false, false] rfl rfl (any_of HT_.out (by kernel_rfl)) (fun _ _ _ h => h) (Or.inl ⟨by rfl, ?_⟩) ?_ ?_
                      rotate_left
                      · intro w'
                        go_simp
                        with_reducible rfl
                      rotate_left
                      · simp only [Act.put, List.setIfInBounds_toArray, List.set_cons_zero, List.set_cons_succ, i64_w, i32_w]
                        rfl
                      refine pure_ (i := 9) (N := some 32) (v := undef) (a' := ?_) #[true, true, true, true, true, true, true, true, true, true, false, false, false, false, false, false, false, false, false, false, false, false, false, false, false, false, false, false, false, false, false, false, false, false, false] rfl rfl (any_of HT_.out (by kernel_rfl)) (fun _ _ _ h => h) (Or.inr ⟨by rfl, rfl⟩) ?_ ?_
                      rotate_left
                      · simp only [Act.put, List.setIfInBounds_toArray, List.set_cons_zero, List.set_cons_succ, i64_w, i32_w]
                        rfl
                      refine pure_ (i := 10) (N := some 33) (v := undef) (a' := ?_) #[true, true, true, true, true, true, true, true, true, true, true, false, false, false, false, false, false, false, false, false, false, false, false, false, false, false, false, false, false, false, false, false, false, false, false] rfl rfl (any_of HT_.out (by kernel_rfl)) (fun _ _ _ h => h) (Or.inr ⟨by rfl, rfl⟩) ?_ ?_
                      rotate_left
                      · simp only [Act.put, List.setIfInBounds_toArray, List.set_cons_zero, List.set_cons_succ, i64_w, i32_w]
                        rfl
                      refine pure_ (i := 11) (N := some 34) (v := undef) (a' := ?_) #[true, true, true, true, true, true, true, true, true, true, true, true, false, false, false, false, false, false, false, false, false, false, false, false, false, false, false, false, false, false, false, false, false, false, false] rfl rfl (any_of HT_.out (by kernel_rfl)) (fun _ _ _ h => h) (Or.inr ⟨by rfl, rfl⟩) ?_ ?_
                      rotate_left
                      · simp only [Act.put, List.setIfInBounds_toArray, List.set_cons_zero, List.set_cons_succ, i64_w, i32_w]
                        rfl
                      refine pure_ (i := 12) (N := some 35) (v := undef) (a' := ?_) #[true, true, true, true, true, true, true, true, true, true, true, true, true, false, false, false, false, false, false, false, false, false, false, false, false, false, false, false, false, false, false, false, false, false, false] rfl rfl (any_of HT_.out (by kernel_rfl)) (fun _ _ _ h => h) (Or.inr ⟨by rfl, rfl⟩) ?_ ?_
                      rotate_left
                      · simp only [Act.put, List.setIfInBounds_toArray, List.set_cons_zero, List.set_cons_succ, i64_w, i32_w]
                        rfl
                      refine pure_ (i := 13) (N := some 36) (v := undef) (a' := ?_) #[true, true, true, true, true, true, true, true, true, true, true, true, true, true, false, false, false, false, false, false, false, false, false, false, false, false, false, false, false, false, false, false, false, false, false] rfl rfl (any_of HT_.out (by kernel_rfl)) (fun _ _ _ h => h) (Or.inr ⟨by rfl, rfl⟩) ?_ ?_
                      rotate_left
                      · simp only [Act.put, List.setIfInBounds_toArray, List.set_cons_zero, List.set_cons_succ, i64_w, i32_w]
                        rfl
                      refine pure_ (i := 14) (N := some 37) (v := undef) (a' := ?_) #[true, true, true, true, true, true, true, true, true, true, true, true, true, true, true, false, false, false, false, false, false, false, false, false, false, false, false, false, false, false, false, false, false, false, false] rfl rfl (any_of HT_.out (by kernel_rfl)) (fun _ _ _ h => h) (Or.inr ⟨by rfl, rfl⟩) ?_ ?_
                      rotate_left
                      · simp only [Act.put, List.setIfInBounds_toArray, List.set_cons_zero, List.set_cons_succ, i64_w, i32_w]
                        rfl
                      refine pure_ (i := 15) (N := some 38) (v := ?_) (a' := ?_) #[true, true, true, true, true, true, true, true, true, true, true, true, true, true, true, true, false, false, false, false, false, false, false, false, false, false, false, false, false, false, false, false, false, false, false] rfl rfl (any_of HT_.out (by kernel_rfl)) (fun _ _ _ h => h) (Or.inl ⟨by rfl, ?_⟩) ?_ ?_
                      rotate_left
                      · intro w'
                        go_simp
                        with_reducible rfl
                      rotate_left
                      · simp only [Act.put, List.setIfInBounds_toArray, List.set_cons_zero, List.set_cons_succ, i64_w, i32_w]
                        rfl
                      refine pure_ (i := 16) (N := some 39) (v := ?_) (a' := ?_) #[true, true, true, true, true, true, true, true, true, true, true, true, true, true, true, true, true, false, false, false, false, false, false, false, false, false, false, false, false, false, false, false, false, false, false] rfl rfl (any_of HT_.out (by kernel_rfl)) (fun _ _ _ h => h) (Or.inl ⟨by rfl, ?_⟩) ?_ ?_
                      rotate_left
                      · intro w'
                        go_simp
                        with_reducible rfl
                      rotate_left
                      · simp only [Act.put, List.setIfInBounds_toArray, List.set_cons_zero, List.set_cons_succ, i64_w, i32_w]
                        rfl
                      refine pure_ (i := 17) (N := some 40) (v := ?_) (a' := ?_) #[true, true, true, true, true, true, true, true, true, true, true, true, true, true, true, true, true, true, false, false, false, false, false, false, false, false, false, false, false, false, false, false, false, false, false] rfl rfl (any_of HT_.out (by kernel_rfl)) (fun _ _ _ h => h) (Or.inl ⟨by rfl, ?_⟩) ?_ ?_
                      rotate_left
                      · intro w'
                        go_simp
                        with_reducible rfl
                      rotate_left
                      · simp only [Act.put, List.setIfInBounds_toArray, List.set_cons_zero, List.set_cons_succ, i64_w, i32_w]
                        rfl
                      refine pure_ (i := 18) (N := some 41) (v := ?_) (a' := ?_) #[true, true, true, true, true, true, true, true, true, true, true, true, true, true, true, true, true, true, true, false, false, false, false, false, false, false, false, false, false, false, false, false, false, false, false] rfl rfl (any_of HT_.out (by kernel_rfl)) (fun _ _ _ h => h) (Or.inl ⟨by rfl, ?_⟩) ?_ ?_
                      rotate_left
                      · intro w'
                        go_simp
                        with_reducible rfl
                      rotate_left
                      · simp only [Act.put, List.setIfInBounds_toArray, List.set_cons_zero, List.set_cons_succ, i64_w, i32_w]
                        rfl
                      refine pure_ (i := 19) (N := some 42) (v := ?_) (a' := ?_) #[true, true, true, true, true, true, true, true, true, true, true, true, true, true, true, true, true, true, true, true, false, false, false, false, false, false, false, false, false, false, false, false, false, false, false] rfl rfl (any_of HT_.out (by kernel_rfl)) (fun _ _ _ h => h) (Or.inl ⟨by rfl, ?_⟩) ?_ ?_
                      rotate_left
                      · intro w'
                        go_simp
                        with_reducible rfl
                      rotate_left
                      · simp only [Act.put, List.setIfInBounds_toArray, List.set_cons_zero, List.set_cons_succ, i64_w, i32_w]
                        rfl
                      refine pure_ (i := 20) (N := some 43) (v := ?_) (a' := ?_) #[true, true, true, true, true, true, true, true, true, true, true, true, true, true, true, true, true, true, true, true, true, false, false, false, false, false, false, false, false, false, false, false, false, false, false] rfl rfl (any_of HT_.out (by kernel_rfl)) (fun _ _ _ h => h) (Or.inl ⟨by rfl, ?_⟩) ?_ ?_
                      rotate_left
                      · intro w'
                        go_simp
                        with_reducible rfl
                      rotate_left
                      · simp only [Act.put, List.setIfInBounds_toArray, List.set_cons_zero, List.set_cons_succ, i64_w, i32_w]
                        rfl
                      refine pure_ (i := 21) (N := some 44) (v := ?_) (a' := ?_) #[true, true, true, true, true, true, true, true, true, true, true, true, true, true, true, true, true, true, true, true, true, true, false, false, false, false, false, false, false, false, false, false, false, false, false] rfl rfl (any_of HT_.out (by kernel_rfl)) (fun _ _ _ h => h) (Or.inl ⟨by rfl, ?_⟩) ?_ ?_
                      rotate_left
                      · intro w'
                        go_simp
                        with_reducible rfl
                      rotate_left
                      · simp only [Act.put, List.setIfInBounds_toArray, List.set_cons_zero, List.set_cons_succ, i64_w, i32_w]
                        rfl
                      refine pure_ (i := 22) (N := some 45) (v := ?_) (a' := ?_) #[true, true, true, true, true, true, true, true, true, true, true, true, true, true, true, true, true, true, true, true, true, true, true, false, false, false, false, false, false, false, false, false, false, false, false] rfl rfl (any_of HT_.out (by kernel_rfl)) (fun _ _ _ h => h) (Or.inl ⟨by rfl, ?_⟩) ?_ ?_
                      rotate_left
                      · intro w'
                        go_simp
                        with_reducible rfl
                      rotate_left
                      · simp only [Act.put, List.setIfInBounds_toArray, List.set_cons_zero, List.set_cons_succ, i64_w, i32_w]
                        rfl
                      refine pure_ (i := 24) (N := some 47) (v := ?_) (a' := ?_) #[true, true, true, true, true, true, true, true, true, true, true, true, true, true, true, true, true, true, true, true, true, true, true, false, true, false, false, false, false, false, false, false, false, false, false] rfl rfl (any_of HT_.out (by kernel_rfl)) (fun _ _ _ h => h) (Or.inl ⟨by rfl, ?_⟩) ?_ ?_
                      rotate_left
                      · intro w'
                        go_simp
                        with_reducible rfl
                      rotate_left
                      · simp only [Act.put, List.setIfInBounds_toArray, List.set_cons_zero, List.set_cons_succ, i64_w, i32_w]
                        rfl
                      refine pure_ (i := 25) (N := some 48) (v := ?_) (a' := ?_) #[true, true, true, true, true, true, true, true, true, true, true, true, true, true, true, true, true, true, true, true, true, true, true, false, true, true, false, false, false, false, false, false, false, false, false] rfl rfl (any_of HT_.out (by kernel_rfl)) (fun _ _ _ h => h) (Or.inl ⟨by rfl, ?_⟩) ?_ ?_
                      rotate_left
                      · intro w'
                        go_simp
                        with_reducible rfl
                      rotate_left
                      · simp only [Act.put, List.setIfInBounds_toArray, List.set_cons_zero, List.set_cons_succ, i64_w, i32_w]
                        rfl
                      refine pure_ (i := 26) (N := some 49) (v := ?_) (a' := ?_) #[true, true, true, true, true, true, true, true, true, true, true, true, true, true, true, true, true, true, true, true, true, true, true, false, true, true, true, false, false, false, false, false, false, false, false] rfl rfl (any_of HT_.out (by kernel_rfl)) (fun _ _ _ h => h) (Or.inl ⟨by rfl, ?_⟩) ?_ ?_
                      rotate_left
                      · intro w'
                        go_simp
                        with_reducible rfl
                      rotate_left
                      · simp only [Act.put, List.setIfInBounds_toArray, List.set_cons_zero, List.set_cons_succ, i64_w, i32_w]
                        rfl
                      refine pure_ (i := 28) (N := some 51) (v := ?_) (a' := ?_) #[true, true, true, true, true, true, true, true, true, true, true, true, true, true, true, true, true, true, true, true, true, true, true, false, true, true, true, false, true, false, false, false, false, false, false] rfl rfl (any_of HT_.out (by kernel_rfl)) (fun _ _ _ h => h) (Or.inl ⟨by rfl, ?_⟩) ?_ ?_
                      rotate_left
                      · intro w'
                        go_simp
                        with_reducible rfl
                      rotate_left
                      · simp only [Act.put, List.setIfInBounds_toArray, List.set_cons_zero, List.set_cons_succ, i64_w, i32_w]
                        rfl
                      refine pure_ (i := 29) (N := some 52) (v := ?_) (a' := ?_) #[true, true, true, true, true, true, true, true, true, true, true, true, true, true, true, true, true, true, true, true, true, true, true, false, true, true, true, false, true, true, false, false, false, false, false] rfl rfl (any_of HT_.out (by kernel_rfl)) (fun _ _ _ h => h) (Or.inl ⟨by rfl, ?_⟩) ?_ ?_
                      rotate_left
                      · intro w'
                        go_simp
                        with_reducible rfl
                      rotate_left
                      · simp only [Act.put, List.setIfInBounds_toArray, List.set_cons_zero, List.set_cons_succ, i64_w, i32_w]
                        rfl
                      refine pure_ (i := 30) (N := some 53) (v := ?_) (a' := ?_) #[true, true, true, true, true, true, true, true, true, true, true, true, true, true, true, true, true, true, true, true, true, true, true, false, true, true, true, false, true, true, true, false, false, false, false] rfl rfl (any_of HT_.out (by kernel_rfl)) (fun _ _ _ h => h) (Or.inl ⟨by rfl, ?_⟩) ?_ ?_
                      rotate_left
                      · intro w'
                        go_simp
                        with_reducible rfl
                      rotate_left
                      · simp only [Act.put, List.setIfInBounds_toArray, List.set_cons_zero, List.set_cons_succ, i64_w, i32_w]
                        rfl
                      refine take_ (i := 23) (N := some 46) (v := ?_) (a' := ?_) #[true, true, true, true, true, true, true, true, true, true, true, true, true, true, true, true, true, true, true, true, true, true, true, true, true, true, true, false, true, true, true, false, false, false, false] rfl rfl (take_ofW HT_.out HW_.out (by kernel_rfl)) (fun _ _ _ h => h) (Or.inl ⟨by rfl, ?_⟩) hHeld ?_ ?_
                      rotate_left
                      · rintro w' ⟨s0, s1, s2, s3, s4, s5, s6, s7, s8, s9, s10, s11, s12, s13⟩
                        go_simp
                        with_reducible rfl
                      rotate_left
                      · simp only [Act.put, List.setIfInBounds_toArray, List.set_cons_zero, List.set_cons_succ, i64_w, i32_w]
                        rfl
                      refine take_ (i := 27) (N := some 50) (v := ?_) (a' := ?_) #[true, true, true, true, true, true, true, true, true, true, true, true, true, true, true, true, true, true, true, true, true, true, true, true, true, true, true, true, true, true, true, false, false, false, false] rfl rfl (take_ofW HT_.out HW_.out (by kernel_rfl)) (fun _ _ _ h => h) (Or.inl ⟨by rfl, ?_⟩) hHeld ?_ ?_
                      rotate_left
                      · rintro w' ⟨s0, s1, s2, s3, s4, s5, s6, s7, s8, s9, s10, s11, s12, s13⟩
                        go_simp
                        with_reducible rfl
                      rotate_left
                      · simp only [Act.put, List.setIfInBounds_toArray, List.set_cons_zero, List.set_cons_succ, i64_w, i32_w]
                        rfl
                      refine take_ (i := 31) (N := some 54) (v := ?_) (a' := ?_) #[true, true, true, true, true, true, true, true, true, true, true, true, true, true, true, true, true, true, true, true, true, true, true, true, true, true, true, true, true, true, true, true, false, false, false] rfl rfl (take_ofW HT_.out HW_.out (by kernel_rfl)) (fun _ _ _ h => h) (Or.inl ⟨by rfl, ?_⟩) hHeld ?_ ?_
                      rotate_left
                      · rintro w' ⟨s0, s1, s2, s3, s4, s5, s6, s7, s8, s9, s10, s11, s12, s13⟩
                        go_simp
                        with_reducible rfl
                      rotate_left
                      · simp only [Act.put, List.setIfInBounds_toArray, List.set_cons_zero, List.set_cons_succ, i64_w, i32_w]
                        rfl
                      refine one_ (i := 32) (N := some 55) #[true, true, true, true, true, true, true, true, true, true, true, true, true, true, true, true, true, true, true, true, true, true, true, true, true, true, true, true, true, true, true, true, true, false, false] rfl rfl (one_of HT_.out (by kernel_rfl)) (by decide) (fun K hK => ?_)
                      refine goes_ Try.func49 (by kernel_rfl) rfl #[.slice A0 l0.length c0, .int .i64 ((rd_T66 l1 x11_1).f0), .agg #[.int .i64 ((rd_T46 l2 x11_1).f0), .bool ((rd_T46 l2 x11_1).f1), .slice A117_2 ((rd_T46 l2 x11_1).f2).length c117_2, .slice A117_3 ((rd_T46 l2 x11_1).f3).length c117_3], .agg #[.int .i64 ((rd_T46 l3 x11_1).f0), .bool ((rd_T46 l3 x11_1).f1), .slice A118_2 ((rd_T46 l3 x11_1).f2).length c118_2, .slice A118_3 ((rd_T46 l3 x11_1).f3).length c118_3]] (by rfl) rfl rfl (by (try simp only [List.map_toArray, List.map_cons, List.map_nil]); first | done | rfl | (simp only [List.length_drop, List.length_take]; rfl)) ?_
                      with_reducible refine (spec_SameTold.calls k1 _ _ l0 ((rd_T66 l1 x11_1).f0) ((rd_T46 l2 x11_1).f0) ((rd_T46 l2 x11_1).f1) _ _ ((rd_T46 l2 x11_1).f2) _ _ ((rd_T46 l2 x11_1).f3) ((rd_T46 l3 x11_1).f0) ((rd_T46 l3 x11_1).f1) _ _ ((rd_T46 l3 x11_1).f2) _ _ ((rd_T46 l3 x11_1).f3) false _ ?side1 ?side2 ?side3 ?side4 ?side5 ?side6 ?side7 ?side8 ?side9 ?side10 A14.out).mono ?_
                      (case side1 => repeat (first | exact (Kd.C_below HR0.out HB.out) | (with_reducible refine Kd.C_alloc ?_ _) | (with_reducible refine Kd.C_drewN ?_ _) | (with_reducible refine Kd.C_drew ?_)))
                      (case side2 => exact HC0.out)
                      (case side3 => repeat (first | exact (Kd.C_below HR117_2.out HB.out) | (with_reducible refine Kd.C_alloc ?_ _) | (with_reducible refine Kd.C_drewN ?_ _) | (with_reducible refine Kd.C_drew ?_)))
                      (case side4 => exact HC117_2.out)
                      (case side5 => repeat (first | exact (Kd.C_below HR117_3.out HB.out) | (with_reducible refine Kd.C_alloc ?_ _) | (with_reducible refine Kd.C_drewN ?_ _) | (with_reducible refine Kd.C_drew ?_)))
                      (case side6 => exact HC117_3.out)
                      (case side7 => repeat (first | exact (Kd.C_below HR118_2.out HB.out) | (with_reducible refine Kd.C_alloc ?_ _) | (with_reducible refine Kd.C_drewN ?_ _) | (with_reducible refine Kd.C_drew ?_)))
                      (case side8 => exact HC118_2.out)
                      (case side9 => repeat (first | exact (Kd.C_below HR118_3.out HB.out) | (with_reducible refine Kd.C_alloc ?_ _) | (with_reducible refine Kd.C_drewN ?_ _) | (with_reducible refine Kd.C_drew ?_)))
                      (case side10 => exact HC118_3.out)
                      rintro e w19 ⟨rfl, hb⟩
                      refine ⟨_, rfl, ?_⟩
                      have n0_ := Aside0.mk (below_step (by repeat (first | (with_reducible first | exact HB.out | apply below_alloc | apply pw_below_drewN | apply below_drew1) | exact HB.out)) hb)
                      clear HB
                      have HB := n0_
                      clear n0_
                      (try clear hb)
                      (try clear hb2)
                      (try clear hk)
                      (try clear hi)
                      refine hK.out _ _ ⟨((HB.out.cell (World.block_lt_of_cell? w _ hw115_0)).trans hw115_0), ((HB.out.cell (World.block_lt_of_cell? w _ hw115_1)).trans hw115_1), ((HB.out.cell (World.block_lt_of_cell? w _ hw115_2)).trans hw115_2), ((HB.out.cell (World.block_lt_of_cell? w _ hw116_0)).trans hw116_0), ((HB.out.cell (World.block_lt_of_cell? w _ hw116_1)).trans hw116_1), ((HB.out.cell (World.block_lt_of_cell? w _ hw116_2)).trans hw116_2), ((HB.out.cell (World.block_lt_of_cell? w _ hw117_0)).trans hw117_0), ((HB.out.cell (World.block_lt_of_cell? w _ hw117_1)).trans hw117_1), ((HB.out.cell (World.block_lt_of_cell? w _ hw117_2)).trans hw117_2), ((HB.out.cell (World.block_lt_of_cell? w _ hw117_3)).trans hw117_3), ((HB.out.cell (World.block_lt_of_cell? w _ hw118_0)).trans hw118_0), ((HB.out.cell (World.block_lt_of_cell? w _ hw118_1)).trans hw118_1), ((HB.out.cell (World.block_lt_of_cell? w _ hw118_2)).trans hw118_2), ((HB.out.cell (World.block_lt_of_cell? w _ hw118_3)).trans hw118_3)⟩ (fun hHeld => ?_)
                      clear hK K
                      refine norm_ (a' := ?_) ?_ ?_
                      rotate_left
                      · show Act.put _ (some 55) _ = _
                        simp only [Act.put, List.setIfInBounds_toArray, List.set_cons_zero, List.set_cons_succ, i64_w, i32_w]
                        rfl
                      refine pure_ (i := 33) (N := some 56) (v := ?_) (a' := ?_) #[true, true, true, true, true, true, true, true, true, true, true, true, true, true, true, true, true, true, true, true, true, true, true, true, true, true, true, true, true, true, true, true, true, true, false] rfl rfl (any_of HT_.out (by kernel_rfl)) (fun _ _ _ h => h) (Or.inl ⟨by rfl, ?_⟩) ?_ ?_
                      rotate_left
                      · intro w'
                        go_simp
                        with_reducible rfl
                      rotate_left
                      · simp only [Act.put, List.setIfInBounds_toArray, List.set_cons_zero, List.set_cons_succ, i64_w, i32_w]
                        rfl
                      refine pure_ (i := 34) (N := some 57) (v := ?_) (a' := ?_) #[true, true, true, true, true, true, true, true, true, true, true, true, true, true, true, true, true, true, true, true, true, true, true, true, true, true, true, true, true, true, true, true, true, true, true] rfl rfl (any_of HT_.out (by kernel_rfl)) (fun _ _ _ h => h) (Or.inl ⟨by rfl, ?_⟩) ?_ ?_
                      rotate_left
                      · intro w'
                        go_simp
                        with_reducible rfl
                      rotate_left
                      · simp only [Act.put, List.setIfInBounds_toArray, List.set_cons_zero, List.set_cons_succ, i64_w, i32_w]
                        rfl
                      refine done_ (done_of HT_.out (by kernel_rfl)) ?_
                      try go_wp2
                      go_ret
                      exact ⟨by first | rfl | (simp [errW_none, errW_some] <;> rfl) | (simp [*, errW_none, errW_some] <;> rfl), by repeat (first | (with_reducible first | exact HB.out | apply below_alloc | apply pw_below_drewN | apply below_drew1) | exact HB.out)⟩
                  · rw [if_neg c13] at H
                    exact absurd H (by simp)
                · replace c12 := Bool.eq_false_iff.mpr c12
                  subst c12
                  have H1 : (if ((rd_T66 l1 x11_1).f0) = 3 then (laws_treeRuns.l0 k1 l0 l1 l2 l3 false (wrap64 (x11_1 + 1))) else (if x11_1 < (l2.length : Int) then ((spec_SameTold.f k1 l0 ((rd_T66 l1 x11_1).f0) ((rd_T46 l2 x11_1).f0) ((rd_T46 l2 x11_1).f1) ((rd_T46 l2 x11_1).f2) ((rd_T46 l2 x11_1).f3) ((rd_T46 l3 x11_1).f0) ((rd_T46 l3 x11_1).f1) ((rd_T46 l3 x11_1).f2) ((rd_T46 l3 x11_1).f3)).bind fun t124 => (if t124 = true then (laws_treeRuns.l0 k1 l0 l1 l2 l3 false (wrap64 (x11_1 + 1))) else (some false))) else (none))) = some r := by rw [if_neg (show ¬ (false = true) by decide)] at H; exact H
                  clear H
                  have H := H1
                  clear H1
                  by_cases c20 : ((rd_T66 l1 x11_1).f0) = 3
                  · rw [if_pos c20] at H
                    have c20b0 : (((rd_T66 l1 x11_1).f0) == 3) = true := beq_iff_eq.mpr c20
                    have c20b1 : (((rd_T66 l1 x11_1).f0) != 3) = false := bne_eq_false_iff_eq.mpr c20
                    clear c20
                    have H' := Aside0.mk H
                    clear H
                    try go_wp2
                    have n0_ := Aside0.mk (below_drew1 HB.out)
                    clear HB
                    have HB := n0_
                    clear n0_
                    have p115 : 0 ≤ (x11_1 : Int) := of_decide_eq_true (by first | (with_reducible assumption) | assumption)
                    have q115 : x11_1 < (l1.length : Int) := of_decide_eq_true (by first | (with_reducible assumption) | assumption)
                    obtain ⟨ad115, e115, hx115_0, hx115_1, hx115_2⟩ := at_T66 HR1.out x11_1 p115 q115
                    have hw115_2 := hx115_2
                    have hw115_1 := hx115_1
                    have hw115_0 := hx115_0
                    cases e115
                    replace hx115_0 := (HB.out.cell (World.block_lt_of_cell? w _ hx115_0)).trans hx115_0
                    replace hx115_1 := (HB.out.cell (World.block_lt_of_cell? w _ hx115_1)).trans hx115_1
                    replace hx115_2 := (HB.out.cell (World.block_lt_of_cell? w _ hx115_2)).trans hx115_2
                    replace p115 := eq_true p115
                    replace q115 := eq_true q115
                    have p120 : 0 ≤ (x11_1 : Int) := of_decide_eq_true (by first | (with_reducible assumption) | assumption)
                    have q120 : x11_1 < (l1.length : Int) := of_decide_eq_true (by first | (with_reducible assumption) | assumption)
                    obtain ⟨ad120, e120, hx120_0, hx120_1, hx120_2⟩ := at_T66 HR1.out x11_1 p120 q120
                    have hw120_2 := hx120_2
                    have hw120_1 := hx120_1
                    have hw120_0 := hx120_0
                    obtain rfl : ad115 = ad120 := (by injection e120)
                    replace hx120_0 := (HB.out.cell (World.block_lt_of_cell? w _ hx120_0)).trans hx120_0
                    replace hx120_1 := (HB.out.cell (World.block_lt_of_cell? w _ hx120_1)).trans hx120_1
                    replace hx120_2 := (HB.out.cell (World.block_lt_of_cell? w _ hx120_2)).trans hx120_2
                    replace p120 := eq_true p120
                    replace q120 := eq_true q120
                    refine start_ (n := 35) (S := fun w' => w'.cell? (ad115.add ((x11_1).toNat * 3)) = some (.int .i64 ((rd_T66 l1 x11_1).f0)) ∧ w'.cell? ⟨(ad115.add ((x11_1).toNat * 3)).block, (ad115.add ((x11_1).toNat * 3)).off + 1, none⟩ = some (.int .i64 ((rd_T66 l1 x11_1).f1)) ∧ w'.cell? ⟨(ad115.add ((x11_1).toNat * 3)).block, (ad115.add ((x11_1).toNat * 3)).off + 2, none⟩ = some (.int .i64 ((rd_T66 l1 x11_1).f2)) ∧ w'.cell? (ad115.add ((x11_1).toNat * 3)) = some (.int .i64 ((rd_T66 l1 x11_1).f0)) ∧ w'.cell? ⟨(ad115.add ((x11_1).toNat * 3)).block, (ad115.add ((x11_1).toNat * 3)).off + 1, none⟩ = some (.int .i64 ((rd_T66 l1 x11_1).f1)) ∧ w'.cell? ⟨(ad115.add ((x11_1).toNat * 3)).block, (ad115.add ((x11_1).toNat * 3)).off + 2, none⟩ = some (.int .i64 ((rd_T66 l1 x11_1).f2))) (ds := []) #[false, false, false, false, false, false, false, false, false, false, false, false, false, false, false, false, false, false, false, false, false, false, false, false, false, false, false, false, false, false, false, false, false, false, false] (by kernel_rfl) rfl rfl ⟨((HB.out.cell (World.block_lt_of_cell? w _ hw115_0)).trans hw115_0), ((HB.out.cell (World.block_lt_of_cell? w _ hw115_1)).trans hw115_1), ((HB.out.cell (World.block_lt_of_cell? w _ hw115_2)).trans hw115_2), ((HB.out.cell (World.block_lt_of_cell? w _ hw120_0)).trans hw120_0), ((HB.out.cell (World.block_lt_of_cell? w _ hw120_1)).trans hw120_1), ((HB.out.cell (World.block_lt_of_cell? w _ hw120_2)).trans hw120_2)⟩ (fun hHeld => ?_); refine with_tabW laws_treeRuns.tab6 laws_treeRuns.bits6 (fun HT_ HW_ => ?_)
                    generalize wr.drew = w21 at HB hx115_0 hx115_1 hx115_2 hx120_0 hx120_1 hx120_2 hHeld ⊢
                    refine pure_ (i := 0) (N := some 23) (v := ?_) (a' := ?_) #[true, false, false, false, false, false, false, false, false, false, false, false, false, false, false, false, false, false, false, false, false, false, false, false, false, false, false, false, false, false, false, false, false, false, false] rfl rfl (any_of HT_.out (by kernel_rfl)) (fun _ _ _ h => h) (Or.inl ⟨by rfl, ?_⟩) ?_ ?_
                    rotate_left
                    · intro w'
                      go_simp
                      with_reducible rfl
                    rotate_left
                    · simp only [Act.put, List.setIfInBounds_toArray, List.set_cons_zero, List.set_cons_succ, i64_w, i32_w]
                      rfl
                    refine pure_ (i := 1) (N := some 24) (v := ?_) (a' := ?_) #[true, true, false, false, false, false, false, false, false, false, false, false, false, false, false, false, false, false, false, false, false, false, false, false, false, false, false, false, false, false, false, false, false, false, false] rfl rfl (any_of HT_.out (by kernel_rfl)) (fun _ _ _ h => h) (Or.inl ⟨by rfl, ?_⟩) ?_ ?_
                    rotate_left
                    · intro w'
                      go_simp
                      with_reducible rfl
                    rotate_left
                    · simp only [Act.put, List.setIfInBounds_toArray, List.set_cons_zero, List.set_cons_succ, i64_w, i32_w]
                      rfl
                    refine pure_ (i := 2) (N := some 25) (v := ?_) (a' := ?_) #[true, true, true, false, false, false, false, false, false, false, false, false, false, false, false, false, false, false, false, false, false, false, false, false, false, false, false, false, false, false, false, false, false, false, false] rfl rfl (any_of HT_.out (by kernel_rfl)) (fun _ _ _ h => h) (Or.inl ⟨by rfl, ?_⟩) ?_ ?_
                    rotate_left
                    · intro w'
                      go_simp
                      with_reducible rfl
                    rotate_left
                    · simp only [Act.put, List.setIfInBounds_toArray, List.set_cons_zero, List.set_cons_succ, i64_w, i32_w]
                      rfl
                    refine pure_ (i := 3) (N := some 26) (v := ?_) (a' := ?_) #[true, true, true, true, false, false, false, false, false, false, false, false, false, false, false, false, false, false, false, false, false, false, false, false, false, false, false, false, false, false, false, false, false, false, false] rfl rfl (any_of HT_.out (by kernel_rfl)) (fun _ _ _ h => h) (Or.inl ⟨by rfl, ?_⟩) ?_ ?_
                    rotate_left
                    · intro w'
                      go_simp
                      with_reducible rfl
                    rotate_left
                    · simp only [Act.put, List.setIfInBounds_toArray, List.set_cons_zero, List.set_cons_succ, i64_w, i32_w]
                      rfl
                    refine take_ (i := 4) (N := some 27) (v := ?_) (a' := ?_) #[true, true, true, true, true, false, false, false, false, false, false, false, false, false, false, false, false, false, false, false, false, false, false, false, false, false, false, false, false, false, false, false, false, false, false] rfl rfl (take_ofW HT_.out HW_.out (by kernel_rfl)) (fun _ _ _ h => h) (Or.inl ⟨by rfl, ?_⟩) hHeld ?_ ?_
                    rotate_left
                    · rintro w' ⟨s0, s1, s2, s3, s4, s5⟩
                      go_simp
                      with_reducible rfl
                    rotate_left
                    · simp only [Act.put, List.setIfInBounds_toArray, List.set_cons_zero, List.set_cons_succ, i64_w, i32_w]
                      rfl
                    refine pure_ (i := 5) (N := some 28) (v := ?_) (a' := ?_) #[true, true, true, true, true, true, false, false, false, false, false, false, false, false, false, false, false, false, false, false, false, false, false, false, false, false, false, false, false, false, false, false, false, false, false] rfl rfl (any_of HT_.out (by kernel_rfl)) (fun _ _ _ h => h) (Or.inl ⟨by rfl, ?_⟩) ?_ ?_
                    rotate_left
                    · intro w'
                      go_simp
                      with_reducible rfl
                    rotate_left
                    · simp only [Act.put, List.setIfInBounds_toArray, List.set_cons_zero, List.set_cons_succ, i64_w, i32_w]
                      rfl
                    refine pure_ (i := 6) (N := some 29) (v := ?_) (a' := ?_) #[true, true, true, true, true, true, true, false, false, false, false, false, false, false, false, false, false, false, false, false, false, false, false, false, false, false, false, false, false, false, false, false, false, false, false] rfl rfl (any_of HT_.out (by kernel_rfl)) (fun _ _ _ h => h) (Or.inl ⟨by rfl, ?_⟩) ?_ ?_
                    rotate_left
                    · intro w'
                      go_simp
                      with_reducible rfl
                    rotate_left
                    · simp only [Act.put, List.setIfInBounds_toArray, List.set_cons_zero, List.set_cons_succ, i64_w, i32_w]
                      rfl
                    refine pure_ (i := 7) (N := some 30) (v := ?_) (a' := ?_) #[true, true, true, true, true, true, true, true, false, false, false, false, false, false, false, false, false, false, false, false, false, false, false, false, false, false, false, false, false, false, false, false, false, false, false] rfl rfl (any_of HT_.out (by kernel_rfl)) (fun _ _ _ h => h) (Or.inl ⟨by rfl, ?_⟩) ?_ ?_
                    rotate_left
                    · intro w'
                      go_simp
                      with_reducible rfl
                    rotate_left
                    · simp only [Act.put, List.setIfInBounds_toArray, List.set_cons_zero, List.set_cons_succ, i64_w, i32_w]
                      rfl
                    refine pure_ (i := 8) (N := some 31) (v := ?_) (a' := ?_) #[true, true, true, true, true, true, true, true, true, false, false, false, false, false, false, false, false, false, false, false, false, false, false, false, false, false, false, false, false, false, false, false, false, false, false] rfl rfl (any_of HT_.out (by kernel_rfl)) (fun _ _ _ h => h) (Or.inl ⟨by rfl, ?_⟩) ?_ ?_
                    rotate_left
                    · intro w'
                      go_simp
                      with_reducible rfl
                    rotate_left
                    · simp only [Act.put, List.setIfInBounds_toArray, List.set_cons_zero, List.set_cons_succ, i64_w, i32_w]
                      rfl
                    refine pure_ (i := 9) (N := some 32) (v := ?_) (a' := ?_) #[true, true, true, true, true, true, true, true, true, true, false, false, false, false, false, false, false, false, false, false, false, false, false, false, false, false, false, false, false, false, false, false, false, false, false] rfl rfl (any_of HT_.out (by kernel_rfl)) (fun _ _ _ h => h) (Or.inl ⟨by rfl, ?_⟩) ?_ ?_
                    rotate_left
                    · intro w'
                      go_simp
                      with_reducible rfl
                    rotate_left
                    · simp only [Act.put, List.setIfInBounds_toArray, List.set_cons_zero, List.set_cons_succ, i64_w, i32_w]
                      rfl
                    refine pure_ (i := 10) (N := some 33) (v := ?_) (a' := ?_) #[true, true, true, true, true, true, true, true, true, true, true, false, false, false, false, false, false, false, false, false, false, false, false, false, false, false, false, false, false, false, false, false, false, false, false] rfl rfl (any_of HT_.out (by kernel_rfl)) (fun _ _ _ h => h) (Or.inl ⟨by rfl, ?_⟩) ?_ ?_
                    rotate_left
                    · intro w'
                      go_simp
                      with_reducible rfl
                    rotate_left
                    · simp only [Act.put, List.setIfInBounds_toArray, List.set_cons_zero, List.set_cons_succ, i64_w, i32_w]
                      rfl
                    refine pure_ (i := 11) (N := some 34) (v := ?_) (a' := ?_) #[true, true, true, true, true, true, true, true, true, true, true, true, false, false, false, false, false, false, false, false, false, false, false, false, false, false, false, false, false, false, false, false, false, false, false] rfl rfl (any_of HT_.out (by kernel_rfl)) (fun _ _ _ h => h) (Or.inl ⟨by rfl, ?_⟩) ?_ ?_
                    rotate_left
                    · intro w'
                      go_simp
                      with_reducible rfl
                    rotate_left
                    · simp only [Act.put, List.setIfInBounds_toArray, List.set_cons_zero, List.set_cons_succ, i64_w, i32_w]
                      rfl
                    refine pure_ (i := 12) (N := some 35) (v := ?_) (a' := ?_) #[true, true, true, true, true, true, true, true, true, true, true, true, true, false, false, false, false, false, false, false, false, false, false, false, false, false, false, false, false, false, false, false, false, false, false] rfl rfl (any_of HT_.out (by kernel_rfl)) (fun _ _ _ h => h) (Or.inl ⟨by rfl, ?_⟩) ?_ ?_
                    rotate_left
                    · intro w'
                      go_simp
                      with_reducible rfl
                    rotate_left
                    · simp only [Act.put, List.setIfInBounds_toArray, List.set_cons_zero, List.set_cons_succ, i64_w, i32_w]
                      rfl
                    refine take_ (i := 13) (N := some 36) (v := ?_) (a' := ?_) #[true, true, true, true, true, true, true, true, true, true, true, true, true, true, false, false, false, false, false, false, false, false, false, false, false, false, false, false, false, false, false, false, false, false, false] rfl rfl (take_ofW HT_.out HW_.out (by kernel_rfl)) (fun _ _ _ h => h) (Or.inl ⟨by rfl, ?_⟩) hHeld ?_ ?_
                    rotate_left
                    · rintro w' ⟨s0, s1, s2, s3, s4, s5⟩
                      go_simp
                      with_reducible rfl
                    rotate_left
                    · simp only [Act.put, List.setIfInBounds_toArray, List.set_cons_zero, List.set_cons_succ, i64_w, i32_w]
                      rfl
                    refine pure_ (i := 14) (N := some 37) (v := ?_) (a' := ?_) #[true, true, true, true, true, true, true, true, true, true, true, true, true, true, true, false, false, false, false, false, false, false, false, false, false, false, false, false, false, false, false, false, false, false, false] rfl rfl (any_of HT_.out (by kernel_rfl)) (fun _ _ _ h => h) (Or.inl ⟨by rfl, ?_⟩) ?_ ?_
                    rotate_left
                    · intro w'
                      go_simp
                      with_reducible rfl
                    rotate_left
                    · simp only [Act.put, List.setIfInBounds_toArray, List.set_cons_zero, List.set_cons_succ, i64_w, i32_w]
                      rfl
                    refine pure_ (i := 15) (N := some 38) (v := ?_) (a' := ?_) #[true, true, true, true, true, true, true, true, true, true, true, true, true, true, true, true, false, false, false, false, false, false, false, false, false, false, false, false, false, false, false, false, false, false, false] rfl rfl (any_of HT_.out (by kernel_rfl)) (fun _ _ _ h => h) (Or.inl ⟨by rfl, ?_⟩) ?_ ?_
                    rotate_left
                    · intro w'
                      go_simp
                      with_reducible rfl
                    rotate_left
                    · simp only [Act.put, List.setIfInBounds_toArray, List.set_cons_zero, List.set_cons_succ, i64_w, i32_w]
                      rfl
                    refine pure_ (i := 16) (N := some 39) (v := ?_) (a' := ?_) #[true, true, true, true, true, true, true, true, true, true, true, true, true, true, true, true, true, false, false, false, false, false, false, false, false, false, false, false, false, false, false, false, false, false, false] rfl rfl (any_of HT_.out (by kernel_rfl)) (fun _ _ _ h => h) (Or.inl ⟨by rfl, ?_⟩) ?_ ?_
                    rotate_left
                    · intro w'
                      go_simp
                      with_reducible rfl
                    rotate_left
                    · simp only [Act.put, List.setIfInBounds_toArray, List.set_cons_zero, List.set_cons_succ, i64_w, i32_w]
                      rfl
                    refine pure_ (i := 17) (N := some 40) (v := ?_) (a' := ?_) #[true, true, true, true, true, true, true, true, true, true, true, true, true, true, true, true, true, true, false, false, false, false, false, false, false, false, false, false, false, false, false, false, false, false, false] rfl rfl (any_of HT_.out (by kernel_rfl)) (fun _ _ _ h => h) (Or.inl ⟨by rfl, ?_⟩) ?_ ?_
                    rotate_left
                    · intro w'
                      go_simp
                      with_reducible rfl
                    rotate_left
                    · simp only [Act.put, List.setIfInBounds_toArray, List.set_cons_zero, List.set_cons_succ, i64_w, i32_w]
                      rfl
                    refine pure_ (i := 18) (N := some 41) (v := undef) (a' := ?_) #[true, true, true, true, true, true, true, true, true, true, true, true, true, true, true, true, true, true, true, false, false, false, false, false, false, false, false, false, false, false, false, false, false, false, false] rfl rfl (any_of HT_.out (by kernel_rfl)) (fun _ _ _ h => h) (Or.inr ⟨by rfl, rfl⟩) ?_ ?_
                    rotate_left
                    · simp only [Act.put, List.setIfInBounds_toArray, List.set_cons_zero, List.set_cons_succ, i64_w, i32_w]
                      rfl
                    refine pure_ (i := 19) (N := some 42) (v := undef) (a' := ?_) #[true, true, true, true, true, true, true, true, true, true, true, true, true, true, true, true, true, true, true, true, false, false, false, false, false, false, false, false, false, false, false, false, false, false, false] rfl rfl (any_of HT_.out (by kernel_rfl)) (fun _ _ _ h => h) (Or.inr ⟨by rfl, rfl⟩) ?_ ?_
                    rotate_left
                    · simp only [Act.put, List.setIfInBounds_toArray, List.set_cons_zero, List.set_cons_succ, i64_w, i32_w]
                      rfl
                    refine pure_ (i := 20) (N := some 43) (v := undef) (a' := ?_) #[true, true, true, true, true, true, true, true, true, true, true, true, true, true, true, true, true, true, true, true, true, false, false, false, false, false, false, false, false, false, false, false, false, false, false] rfl rfl (any_of HT_.out (by kernel_rfl)) (fun _ _ _ h => h) (Or.inr ⟨by rfl, rfl⟩) ?_ ?_
                    rotate_left
                    · simp only [Act.put, List.setIfInBounds_toArray, List.set_cons_zero, List.set_cons_succ, i64_w, i32_w]
                      rfl
                    refine pure_ (i := 21) (N := some 44) (v := undef) (a' := ?_) #[true, true, true, true, true, true, true, true, true, true, true, true, true, true, true, true, true, true, true, true, true, true, false, false, false, false, false, false, false, false, false, false, false, false, false] rfl rfl (any_of HT_.out (by kernel_rfl)) (fun _ _ _ h => h) (Or.inr ⟨by rfl, rfl⟩) ?_ ?_
                    rotate_left
                    · simp only [Act.put, List.setIfInBounds_toArray, List.set_cons_zero, List.set_cons_succ, i64_w, i32_w]
                      rfl
                    refine pure_ (i := 22) (N := some 45) (v := undef) (a' := ?_) #[true, true, true, true, true, true, true, true, true, true, true, true, true, true, true, true, true, true, true, true, true, true, true, false, false, false, false, false, false, false, false, false, false, false, false] rfl rfl (any_of HT_.out (by kernel_rfl)) (fun _ _ _ h => h) (Or.inr ⟨by rfl, rfl⟩) ?_ ?_
                    rotate_left
                    · simp only [Act.put, List.setIfInBounds_toArray, List.set_cons_zero, List.set_cons_succ, i64_w, i32_w]
                      rfl
                    refine pure_ (i := 23) (N := some 46) (v := undef) (a' := ?_) #[true, true, true, true, true, true, true, true, true, true, true, true, true, true, true, true, true, true, true, true, true, true, true, true, false, false, false, false, false, false, false, false, false, false, false] rfl rfl (any_of HT_.out (by kernel_rfl)) (fun _ _ _ h => h) (Or.inr ⟨by rfl, rfl⟩) ?_ ?_
                    rotate_left
                    · simp only [Act.put, List.setIfInBounds_toArray, List.set_cons_zero, List.set_cons_succ, i64_w, i32_w]
                      rfl
                    refine pure_ (i := 24) (N := some 47) (v := undef) (a' := ?_) #[true, true, true, true, true, true, true, true, true, true, true, true, true, true, true, true, true, true, true, true, true, true, true, true, true, false, false, false, false, false, false, false, false, false, false] rfl rfl (any_of HT_.out (by kernel_rfl)) (fun _ _ _ h => h) (Or.inr ⟨by rfl, rfl⟩) ?_ ?_
                    rotate_left
                    · simp only [Act.put, List.setIfInBounds_toArray, List.set_cons_zero, List.set_cons_succ, i64_w, i32_w]
                      rfl
                    refine pure_ (i := 25) (N := some 48) (v := undef) (a' := ?_) #[true, true, true, true, true, true, true, true, true, true, true, true, true, true, true, true, true, true, true, true, true, true, true, true, true, true, false, false, false, false, false, false, false, false, false] rfl rfl (any_of HT_.out (by kernel_rfl)) (fun _ _ _ h => h) (Or.inr ⟨by rfl, rfl⟩) ?_ ?_
                    rotate_left
                    · simp only [Act.put, List.setIfInBounds_toArray, List.set_cons_zero, List.set_cons_succ, i64_w, i32_w]
                      rfl
                    refine pure_ (i := 26) (N := some 49) (v := undef) (a' := ?_) #[true, true, true, true, true, true, true, true, true, true, true, true, true, true, true, true, true, true, true, true, true, true, true, true, true, true, true, false, false, false, false, false, false, false, false] rfl rfl (any_of HT_.out (by kernel_rfl)) (fun _ _ _ h => h) (Or.inr ⟨by rfl, rfl⟩) ?_ ?_
                    rotate_left
                    · simp only [Act.put, List.setIfInBounds_toArray, List.set_cons_zero, List.set_cons_succ, i64_w, i32_w]
                      rfl
                    refine pure_ (i := 27) (N := some 50) (v := undef) (a' := ?_) #[true, true, true, true, true, true, true, true, true, true, true, true, true, true, true, true, true, true, true, true, true, true, true, true, true, true, true, true, false, false, false, false, false, false, false] rfl rfl (any_of HT_.out (by kernel_rfl)) (fun _ _ _ h => h) (Or.inr ⟨by rfl, rfl⟩) ?_ ?_
                    rotate_left
                    · simp only [Act.put, List.setIfInBounds_toArray, List.set_cons_zero, List.set_cons_succ, i64_w, i32_w]
                      rfl
                    refine pure_ (i := 28) (N := some 51) (v := undef) (a' := ?_) #[true, true, true, true, true, true, true, true, true, true, true, true, true, true, true, true, true, true, true, true, true, true, true, true, true, true, true, true, true, false, false, false, false, false, false] rfl rfl (any_of HT_.out (by kernel_rfl)) (fun _ _ _ h => h) (Or.inr ⟨by rfl, rfl⟩) ?_ ?_
                    rotate_left
                    · simp only [Act.put, List.setIfInBounds_toArray, List.set_cons_zero, List.set_cons_succ, i64_w, i32_w]
                      rfl
                    refine pure_ (i := 29) (N := some 52) (v := undef) (a' := ?_) #[true, true, true, true, true, true, true, true, true, true, true, true, true, true, true, true, true, true, true, true, true, true, true, true, true, true, true, true, true, true, false, false, false, false, false] rfl rfl (any_of HT_.out (by kernel_rfl)) (fun _ _ _ h => h) (Or.inr ⟨by rfl, rfl⟩) ?_ ?_
                    rotate_left
                    · simp only [Act.put, List.setIfInBounds_toArray, List.set_cons_zero, List.set_cons_succ, i64_w, i32_w]
                      rfl
                    refine pure_ (i := 30) (N := some 53) (v := undef) (a' := ?_) #[true, true, true, true, true, true, true, true, true, true, true, true, true, true, true, true, true, true, true, true, true, true, true, true, true, true, true, true, true, true, true, false, false, false, false] rfl rfl (any_of HT_.out (by kernel_rfl)) (fun _ _ _ h => h) (Or.inr ⟨by rfl, rfl⟩) ?_ ?_
                    rotate_left
                    · simp only [Act.put, List.setIfInBounds_toArray, List.set_cons_zero, List.set_cons_succ, i64_w, i32_w]
                      rfl
                    refine pure_ (i := 31) (N := some 54) (v := undef) (a' := ?_) #[true, true, true, true, true, true, true, true, true, true, true, true, true, true, true, true, true, true, true, true, true, true, true, true, true, true, true, true, true, true, true, true, false, false, false] rfl rfl (any_of HT_.out (by kernel_rfl)) (fun _ _ _ h => h) (Or.inr ⟨by rfl, rfl⟩) ?_ ?_
                    rotate_left
                    · simp only [Act.put, List.setIfInBounds_toArray, List.set_cons_zero, List.set_cons_succ, i64_w, i32_w]
                      rfl
                    refine pure_ (i := 32) (N := some 55) (v := undef) (a' := ?_) #[true, true, true, true, true, true, true, true, true, true, true, true, true, true, true, true, true, true, true, true, true, true, true, true, true, true, true, true, true, true, true, true, true, false, false] rfl rfl (any_of HT_.out (by kernel_rfl)) (fun _ _ _ h => h) (Or.inr ⟨by rfl, rfl⟩) ?_ ?_
                    rotate_left
                    · simp only [Act.put, List.setIfInBounds_toArray, List.set_cons_zero, List.set_cons_succ, i64_w, i32_w]
                      rfl
                    refine pure_ (i := 33) (N := some 56) (v := undef) (a' := ?_) #[true, true, true, true, true, true, true, true, true, true, true, true, true, true, true, true, true, true, true, true, true, true, true, true, true, true, true, true, true, true, true, true, true, true, false] rfl rfl (any_of HT_.out (by kernel_rfl)) (fun _ _ _ h => h) (Or.inr ⟨by rfl, rfl⟩) ?_ ?_
                    rotate_left
                    · simp only [Act.put, List.setIfInBounds_toArray, List.set_cons_zero, List.set_cons_succ, i64_w, i32_w]
                      rfl
                    refine pure_ (i := 34) (N := some 57) (v := ?_) (a' := ?_) #[true, true, true, true, true, true, true, true, true, true, true, true, true, true, true, true, true, true, true, true, true, true, true, true, true, true, true, true, true, true, true, true, true, true, true] rfl rfl (any_of HT_.out (by kernel_rfl)) (fun _ _ _ h => h) (Or.inl ⟨by rfl, ?_⟩) ?_ ?_
                    rotate_left
                    · intro w'
                      go_simp
                      with_reducible rfl
                    rotate_left
                    · simp only [Act.put, List.setIfInBounds_toArray, List.set_cons_zero, List.set_cons_succ, i64_w, i32_w]
                      rfl
                    refine done_ (done_of HT_.out (by kernel_rfl)) ?_
                    try go_wp2
                    go_roundg k1
                    case measure => have := HK1.out; omega
                    case rel => exact ⟨(wrap64 (x11_1 + 1)), (by first | rfl | (simp; done) | (simp [*]; done)), H', ⟨by have := HK1.out; omega⟩, ⟨by repeat (first | (with_reducible first | exact HB.out | apply below_alloc | apply pw_below_drewN | apply below_drew1) | exact HB.out)⟩⟩
                  · rw [if_neg c20] at H
                    have c20b0 : (((rd_T66 l1 x11_1).f0) == 3) = false := beq_eq_false_iff_ne.mpr c20
                    have c20b1 : (((rd_T66 l1 x11_1).f0) != 3) = true := bne_iff_ne.mpr c20
                    by_cases c22 : x11_1 < (l2.length : Int)
                    · rw [if_pos c22] at H
                      have c22b0 : decide (x11_1 < (l2.length : Int)) = true := decide_eq_true c22
                      clear c22
                      replace H := Option.bind_eq_some_iff.mp H
                      obtain ⟨t124, A230, H⟩ := H
                      replace H : (if t124 = true then (laws_treeRuns.l0 k1 l0 l1 l2 l3 false (wrap64 (x11_1 + 1))) else (some false)) = some r := H
                      have A23 := Aside0.mk A230
                      clear A230
                      by_cases c24 : t124 = true
                      · subst c24
                        have H1 : (laws_treeRuns.l0 k1 l0 l1 l2 l3 false (wrap64 (x11_1 + 1))) = some r := by rw [if_pos rfl] at H; exact H
                        clear H
                        have H := H1
                        clear H1
                        have H' := Aside0.mk H
                        clear H
                        try go_wp2
                        have n0_ := Aside0.mk (below_drew1 HB.out)
                        clear HB
                        have HB := n0_
                        clear n0_
                        have p115 : 0 ≤ (x11_1 : Int) := of_decide_eq_true (by first | (with_reducible assumption) | assumption)
                        have q115 : x11_1 < (l1.length : Int) := of_decide_eq_true (by first | (with_reducible assumption) | assumption)
                        obtain ⟨ad115, e115, hx115_0, hx115_1, hx115_2⟩ := at_T66 HR1.out x11_1 p115 q115
                        have hw115_2 := hx115_2
                        have hw115_1 := hx115_1
                        have hw115_0 := hx115_0
                        cases e115
                        replace hx115_0 := (HB.out.cell (World.block_lt_of_cell? w _ hx115_0)).trans hx115_0
                        replace hx115_1 := (HB.out.cell (World.block_lt_of_cell? w _ hx115_1)).trans hx115_1
                        replace hx115_2 := (HB.out.cell (World.block_lt_of_cell? w _ hx115_2)).trans hx115_2
                        replace p115 := eq_true p115
                        replace q115 := eq_true q115
                        have p120 : 0 ≤ (x11_1 : Int) := of_decide_eq_true (by first | (with_reducible assumption) | assumption)
                        have q120 : x11_1 < (l1.length : Int) := of_decide_eq_true (by first | (with_reducible assumption) | assumption)
                        obtain ⟨ad120, e120, hx120_0, hx120_1, hx120_2⟩ := at_T66 HR1.out x11_1 p120 q120
                        have hw120_2 := hx120_2
                        have hw120_1 := hx120_1
                        have hw120_0 := hx120_0
                        obtain rfl : ad115 = ad120 := (by injection e120)
                        replace hx120_0 := (HB.out.cell (World.block_lt_of_cell? w _ hx120_0)).trans hx120_0
                        replace hx120_1 := (HB.out.cell (World.block_lt_of_cell? w _ hx120_1)).trans hx120_1
                        replace hx120_2 := (HB.out.cell (World.block_lt_of_cell? w _ hx120_2)).trans hx120_2
                        replace p120 := eq_true p120
                        replace q120 := eq_true q120
                        have p121 : 0 ≤ (x11_1 : Int) := of_decide_eq_true (by first | (with_reducible assumption) | assumption)
                        have q121 : x11_1 < (l1.length : Int) := of_decide_eq_true (by first | (with_reducible assumption) | assumption)
                        obtain ⟨ad121, e121, hx121_0, hx121_1, hx121_2⟩ := at_T66 HR1.out x11_1 p121 q121
                        have hw121_2 := hx121_2
                        have hw121_1 := hx121_1
                        have hw121_0 := hx121_0
                        obtain rfl : ad115 = ad121 := (by injection e121)
                        replace hx121_0 := (HB.out.cell (World.block_lt_of_cell? w _ hx121_0)).trans hx121_0
                        replace hx121_1 := (HB.out.cell (World.block_lt_of_cell? w _ hx121_1)).trans hx121_1
                        replace hx121_2 := (HB.out.cell (World.block_lt_of_cell? w _ hx121_2)).trans hx121_2
                        replace p121 := eq_true p121
                        replace q121 := eq_true q121
                        have p122 : 0 ≤ (x11_1 : Int) := of_decide_eq_true (by first | (with_reducible assumption) | assumption)
                        have q122 : x11_1 < (l2.length : Int) := of_decide_eq_true (by first | (with_reducible assumption) | assumption)
                        obtain ⟨ad122, A122_2, c122_2, A122_3, c122_3, e122, hx122_0, hx122_1, hx122_2, hx122_3, hl122_2, hi122_2, hl122_3, hi122_3⟩ := at_T46 HR2.out x11_1 p122 q122
                        have hw122_3 := hx122_3
                        have hw122_2 := hx122_2
                        have hw122_1 := hx122_1
                        have hw122_0 := hx122_0
                        cases e122
                        replace hx122_0 := (HB.out.cell (World.block_lt_of_cell? w _ hx122_0)).trans hx122_0
                        replace hx122_1 := (HB.out.cell (World.block_lt_of_cell? w _ hx122_1)).trans hx122_1
                        replace hx122_2 := (HB.out.cell (World.block_lt_of_cell? w _ hx122_2)).trans hx122_2
                        replace hx122_3 := (HB.out.cell (World.block_lt_of_cell? w _ hx122_3)).trans hx122_3
                        have HR122_2 := Aside0.mk hi122_2
                        have HC122_2 := Aside0.mk hl122_2
                        clear hi122_2 hl122_2
                        have HR122_3 := Aside0.mk hi122_3
                        have HC122_3 := Aside0.mk hl122_3
                        clear hi122_3 hl122_3
                        replace p122 := eq_true p122
                        replace q122 := eq_true q122
                        have p123 : 0 ≤ (x11_1 : Int) := of_decide_eq_true (by first | (with_reducible assumption) | assumption)
                        have q123 : x11_1 < (l3.length : Int) := of_decide_eq_true (by first | (with_reducible assumption) | assumption)
                        obtain ⟨ad123, A123_2, c123_2, A123_3, c123_3, e123, hx123_0, hx123_1, hx123_2, hx123_3, hl123_2, hi123_2, hl123_3, hi123_3⟩ := at_T46 HR3.out x11_1 p123 q123
                        have hw123_3 := hx123_3
                        have hw123_2 := hx123_2
                        have hw123_1 := hx123_1
                        have hw123_0 := hx123_0
                        cases e123
                        replace hx123_0 := (HB.out.cell (World.block_lt_of_cell? w _ hx123_0)).trans hx123_0
                        replace hx123_1 := (HB.out.cell (World.block_lt_of_cell? w _ hx123_1)).trans hx123_1
                        replace hx123_2 := (HB.out.cell (World.block_lt_of_cell? w _ hx123_2)).trans hx123_2
                        replace hx123_3 := (HB.out.cell (World.block_lt_of_cell? w _ hx123_3)).trans hx123_3
                        have HR123_2 := Aside0.mk hi123_2
                        have HC123_2 := Aside0.mk hl123_2
                        clear hi123_2 hl123_2
                        have HR123_3 := Aside0.mk hi123_3
                        have HC123_3 := Aside0.mk hl123_3
                        clear hi123_3 hl123_3
                        replace p123 := eq_true p123
                        replace q123 := eq_true q123
                        refine start_ (n := 35) (S := fun w' => w'.cell? (ad115.add ((x11_1).toNat * 3)) = some (.int .i64 ((rd_T66 l1 x11_1).f0)) ∧ w'.cell? ⟨(ad115.add ((x11_1).toNat * 3)).block, (ad115.add ((x11_1).toNat * 3)).off + 1, none⟩ = some (.int .i64 ((rd_T66 l1 x11_1).f1)) ∧ w'.cell? ⟨(ad115.add ((x11_1).toNat * 3)).block, (ad115.add ((x11_1).toNat * 3)).off + 2, none⟩ = some (.int .i64 ((rd_T66 l1 x11_1).f2)) ∧ w'.cell? (ad115.add ((x11_1).toNat * 3)) = some (.int .i64 ((rd_T66 l1 x11_1).f0)) ∧ w'.cell? ⟨(ad115.add ((x11_1).toNat * 3)).block, (ad115.add ((x11_1).toNat * 3)).off + 1, none⟩ = some (.int .i64 ((rd_T66 l1 x11_1).f1)) ∧ w'.cell? ⟨(ad115.add ((x11_1).toNat * 3)).block, (ad115.add ((x11_1).toNat * 3)).off + 2, none⟩ = some (.int .i64 ((rd_T66 l1 x11_1).f2)) ∧ w'.cell? (ad115.add ((x11_1).toNat * 3)) = some (.int .i64 ((rd_T66 l1 x11_1).f0)) ∧ w'.cell? ⟨(ad115.add ((x11_1).toNat * 3)).block, (ad115.add ((x11_1).toNat * 3)).off + 1, none⟩ = some (.int .i64 ((rd_T66 l1 x11_1).f1)) ∧ w'.cell? ⟨(ad115.add ((x11_1).toNat * 3)).block, (ad115.add ((x11_1).toNat * 3)).off + 2, none⟩ = some (.int .i64 ((rd_T66 l1 x11_1).f2)) ∧ w'.cell? (ad122.add ((x11_1).toNat * 4)) = some (.int .i64 ((rd_T46 l2 x11_1).f0)) ∧ w'.cell? ⟨(ad122.add ((x11_1).toNat * 4)).block, (ad122.add ((x11_1).toNat * 4)).off + 1, none⟩ = some (.bool ((rd_T46 l2 x11_1).f1)) ∧ w'.cell? ⟨(ad122.add ((x11_1).toNat * 4)).block, (ad122.add ((x11_1).toNat * 4)).off + 2, none⟩ = some (.slice A122_2 ((rd_T46 l2 x11_1).f2).length c122_2) ∧ w'.cell? ⟨(ad122.add ((x11_1).toNat * 4)).block, (ad122.add ((x11_1).toNat * 4)).off + 3, none⟩ = some (.slice A122_3 ((rd_T46 l2 x11_1).f3).length c122_3) ∧ w'.cell? (ad123.add ((x11_1).toNat * 4)) = some (.int .i64 ((rd_T46 l3 x11_1).f0)) ∧ w'.cell? ⟨(ad123.add ((x11_1).toNat * 4)).block, (ad123.add ((x11_1).toNat * 4)).off + 1, none⟩ = some (.bool ((rd_T46 l3 x11_1).f1)) ∧ w'.cell? ⟨(ad123.add ((x11_1).toNat * 4)).block, (ad123.add ((x11_1).toNat * 4)).off + 2, none⟩ = some (.slice A123_2 ((rd_T46 l3 x11_1).f2).length c123_2) ∧ w'.cell? ⟨(ad123.add ((x11_1).toNat * 4)).block, (ad123.add ((x11_1).toNat * 4)).off + 3, none⟩ = some (.slice A123_3 ((rd_T46 l3 x11_1).f3).length c123_3)) (ds := []) #[false, false, false, false, false, false, false, false, false, false, false, false, false, false, false, false, false, false, false, false, false, false, false, false, false, false, false, false, false, false, false, false, false, false, false] (by kernel_rfl) rfl rfl ⟨((HB.out.cell (World.block_lt_of_cell? w _ hw115_0)).trans hw115_0), ((HB.out.cell (World.block_lt_of_cell? w _ hw115_1)).trans hw115_1), ((HB.out.cell (World.block_lt_of_cell? w _ hw115_2)).trans hw115_2), ((HB.out.cell (World.block_lt_of_cell? w _ hw120_0)).trans hw120_0), ((HB.out.cell (World.block_lt_of_cell? w _ hw120_1)).trans hw120_1), ((HB.out.cell (World.block_lt_of_cell? w _ hw120_2)).trans hw120_2), ((HB.out.cell (World.block_lt_of_cell? w _ hw121_0)).trans hw121_0), ((HB.out.cell (World.block_lt_of_cell? w _ hw121_1)).trans hw121_1), ((HB.out.cell (World.block_lt_of_cell? w _ hw121_2)).trans hw121_2), ((HB.out.cell (World.block_lt_of_cell? w _ hw122_0)).trans hw122_0), ((HB.out.cell (World.block_lt_of_cell? w _ hw122_1)).trans hw122_1), ((HB.out.cell (World.block_lt_of_cell? w _ hw122_2)).trans hw122_2), ((HB.out.cell (World.block_lt_of_cell? w _ hw122_3)).trans hw122_3), ((HB.out.cell (World.block_lt_of_cell? w _ hw123_0)).trans hw123_0), ((HB.out.cell (World.block_lt_of_cell? w _ hw123_1)).trans hw123_1), ((HB.out.cell (World.block_lt_of_cell? w _ hw123_2)).trans hw123_2), ((HB.out.cell (World.block_lt_of_cell? w _ hw123_3)).trans hw123_3)⟩ (fun hHeld => ?_); refine with_tabW laws_treeRuns.tab6 laws_treeRuns.bits6 (fun HT_ HW_ => ?_)
                        generalize wr.drew = w25 at HB HR122_2 HR122_3 HR123_2 HR123_3 hx115_0 hx115_1 hx115_2 hx120_0 hx120_1 hx120_2 hx121_0 hx121_1 hx121_2 hx122_0 hx122_1 hx122_2 hx122_3 hx123_0 hx123_1 hx123_2 hx123_3 hHeld ⊢
                        refine pure_ (i := 0) (N := some 23) (v := ?_) (a' := ?_) #[true, false, false, false, false, false, false, false, false, false, false, false, false, false, false, false, false, false, false, false, false, false, false, false, false, false, false, false, false, false, false, false, false, false, false] rfl rfl (any_of HT_.out (by kernel_rfl)) (fun _ _ _ h => h) (Or.inl ⟨by rfl, ?_⟩) ?_ ?_
                        rotate_left
                        · intro w'
                          go_simp
                          with_reducible rfl
                        rotate_left
                        · simp only [Act.put, List.setIfInBounds_toArray, List.set_cons_zero, List.set_cons_succ, i64_w, i32_w]
                          rfl
                        refine pure_ (i := 1) (N := some 24) (v := ?_) (a' := ?_) #[true, true, false, false, false, false, false, false, false, false, false, false, false, false, false, false, false, false, false, false, false, false, false, false, false, false, false, false, false, false, false, false, false, false, false] rfl rfl (any_of HT_.out (by kernel_rfl)) (fun _ _ _ h => h) (Or.inl ⟨by rfl, ?_⟩) ?_ ?_
                        rotate_left
                        · intro w'
                          go_simp
                          with_reducible rfl
                        rotate_left
                        · simp only [Act.put, List.setIfInBounds_toArray, List.set_cons_zero, List.set_cons_succ, i64_w, i32_w]
                          rfl
                        refine pure_ (i := 2) (N := some 25) (v := ?_) (a' := ?_) #[true, true, true, false, false, false, false, false, false, false, false, false, false, false, false, false, false, false, false, false, false, false, false, false, false, false, false, false, false, false, false, false, false, false, false] rfl rfl (any_of HT_.out (by kernel_rfl)) (fun _ _ _ h => h) (Or.inl ⟨by rfl, ?_⟩) ?_ ?_
                        rotate_left
                        · intro w'
                          go_simp
                          with_reducible rfl
                        rotate_left
                        · simp only [Act.put, List.setIfInBounds_toArray, List.set_cons_zero, List.set_cons_succ, i64_w, i32_w]
                          rfl
                        refine pure_ (i := 3) (N := some 26) (v := ?_) (a' := ?_) #[true, true, true, true, false, false, false, false, false, false, false, false, false, false, false, false, false, false, false, false, false, false, false, false, false, false, false, false, false, false, false, false, false, false, false] rfl rfl (any_of HT_.out (by kernel_rfl)) (fun _ _ _ h => h) (Or.inl ⟨by rfl, ?_⟩) ?_ ?_
                        rotate_left
                        · intro w'
                          go_simp
                          with_reducible rfl
                        rotate_left
                        · simp only [Act.put, List.setIfInBounds_toArray, List.set_cons_zero, List.set_cons_succ, i64_w, i32_w]
                          rfl
                        refine take_ (i := 4) (N := some 27) (v := ?_) (a' := ?_) #[true, true, true, true, true, false, false, false, false, false, false, false, false, false, false, false, false, false, false, false, false, false, false, false, false, false, false, false, false, false, false, false, false, false, false] rfl rfl (take_ofW HT_.out HW_.out (by kernel_rfl)) (fun _ _ _ h => h) (Or.inl ⟨by rfl, ?_⟩) hHeld ?_ ?_
                        rotate_left
                        · rintro w' ⟨s0, s1, s2, s3, s4, s5, s6, s7, s8, s9, s10, s11, s12, s13, s14, s15, s16⟩
                          go_simp
                          with_reducible rfl
                        rotate_left
                        · simp only [Act.put, List.setIfInBounds_toArray, List.set_cons_zero, List.set_cons_succ, i64_w, i32_w]
                          rfl
                        refine pure_ (i := 5) (N := some 28) (v := ?_) (a' := ?_) #[true, true, true, true, true, true, false, false, false, false, false, false, false, false, false, false, false, false, false, false, false, false, false, false, false, false, false, false, false, false, false, false, false, false, false] rfl rfl (any_of HT_.out (by kernel_rfl)) (fun _ _ _ h => h) (Or.inl ⟨by rfl, ?_⟩) ?_ ?_
                        rotate_left
                        · intro w'
                          go_simp
                          with_reducible rfl
                        rotate_left
                        · simp only [Act.put, List.setIfInBounds_toArray, List.set_cons_zero, List.set_cons_succ, i64_w, i32_w]
                          rfl
                        refine pure_ (i := 6) (N := some 29) (v := ?_) (a' := ?_) #[true, true, true, true, true, true, true, false, false, false, false, false, false, false, false, false, false, false, false, false, false, false, false, false, false, false, false, false, false, false, false, false, false, false, false] rfl rfl (any_of HT_.out (by kernel_rfl)) (fun _ _ _ h => h) (Or.inl ⟨by rfl, ?_⟩) ?_ ?_
                        rotate_left
                        · intro w'
                          go_simp
                          with_reducible rfl
                        rotate_left
                        · simp only [Act.put, List.setIfInBounds_toArray, List.set_cons_zero, List.set_cons_succ, i64_w, i32_w]
                          rfl
                        refine pure_ (i := 7) (N := some 30) (v := ?_) (a' := ?_) #[true, true, true, true, true, true, true, true, false, false, false, false, false, false, false, false, false, false, false, false, false, false, false, false, false, false, false, false, false, false, false, false, false, false, false] rfl rfl (any_of HT_.out (by kernel_rfl)) (fun _ _ _ h => h) (Or.inl ⟨by rfl, ?_⟩) ?_ ?_
                        rotate_left
                        · intro w'
                          go_simp
                          with_reducible rfl
                        rotate_left
                        · simp only [Act.put, List.setIfInBounds_toArray, List.set_cons_zero, List.set_cons_succ, i64_w, i32_w]
                          rfl
                        refine pure_ (i := 8) (N := some 31) (v := ?_) (a' := ?_) #[true, true, true, true, true, true, true, true, true, false, false, false, false, false, false, false, false, false, false, false, false, false, false, false, false, false, false, false, false, false, false, false, false, false, false] rfl rfl (any_of HT_.out (by kernel_rfl)) (fun _ _ _ h => h) (Or.inl ⟨by rfl, ?_⟩) ?_ ?_
                        rotate_left
                        · intro w'
                          go_simp
                          with_reducible rfl
                        rotate_left
                        · simp only [Act.put, List.setIfInBounds_toArray, List.set_cons_zero, List.set_cons_succ, i64_w, i32_w]
                          rfl
                        refine pure_ (i := 9) (N := some 32) (v := ?_) (a' := ?_) #[true, true, true, true, true, true, true, true, true, true, false, false, false, false, false, false, false, false, false, false, false, false, false, false, false, false, false, false, false, false, false, false, false, false, false] rfl rfl (any_of HT_.out (by kernel_rfl)) (fun _ _ _ h => h) (Or.inl ⟨by rfl, ?_⟩) ?_ ?_
                        rotate_left
                        · intro w'
                          go_simp
                          with_reducible rfl
                        rotate_left
                        · simp only [Act.put, List.setIfInBounds_toArray, List.set_cons_zero, List.set_cons_succ, i64_w, i32_w]
                          rfl
                        refine pure_ (i := 10) (N := some 33) (v := ?_) (a' := ?_) #[true, true, true, true, true, true, true, true, true, true, true, false, false, false, false, false, false, false, false, false, false, false, false, false, false, false, false, false, false, false, false, false, false, false, false] rfl rfl (any_of HT_.out (by kernel_rfl)) (fun _ _ _ h => h) (Or.inl ⟨by rfl, ?_⟩) ?_ ?_
                        rotate_left
                        · intro w'
                          go_simp
                          with_reducible rfl
                        rotate_left
                        · simp only [Act.put, List.setIfInBounds_toArray, List.set_cons_zero, List.set_cons_succ, i64_w, i32_w]
                          rfl
                        refine pure_ (i := 11) (N := some 34) (v := ?_) (a' := ?_) #[true, true, true, true, true, true, true, true, true, true, true, true, false, false, false, false, false, false, false, false, false, false, false, false, false, false, false, false, false, false, false, false, false, false, false] rfl rfl (any_of HT_.out (by kernel_rfl)) (fun _ _ _ h => h) (Or.inl ⟨by rfl, ?_⟩) ?_ ?_
                        rotate_left
                        · intro w'
                          go_simp
                          with_reducible rfl
                        rotate_left
                        · simp only [Act.put, List.setIfInBounds_toArray, List.set_cons_zero, List.set_cons_succ, i64_w, i32_w]
                          rfl
                        refine pure_ (i := 12) (N := some 35) (v := ?_) (a' := ?_) #[true, true, true, true, true, true, true, true, true, true, true, true, true, false, false, false, false, false, false, false, false, false, false, false, false, false, false, false, false, false, false, false, false, false, false] rfl rfl (any_of HT_.out (by kernel_rfl)) (fun _ _ _ h => h) (Or.inl ⟨by rfl, ?_⟩) ?_ ?_
                        rotate_left
                        · intro w'
                          go_simp
                          with_reducible rfl
                        rotate_left
                        · simp only [Act.put, List.setIfInBounds_toArray, List.set_cons_zero, List.set_cons_succ, i64_w, i32_w]
                          rfl
                        refine take_ (i := 13) (N := some 36) (v := ?_) (a' := ?_) #[true, true, true, true, true, true, true, true, true, true, true, true, true, true, false, false, false, false, false, false, false, false, false, false, false, false, false, false, false, false, false, false, false, false, false] rfl rfl (take_ofW HT_.out HW_.out (by kernel_rfl)) (fun _ _ _ h => h) (Or.inl ⟨by rfl, ?_⟩) hHeld ?_ ?_
                        rotate_left
                        · rintro w' ⟨s0, s1, s2, s3, s4, s5, s6, s7, s8, s9, s10, s11, s12, s13, s14, s15, s16⟩
                          go_simp
                          with_reducible rfl
                        rotate_left
                        · simp only [Act.put, List.setIfInBounds_toArray, List.set_cons_zero, List.set_cons_succ, i64_w, i32_w]
                          rfl
                        refine pure_ (i := 14) (N := some 37) (v := ?_) (a' := ?_) #[true, true, true, true, true, true, true, true, true, true, true, true, true, true, true, false, false, false, false, false, false, false, false, false, false, false, false, false, false, false, false, false, false, false, false] rfl rfl (any_of HT_.out (by kernel_rfl)) (fun _ _ _ h => h) (Or.inl ⟨by rfl, ?_⟩) ?_ ?_
                        rotate_left
                        · intro w'
                          go_simp
                          with_reducible rfl
                        rotate_left
                        · simp only [Act.put, List.setIfInBounds_toArray, List.set_cons_zero, List.set_cons_succ, i64_w, i32_w]
                          rfl
                        refine pure_ (i := 15) (N := some 38) (v := ?_) (a' := ?_) #[true, true, true, true, true, true, true, true, true, true, true, true, true, true, true, true, false, false, false, false, false, false, false, false, false, false, false, false, false, false, false, false, false, false, false] rfl rfl (any_of HT_.out (by kernel_rfl)) (fun _ _ _ h => h) (Or.inl ⟨by rfl, ?_⟩) ?_ ?_
                        rotate_left
                        · intro w'
                          go_simp
                          with_reducible rfl
                        rotate_left
                        · simp only [Act.put, List.setIfInBounds_toArray, List.set_cons_zero, List.set_cons_succ, i64_w, i32_w]
                          rfl
                        refine pure_ (i := 16) (N := some 39) (v := ?_) (a' := ?_) #[true, true, true, true, true, true, true, true, true, true, true, true, true, true, true, true, true, false, false, false, false, false, false, false, false, false, false, false, false, false, false, false, false, false, false] rfl rfl (any_of HT_.out (by kernel_rfl)) (fun _ _ _ h => h) (Or.inl ⟨by rfl, ?_⟩) ?_ ?_
                        rotate_left
                        · intro w'
                          go_simp
                          with_reducible rfl
                        rotate_left
                        · simp only [Act.put, List.setIfInBounds_toArray, List.set_cons_zero, List.set_cons_succ, i64_w, i32_w]
                          rfl
                        refine pure_ (i := 17) (N := some 40) (v := ?_) (a' := ?_) #[true, true, true, true, true, true, true, true, true, true, true, true, true, true, true, true, true, true, false, false, false, false, false, false, false, false, false, false, false, false, false, false, false, false, false] rfl rfl (any_of HT_.out (by kernel_rfl)) (fun _ _ _ h => h) (Or.inl ⟨by rfl, ?_⟩) ?_ ?_
                        rotate_left
                        · intro w'
                          go_simp
                          with_reducible rfl
                        rotate_left
                        · simp only [Act.put, List.setIfInBounds_toArray, List.set_cons_zero, List.set_cons_succ, i64_w, i32_w]
                          rfl
                        refine pure_ (i := 18) (N := some 41) (v := ?_) (a' := ?_) #[true, true, true, true, true, true, true, true, true, true, true, true, true, true, true, true, true, true, true, false, false, false, false, false, false, false, false, false, false, false, false, false, false, false, false] rfl rfl (any_of HT_.out (by kernel_rfl)) (fun _ _ _ h => h) (Or.inl ⟨by rfl, ?_⟩) ?_ ?_
                        rotate_left
                        · intro w'
                          go_simp
                          with_reducible rfl
                        rotate_left
                        · simp only [Act.put, List.setIfInBounds_toArray, List.set_cons_zero, List.set_cons_succ, i64_w, i32_w]
                          rfl
                        refine pure_ (i := 19) (N := some 42) (v := ?_) (a' := ?_) #[true, true, true, true, true, true, true, true, true, true, true, true, true, true, true, true, true, true, true, true, false, false, false, false, false, false, false, false, false, false, false, false, false, false, false] rfl rfl (any_of HT_.out (by kernel_rfl)) (fun _ _ _ h => h) (Or.inl ⟨by rfl, ?_⟩) ?_ ?_
                        rotate_left
                        · intro w'
                          go_simp
                          with_reducible rfl
                        rotate_left
                        · simp only [Act.put, List.setIfInBounds_toArray, List.set_cons_zero, List.set_cons_succ, i64_w, i32_w]
                          rfl
                        refine pure_ (i := 20) (N := some 43) (v := ?_) (a' := ?_) #[true, true, true, true, true, true, true, true, true, true, true, true, true, true, true, true, true, true, true, true, true, false, false, false, false, false, false, false, false, false, false, false, false, false, false] rfl rfl (any_of HT_.out (by kernel_rfl)) (fun _ _ _ h => h) (Or.inl ⟨by rfl, ?_⟩) ?_ ?_
                        rotate_left
                        · intro w'
                          go_simp
                          with_reducible rfl
                        rotate_left
                        · simp only [Act.put, List.setIfInBounds_toArray, List.set_cons_zero, List.set_cons_succ, i64_w, i32_w]
                          rfl
                        refine pure_ (i := 21) (N := some 44) (v := ?_) (a' := ?_) #[true, true, true, true, true, true, true, true, true, true, true, true, true, true, true, true, true, true, true, true, true, true, false, false, false, false, false, false, false, false, false, false, false, false, false] rfl rfl (any_of HT_.out (by kernel_rfl)) (fun _ _ _ h => h) (Or.inl ⟨by rfl, ?_⟩) ?_ ?_
                        rotate_left
                        · intro w'
                          go_simp
                          with_reducible rfl
                        rotate_left
                        · simp only [Act.put, List.setIfInBounds_toArray, List.set_cons_zero, List.set_cons_succ, i64_w, i32_w]
                          rfl
                        refine pure_ (i := 22) (N := some 45) (v := ?_) (a' := ?_) #[true, true, true, true, true, true, true, true, true, true, true, true, true, true, true, true, true, true, true, true, true, true, true, false, false, false, false, false, false, false, false, false, false, false, false] rfl rfl (any_of HT_.out (by kernel_rfl)) (fun _ _ _ h => h) (Or.inl ⟨by rfl, ?_⟩) ?_ ?_
                        rotate_left
                        · intro w'
                          go_simp
                          with_reducible rfl
                        rotate_left
                        · simp only [Act.put, List.setIfInBounds_toArray, List.set_cons_zero, List.set_cons_succ, i64_w, i32_w]
                          rfl
                        refine pure_ (i := 24) (N := some 47) (v := ?_) (a' := ?_) #[true, true, true, true, true, true, true, true, true, true, true, true, true, true, true, true, true, true, true, true, true, true, true, false, true, false, false, false, false, false, false, false, false, false, false] rfl rfl (any_of HT_.out (by kernel_rfl)) (fun _ _ _ h => h) (Or.inl ⟨by rfl, ?_⟩) ?_ ?_
                        rotate_left
                        · intro w'
                          go_simp
                          with_reducible rfl
                        rotate_left
                        · simp only [Act.put, List.setIfInBounds_toArray, List.set_cons_zero, List.set_cons_succ, i64_w, i32_w]
                          rfl
                        refine pure_ (i := 25) (N := some 48) (v := ?_) (a' := ?_) #[true, true, true, true, true, true, true, true, true, true, true, true, true, true, true, true, true, true, true, true, true, true, true, false, true, true, false, false, false, false, false, false, false, false, false] rfl rfl (any_of HT_.out (by kernel_rfl)) (fun _ _ _ h => h) (Or.inl ⟨by rfl, ?_⟩) ?_ ?_
                        rotate_left
                        · intro w'
                          go_simp
                          with_reducible rfl
                        rotate_left
                        · simp only [Act.put, List.setIfInBounds_toArray, List.set_cons_zero, List.set_cons_succ, i64_w, i32_w]
                          rfl
                        refine pure_ (i := 26) (N := some 49) (v := ?_) (a' := ?_) #[true, true, true, true, true, true, true, true, true, true, true, true, true, true, true, true, true, true, true, true, true, true, true, false, true, true, true, false, false, false, false, false, false, false, false] rfl rfl (any_of HT_.out (by kernel_rfl)) (fun _ _ _ h => h) (Or.inl ⟨by rfl, ?_⟩) ?_ ?_
                        rotate_left
                        · intro w'
                          go_simp
                          with_reducible rfl
                        rotate_left
                        · simp only [Act.put, List.setIfInBounds_toArray, List.set_cons_zero, List.set_cons_succ, i64_w, i32_w]
                          rfl
                        refine pure_ (i := 28) (N := some 51) (v := ?_) (a' := ?_) #[true, true, true, true, true, true, true, true, true, true, true, true, true, true, true, true, true, true, true, true, true, true, true, false, true, true, true, false, true, false, false, false, false, false, false] rfl rfl (any_of HT_.out (by kernel_rfl)) (fun _ _ _ h => h) (Or.inl ⟨by rfl, ?_⟩) ?_ ?_
                        rotate_left
                        · intro w'
                          go_simp
                          with_reducible rfl
                        rotate_left
                        · simp only [Act.put, List.setIfInBounds_toArray, List.set_cons_zero, List.set_cons_succ, i64_w, i32_w]
                          rfl
                        refine pure_ (i := 29) (N := some 52) (v := ?_) (a' := ?_) #[true, true, true, true, true, true, true, true, true, true, true, true, true, true, true, true, true, true, true, true, true, true, true, false, true, true, true, false, true, true, false, false, false, false, false] rfl rfl (any_of HT_.out (by kernel_rfl)) (fun _ _ _ h => h) (Or.inl ⟨by rfl, ?_⟩) ?_ ?_
                        rotate_left
                        · intro w'
                          go_simp
                          with_reducible rfl
                        rotate_left
                        · simp only [Act.put, List.setIfInBounds_toArray, List.set_cons_zero, List.set_cons_succ, i64_w, i32_w]
                          rfl
                        refine pure_ (i := 30) (N := some 53) (v := ?_) (a' := ?_) #[true, true, true, true, true, true, true, true, true, true, true, true, true, true, true, true, true, true, true, true, true, true, true, false, true, true, true, false, true, true, true, false, false, false, false] rfl rfl (any_of HT_.out (by kernel_rfl)) (fun _ _ _ h => h) (Or.inl ⟨by rfl, ?_⟩) ?_ ?_
                        rotate_left
                        · intro w'
                          go_simp
                          with_reducible rfl
                        rotate_left
                        · simp only [Act.put, List.setIfInBounds_toArray, List.set_cons_zero, List.set_cons_succ, i64_w, i32_w]
                          rfl
                        refine take_ (i := 23) (N := some 46) (v := ?_) (a' := ?_) #[true, true, true, true, true, true, true, true, true, true, true, true, true, true, true, true, true, true, true, true, true, true, true, true, true, true, true, false, true, true, true, false, false, false, false] rfl rfl (take_ofW HT_.out HW_.out (by kernel_rfl)) (fun _ _ _ h => h) (Or.inl ⟨by rfl, ?_⟩) hHeld ?_ ?_
                        rotate_left
                        · rintro w' ⟨s0, s1, s2, s3, s4, s5, s6, s7, s8, s9, s10, s11, s12, s13, s14, s15, s16⟩
                          go_simp
                          with_reducible rfl
                        rotate_left
                        · simp only [Act.put, List.setIfInBounds_toArray, List.set_cons_zero, List.set_cons_succ, i64_w, i32_w]
                          rfl
                        refine take_ (i := 27) (N := some 50) (v := ?_) (a' := ?_) #[true, true, true, true, true, true, true, true, true, true, true, true, true, true, true, true, true, true, true, true, true, true, true, true, true, true, true, true, true, true, true, false, false, false, false] rfl rfl (take_ofW HT_.out HW_.out (by kernel_rfl)) (fun _ _ _ h => h) (Or.inl ⟨by rfl, ?_⟩) hHeld ?_ ?_
                        rotate_left
                        · rintro w' ⟨s0, s1, s2, s3, s4, s5, s6, s7, s8, s9, s10, s11, s12, s13, s14, s15, s16⟩
                          go_simp
                          with_reducible rfl
                        rotate_left
                        · simp only [Act.put, List.setIfInBounds_toArray, List.set_cons_zero, List.set_cons_succ, i64_w, i32_w]
                          rfl
                        refine take_ (i := 31) (N := some 54) (v := ?_) (a' := ?_) #[true, true, true, true, true, true, true, true, true, true, true, true, true, true, true, true, true, true, true, true, true, true, true, true, true, true, true, true, true, true, true, true, false, false, false] rfl rfl (take_ofW HT_.out HW_.out (by kernel_rfl)) (fun _ _ _ h => h) (Or.inl ⟨by rfl, ?_⟩) hHeld ?_ ?_
                        rotate_left
                        · rintro w' ⟨s0, s1, s2, s3, s4, s5, s6, s7, s8, s9, s10, s11, s12, s13, s14, s15, s16⟩
                          go_simp
                          with_reducible rfl
                        rotate_left
                        · simp only [Act.put, List.setIfInBounds_toArray, List.set_cons_zero, List.set_cons_succ, i64_w, i32_w]
                          rfl
                        refine one_ (i := 32) (N := some 55) #[true, true, true, true, true, true, true, true, true, true, true, true, true, true, true, true, true, true, true, true, true, true, true, true, true, true, true, true, true, true, true, true, true, false, false] rfl rfl (one_of HT_.out (by kernel_rfl)) (by decide) (fun K hK => ?_)
                        refine goes_ Try.func49 (by kernel_rfl) rfl #[.slice A0 l0.length c0, .int .i64 ((rd_T66 l1 x11_1).f0), .agg #[.int .i64 ((rd_T46 l2 x11_1).f0), .bool ((rd_T46 l2 x11_1).f1), .slice A122_2 ((rd_T46 l2 x11_1).f2).length c122_2, .slice A122_3 ((rd_T46 l2 x11_1).f3).length c122_3], .agg #[.int .i64 ((rd_T46 l3 x11_1).f0), .bool ((rd_T46 l3 x11_1).f1), .slice A123_2 ((rd_T46 l3 x11_1).f2).length c123_2, .slice A123_3 ((rd_T46 l3 x11_1).f3).length c123_3]] (by rfl) rfl rfl (by (try simp only [List.map_toArray, List.map_cons, List.map_nil]); first | done | rfl | (simp only [List.length_drop, List.length_take]; rfl)) ?_
                        with_reducible refine (spec_SameTold.calls k1 _ _ l0 ((rd_T66 l1 x11_1).f0) ((rd_T46 l2 x11_1).f0) ((rd_T46 l2 x11_1).f1) _ _ ((rd_T46 l2 x11_1).f2) _ _ ((rd_T46 l2 x11_1).f3) ((rd_T46 l3 x11_1).f0) ((rd_T46 l3 x11_1).f1) _ _ ((rd_T46 l3 x11_1).f2) _ _ ((rd_T46 l3 x11_1).f3) true _ ?side1 ?side2 ?side3 ?side4 ?side5 ?side6 ?side7 ?side8 ?side9 ?side10 A23.out).mono ?_
                        (case side1 => repeat (first | exact (Kd.C_below HR0.out HB.out) | (with_reducible refine Kd.C_alloc ?_ _) | (with_reducible refine Kd.C_drewN ?_ _) | (with_reducible refine Kd.C_drew ?_)))
                        (case side2 => exact HC0.out)
                        (case side3 => repeat (first | exact (Kd.C_below HR122_2.out HB.out) | (with_reducible refine Kd.C_alloc ?_ _) | (with_reducible refine Kd.C_drewN ?_ _) | (with_reducible refine Kd.C_drew ?_)))
                        (case side4 => exact HC122_2.out)
                        (case side5 => repeat (first | exact (Kd.C_below HR122_3.out HB.out) | (with_reducible refine Kd.C_alloc ?_ _) | (with_reducible refine Kd.C_drewN ?_ _) | (with_reducible refine Kd.C_drew ?_)))
                        (case side6 => exact HC122_3.out)
                        (case side7 => repeat (first | exact (Kd.C_below HR123_2.out HB.out) | (with_reducible refine Kd.C_alloc ?_ _) | (with_reducible refine Kd.C_drewN ?_ _) | (with_reducible refine Kd.C_drew ?_)))
                        (case side8 => exact HC123_2.out)
                        (case side9 => repeat (first | exact (Kd.C_below HR123_3.out HB.out) | (with_reducible refine Kd.C_alloc ?_ _) | (with_reducible refine Kd.C_drewN ?_ _) | (with_reducible refine Kd.C_drew ?_)))
                        (case side10 => exact HC123_3.out)
                        rintro e w26 ⟨rfl, hb⟩
                        refine ⟨_, rfl, ?_⟩
                        have n0_ := Aside0.mk (below_step (by repeat (first | (with_reducible first | exact HB.out | apply below_alloc | apply pw_below_drewN | apply below_drew1) | exact HB.out)) hb)
                        clear HB
                        have HB := n0_
                        clear n0_
                        (try clear hb)
                        (try clear hb2)
                        (try clear hk)
                        (try clear hi)
                        refine hK.out _ _ ⟨((HB.out.cell (World.block_lt_of_cell? w _ hw115_0)).trans hw115_0), ((HB.out.cell (World.block_lt_of_cell? w _ hw115_1)).trans hw115_1), ((HB.out.cell (World.block_lt_of_cell? w _ hw115_2)).trans hw115_2), ((HB.out.cell (World.block_lt_of_cell? w _ hw120_0)).trans hw120_0), ((HB.out.cell (World.block_lt_of_cell? w _ hw120_1)).trans hw120_1), ((HB.out.cell (World.block_lt_of_cell? w _ hw120_2)).trans hw120_2), ((HB.out.cell (World.block_lt_of_cell? w _ hw121_0)).trans hw121_0), ((HB.out.cell (World.block_lt_of_cell? w _ hw121_1)).trans hw121_1), ((HB.out.cell (World.block_lt_of_cell? w _ hw121_2)).trans hw121_2), ((HB.out.cell (World.block_lt_of_cell? w _ hw122_0)).trans hw122_0), ((HB.out.cell (World.block_lt_of_cell? w _ hw122_1)).trans hw122_1), ((HB.out.cell (World.block_lt_of_cell? w _ hw122_2)).trans hw122_2), ((HB.out.cell (World.block_lt_of_cell? w _ hw122_3)).trans hw122_3), ((HB.out.cell (World.block_lt_of_cell? w _ hw123_0)).trans hw123_0), ((HB.out.cell (World.block_lt_of_cell? w _ hw123_1)).trans hw123_1), ((HB.out.cell (World.block_lt_of_cell? w _ hw123_2)).trans hw123_2), ((HB.out.cell (World.block_lt_of_cell? w _ hw123_3)).trans hw123_3)⟩ (fun hHeld => ?_)
                        clear hK K
                        refine norm_ (a' := ?_) ?_ ?_
                        rotate_left
                        · show Act.put _ (some 55) _ = _
                          simp only [Act.put, List.setIfInBounds_toArray, List.set_cons_zero, List.set_cons_succ, i64_w, i32_w]
                          rfl
                        refine pure_ (i := 33) (N := some 56) (v := ?_) (a' := ?_) #[true, true, true, true, true, true, true, true, true, true, true, true, true, true, true, true, true, true, true, true, true, true, true, true, true, true, true, true, true, true, true, true, true, true, false] rfl rfl (any_of HT_.out (by kernel_rfl)) (fun _ _ _ h => h) (Or.inl ⟨by rfl, ?_⟩) ?_ ?_
                        rotate_left
                        · intro w'
                          go_simp
                          with_reducible rfl
                        rotate_left
                        · simp only [Act.put, List.setIfInBounds_toArray, List.set_cons_zero, List.set_cons_succ, i64_w, i32_w]
                          rfl
                        refine pure_ (i := 34) (N := some 57) (v := ?_) (a' := ?_) #[true, true, true, true, true, true, true, true, true, true, true, true, true, true, true, true, true, true, true, true, true, true, true, true, true, true, true, true, true, true, true, true, true, true, true] rfl rfl (any_of HT_.out (by kernel_rfl)) (fun _ _ _ h => h) (Or.inl ⟨by rfl, ?_⟩) ?_ ?_
                        rotate_left
                        · intro w'
                          go_simp
                          with_reducible rfl
                        rotate_left
                        · simp only [Act.put, List.setIfInBounds_toArray, List.set_cons_zero, List.set_cons_succ, i64_w, i32_w]
                          rfl
                        refine done_ (done_of HT_.out (by kernel_rfl)) ?_
                        try go_wp2
                        go_roundg k1
                        case measure => have := HK1.out; omega
                        case rel => exact ⟨(wrap64 (x11_1 + 1)), (by first | rfl | (simp; done) | (simp [*]; done)), H', ⟨by have := HK1.out; omega⟩, ⟨by repeat (first | (with_reducible first | exact HB.out | apply below_alloc | apply pw_below_drewN | apply below_drew1) | exact HB.out)⟩⟩
                      · replace c24 := Bool.eq_false_iff.mpr c24
                        subst c24
                        have H1 : (some false) = some r := by rw [if_neg (show ¬ (false = true) by decide)] at H; exact H
                        clear H
                        have H := H1
                        clear H1
                        obtain rfl := Option.some.inj H
                        try go_wp2
                        have n0_ := Aside0.mk (below_drew1 HB.out)
                        clear HB
                        have HB := n0_
                        clear n0_
                        have p115 : 0 ≤ (x11_1 : Int) := of_decide_eq_true (by first | (with_reducible assumption) | assumption)
                        have q115 : x11_1 < (l1.length : Int) := of_decide_eq_true (by first | (with_reducible assumption) | assumption)
                        obtain ⟨ad115, e115, hx115_0, hx115_1, hx115_2⟩ := at_T66 HR1.out x11_1 p115 q115
                        have hw115_2 := hx115_2
                        have hw115_1 := hx115_1
                        have hw115_0 := hx115_0
                        cases e115
                        replace hx115_0 := (HB.out.cell (World.block_lt_of_cell? w _ hx115_0)).trans hx115_0
                        replace hx115_1 := (HB.out.cell (World.block_lt_of_cell? w _ hx115_1)).trans hx115_1
                        replace hx115_2 := (HB.out.cell (World.block_lt_of_cell? w _ hx115_2)).trans hx115_2
                        replace p115 := eq_true p115
                        replace q115 := eq_true q115
                        have p120 : 0 ≤ (x11_1 : Int) := of_decide_eq_true (by first | (with_reducible assumption) | assumption)
                        have q120 : x11_1 < (l1.length : Int) := of_decide_eq_true (by first | (with_reducible assumption) | assumption)
                        obtain ⟨ad120, e120, hx120_0, hx120_1, hx120_2⟩ := at_T66 HR1.out x11_1 p120 q120
                        have hw120_2 := hx120_2
                        have hw120_1 := hx120_1
                        have hw120_0 := hx120_0
                        obtain rfl : ad115 = ad120 := (by injection e120)
                        replace hx120_0 := (HB.out.cell (World.block_lt_of_cell? w _ hx120_0)).trans hx120_0
                        replace hx120_1 := (HB.out.cell (World.block_lt_of_cell? w _ hx120_1)).trans hx120_1
                        replace hx120_2 := (HB.out.cell (World.block_lt_of_cell? w _ hx120_2)).trans hx120_2
                        replace p120 := eq_true p120
                        replace q120 := eq_true q120
                        have p121 : 0 ≤ (x11_1 : Int) := of_decide_eq_true (by first | (with_reducible assumption) | assumption)
                        have q121 : x11_1 < (l1.length : Int) := of_decide_eq_true (by first | (with_reducible assumption) | assumption)
                        obtain ⟨ad121, e121, hx121_0, hx121_1, hx121_2⟩ := at_T66 HR1.out x11_1 p121 q121
                        have hw121_2 := hx121_2
                        have hw121_1 := hx121_1
                        have hw121_0 := hx121_0
                        obtain rfl : ad115 = ad121 := (by injection e121)
                        replace hx121_0 := (HB.out.cell (World.block_lt_of_cell? w _ hx121_0)).trans hx121_0
                        replace hx121_1 := (HB.out.cell (World.block_lt_of_cell? w _ hx121_1)).trans hx121_1
                        replace hx121_2 := (HB.out.cell (World.block_lt_of_cell? w _ hx121_2)).trans hx121_2
                        replace p121 := eq_true p121
                        replace q121 := eq_true q121
                        have p122 : 0 ≤ (x11_1 : Int) := of_decide_eq_true (by first | (with_reducible assumption) | assumption)
                        have q122 : x11_1 < (l2.length : Int) := of_decide_eq_true (by first | (with_reducible assumption) | assumption)
                        obtain ⟨ad122, A122_2, c122_2, A122_3, c122_3, e122, hx122_0, hx122_1, hx122_2, hx122_3, hl122_2, hi122_2, hl122_3, hi122_3⟩ := at_T46 HR2.out x11_1 p122 q122
                        have hw122_3 := hx122_3
                        have hw122_2 := hx122_2
                        have hw122_1 := hx122_1
                        have hw122_0 := hx122_0
                        cases e122
                        replace hx122_0 := (HB.out.cell (World.block_lt_of_cell? w _ hx122_0)).trans hx122_0
                        replace hx122_1 := (HB.out.cell (World.block_lt_of_cell? w _ hx122_1)).trans hx122_1
                        replace hx122_2 := (HB.out.cell (World.block_lt_of_cell? w _ hx122_2)).trans hx122_2
                        replace hx122_3 := (HB.out.cell (World.block_lt_of_cell? w _ hx122_3)).trans hx122_3
                        have HR122_2 := Aside0.mk hi122_2
                        have HC122_2 := Aside0.mk hl122_2
                        clear hi122_2 hl122_2
                        have HR122_3 := Aside0.mk hi122_3
                        have HC122_3 := Aside0.mk hl122_3
                        clear hi122_3 hl122_3
                        replace p122 := eq_true p122
                        replace q122 := eq_true q122
                        have p123 : 0 ≤ (x11_1 : Int) := of_decide_eq_true (by first | (with_reducible assumption) | assumption)
                        have q123 : x11_1 < (l3.length : Int) := of_decide_eq_true (by first | (with_reducible assumption) | assumption)
                        obtain ⟨ad123, A123_2, c123_2, A123_3, c123_3, e123, hx123_0, hx123_1, hx123_2, hx123_3, hl123_2, hi123_2, hl123_3, hi123_3⟩ := at_T46 HR3.out x11_1 p123 q123
                        have hw123_3 := hx123_3
                        have hw123_2 := hx123_2
                        have hw123_1 := hx123_1
                        have hw123_0 := hx123_0
                        cases e123
                        replace hx123_0 := (HB.out.cell (World.block_lt_of_cell? w _ hx123_0)).trans hx123_0
                        replace hx123_1 := (HB.out.cell (World.block_lt_of_cell? w _ hx123_1)).trans hx123_1
                        replace hx123_2 := (HB.out.cell (World.block_lt_of_cell? w _ hx123_2)).trans hx123_2
                        replace hx123_3 := (HB.out.cell (World.block_lt_of_cell? w _ hx123_3)).trans hx123_3
                        have HR123_2 := Aside0.mk hi123_2
                        have HC123_2 := Aside0.mk hl123_2
                        clear hi123_2 hl123_2
                        have HR123_3 := Aside0.mk hi123_3
                        have HC123_3 := Aside0.mk hl123_3
                        clear hi123_3 hl123_3
                        replace p123 := eq_true p123
                        replace q123 := eq_true q123
                        refine start_ (n := 35) (S := fun w' => w'.cell? (ad115.add ((x11_1).toNat * 3)) = some (.int .i64 ((rd_T66 l1 x11_1).f0)) ∧ w'.cell? ⟨(ad115.add ((x11_1).toNat * 3)).block, (ad115.add ((x11_1).toNat * 3)).off + 1, none⟩ = some (.int .i64 ((rd_T66 l1 x11_1).f1)) ∧ w'.cell? ⟨(ad115.add ((x11_1).toNat * 3)).block, (ad115.add ((x11_1).toNat * 3)).off + 2, none⟩ = some (.int .i64 ((rd_T66 l1 x11_1).f2)) ∧ w'.cell? (ad115.add ((x11_1).toNat * 3)) = some (.int .i64 ((rd_T66 l1 x11_1).f0)) ∧ w'.cell? ⟨(ad115.add ((x11_1).toNat * 3)).block, (ad115.add ((x11_1).toNat * 3)).off + 1, none⟩ = some (.int .i64 ((rd_T66 l1 x11_1).f1)) ∧ w'.cell? ⟨(ad115.add ((x11_1).toNat * 3)).block, (ad115.add ((x11_1).toNat * 3)).off + 2, none⟩ = some (.int .i64 ((rd_T66 l1 x11_1).f2)) ∧ w'.cell? (ad115.add ((x11_1).toNat * 3)) = some (.int .i64 ((rd_T66 l1 x11_1).f0)) ∧ w'.cell? ⟨(ad115.add ((x11_1).toNat * 3)).block, (ad115.add ((x11_1).toNat * 3)).off + 1, none⟩ = some (.int .i64 ((rd_T66 l1 x11_1).f1)) ∧ w'.cell? ⟨(ad115.add ((x11_1).toNat * 3)).block, (ad115.add ((x11_1).toNat * 3)).off + 2, none⟩ = some (.int .i64 ((rd_T66 l1 x11_1).f2)) ∧ w'.cell? (ad122.add ((x11_1).toNat * 4)) = some (.int .i64 ((rd_T46 l2 x11_1).f0)) ∧ w'.cell? ⟨(ad122.add ((x11_1).toNat * 4)).block, (ad122.add ((x11_1).toNat * 4)).off + 1, none⟩ = some (.bool ((rd_T46 l2 x11_1).f1)) ∧ w'.cell? ⟨(ad122.add ((x11_1).toNat * 4)).block, (ad122.add ((x11_1).toNat * 4)).off + 2, none⟩ = some (.slice A122_2 ((rd_T46 l2 x11_1).f2).length c122_2) ∧ w'.cell? ⟨(ad122.add ((x11_1).toNat * 4)).block, (ad122.add ((x11_1).toNat * 4)).off + 3, none⟩ = some (.slice A122_3 ((rd_T46 l2 x11_1).f3).length c122_3) ∧ w'.cell? (ad123.add ((x11_1).toNat * 4)) = some (.int .i64 ((rd_T46 l3 x11_1).f0)) ∧ w'.cell? ⟨(ad123.add ((x11_1).toNat * 4)).block, (ad123.add ((x11_1).toNat * 4)).off + 1, none⟩ = some (.bool ((rd_T46 l3 x11_1).f1)) ∧ w'.cell? ⟨(ad123.add ((x11_1).toNat * 4)).block, (ad123.add ((x11_1).toNat * 4)).off + 2, none⟩ = some (.slice A123_2 ((rd_T46 l3 x11_1).f2).length c123_2) ∧ w'.cell? ⟨(ad123.add ((x11_1).toNat * 4)).block, (ad123.add ((x11_1).toNat * 4)).off + 3, none⟩ = some (.slice A123_3 ((rd_T46 l3 x11_1).f3).length c123_3)) (ds := []) #[false, false, false, false, false, false, false, false, false, false, false, false, false, false, false, false, false, false, false, false, false, false, false, false, false, false, false, false, false, false, false, false, false, false, false] (by kernel_rfl) rfl rfl ⟨((HB.out.cell (World.block_lt_of_cell? w _ hw115_0)).trans hw115_0), ((HB.out.cell (World.block_lt_of_cell? w _ hw115_1)).trans hw115_1), ((HB.out.cell (World.block_lt_of_cell? w _ hw115_2)).trans hw115_2), ((HB.out.cell (World.block_lt_of_cell? w _ hw120_0)).trans hw120_0), ((HB.out.cell (World.block_lt_of_cell? w _ hw120_1)).trans hw120_1), ((HB.out.cell (World.block_lt_of_cell? w _ hw120_2)).trans hw120_2), ((HB.out.cell (World.block_lt_of_cell? w _ hw121_0)).trans hw121_0), ((HB.out.cell (World.block_lt_of_cell? w _ hw121_1)).trans hw121_1), ((HB.out.cell (World.block_lt_of_cell? w _ hw121_2)).trans hw121_2), ((HB.out.cell (World.block_lt_of_cell? w _ hw122_0)).trans hw122_0), ((HB.out.cell (World.block_lt_of_cell? w _ hw122_1)).trans hw122_1), ((HB.out.cell (World.block_lt_of_cell? w _ hw122_2)).trans hw122_2), ((HB.out.cell (World.block_lt_of_cell? w _ hw122_3)).trans hw122_3), ((HB.out.cell (World.block_lt_of_cell? w _ hw123_0)).trans hw123_0), ((HB.out.cell (World.block_lt_of_cell? w _ hw123_1)).trans hw123_1), ((HB.out.cell (World.block_lt_of_cell? w _ hw123_2)).trans hw123_2), ((HB.out.cell (World.block_lt_of_cell? w _ hw123_3)).trans hw123_3)⟩ (fun hHeld => ?_); refine with_tabW laws_treeRuns.tab6 laws_treeRuns.bits6 (fun HT_ HW_ => ?_)
                        generalize wr.drew = w27 at HB HR122_2 HR122_3 HR123_2 HR123_3 hx115_0 hx115_1 hx115_2 hx120_0 hx120_1 hx120_2 hx121_0 hx121_1 hx121_2 hx122_0 hx122_1 hx122_2 hx122_3 hx123_0 hx123_1 hx123_2 hx123_3 hHeld ⊢
                        refine pure_ (i := 0) (N := some 23) (v := ?_) (a' := ?_) #[true, false, false, false, false, false, false, false, false, false, false, false, false, false, false, false, false, false, false, false, false, false, false, false, false, false, false, false, false, false, false, false, false, false, false] rfl rfl (any_of HT_.out (by kernel_rfl)) (fun _ _ _ h => h) (Or.inl ⟨by rfl, ?_⟩) ?_ ?_
                        rotate_left
                        · intro w'
                          go_simp
                          with_reducible rfl
                        rotate_left
                        · simp only [Act.put, List.setIfInBounds_toArray, List.set_cons_zero, List.set_cons_succ, i64_w, i32_w]
                          rfl
                        refine pure_ (i := 1) (N := some 24) (v := ?_) (a' := ?_) #[true, true, false, false, false, false, false, false, false, false, false, false, false, false, false, false, false, false, false, false, false, false, false, false, false, false, false, false, false, false, false, false, false, false, false] rfl rfl (any_of HT_.out (by kernel_rfl)) (fun _ _ _ h => h) (Or.inl ⟨by rfl, ?_⟩) ?_ ?_
                        rotate_left
                        · intro w'
                          go_simp
                          with_reducible rfl
                        rotate_left
                        · simp only [Act.put, List.setIfInBounds_toArray, List.set_cons_zero, List.set_cons_succ, i64_w, i32_w]
                          rfl
                        refine pure_ (i := 2) (N := some 25) (v := ?_) (a' := ?_) #[true, true, true, false, false, false, false, false, false, false, false, false, false, false, false, false, false, false, false, false, false, false, false, false, false, false, false, false, false, false, false, false, false, false, false] rfl rfl (any_of HT_.out (by kernel_rfl)) (fun _ _ _ h => h) (Or.inl ⟨by rfl, ?_⟩) ?_ ?_
                        rotate_left
                        · intro w'
                          go_simp
                          with_reducible rfl
                        rotate_left
                        · simp only [Act.put, List.setIfInBounds_toArray, List.set_cons_zero, List.set_cons_succ, i64_w, i32_w]
                          rfl
                        refine pure_ (i := 3) (N := some 26) (v := ?_) (a' := ?_) #[true, true, true, true, false, false, false, false, false, false, false, false, false, false, false, false, false, false, false, false, false, false, false, false, false, false, false, false, false, false, false, false, false, false, false] rfl rfl (any_of HT_.out (by kernel_rfl)) (fun _ _ _ h => h) (Or.inl ⟨by rfl, ?_⟩) ?_ ?_
                        rotate_left
                        · intro w'
                          go_simp
                          with_reducible rfl
                        rotate_left
                        · simp only [Act.put, List.setIfInBounds_toArray, List.set_cons_zero, List.set_cons_succ, i64_w, i32_w]
                          rfl
                        refine take_ (i := 4) (N := some 27) (v := ?_) (a' := ?_) #[true, true, true, true, true, false, false, false, false, false, false, false, false, false, false, false, false, false, false, false, false, false, false, false, false, false, false, false, false, false, false, false, false, false, false] rfl rfl (take_ofW HT_.out HW_.out (by kernel_rfl)) (fun _ _ _ h => h) (Or.inl ⟨by rfl, ?_⟩) hHeld ?_ ?_
                        rotate_left
                        · rintro w' ⟨s0, s1, s2, s3, s4, s5, s6, s7, s8, s9, s10, s11, s12, s13, s14, s15, s16⟩
                          go_simp
                          with_reducible rfl
                        rotate_left
                        · simp only [Act.put, List.setIfInBounds_toArray, List.set_cons_zero, List.set_cons_succ, i64_w, i32_w]
                          rfl
                        refine pure_ (i := 5) (N := some 28) (v := ?_) (a' := ?_) #[true, true, true, true, true, true, false, false, false, false, false, false, false, false, false, false, false, false, false, false, false, false, false, false, false, false, false, false, false, false, false, false, false, false, false] rfl rfl (any_of HT_.out (by kernel_rfl)) (fun _ _ _ h => h) (Or.inl ⟨by rfl, ?_⟩) ?_ ?_
                        rotate_left
                        · intro w'
                          go_simp
                          with_reducible rfl
                        rotate_left
                        · simp only [Act.put, List.setIfInBounds_toArray, List.set_cons_zero, List.set_cons_succ, i64_w, i32_w]
                          rfl
                        refine pure_ (i := 6) (N := some 29) (v := ?_) (a' := ?_) #[true, true, true, true, true, true, true, false, false, false, false, false, false, false, false, false, false, false, false, false, false, false, false, false, false, false, false, false, false, false, false, false, false, false, false] rfl rfl (any_of HT_.out (by kernel_rfl)) (fun _ _ _ h => h) (Or.inl ⟨by rfl, ?_⟩) ?_ ?_
                        rotate_left
                        · intro w'
                          go_simp
                          with_reducible rfl
                        rotate_left
                        · simp only [Act.put, List.setIfInBounds_toArray, List.set_cons_zero, List.set_cons_succ, i64_w, i32_w]
                          rfl
                        refine pure_ (i := 7) (N := some 30) (v := ?_) (a' := ?_) #[true, true, true, true, true, true, true, true, false, false, false, false, false, false, false, false, false, false, false, false, false, false, false, false, false, false, false, false, false, false, false, false, false, false, false] rfl rfl (any_of HT_.out (by kernel_rfl)) (fun _ _ _ h => h) (Or.inl ⟨by rfl, ?_⟩) ?_ ?_
                        rotate_left
                        · intro w'
                          go_simp
                          with_reducible rfl
                        rotate_left
                        · simp only [Act.put, List.setIfInBounds_toArray, List.set_cons_zero, List.set_cons_succ, i64_w, i32_w]
                          rfl
                        refine pure_ (i := 8) (N := some 31) (v := ?_) (a' := ?_) #[true, true, true, true, true, true, true, true, true, false, false, false, false, false, false, false, false, false, false, false, false, false, false, false, false, false, false, false, false, false, false, false, false, false, false] rfl rfl (any_of HT_.out (by kernel_rfl)) (fun _ _ _ h => h) (Or.inl ⟨by rfl, ?_⟩) ?_ ?_
                        rotate_left
                        · intro w'
                          go_simp
                          with_reducible rfl
                        rotate_left
                        · simp only [Act.put, List.setIfInBounds_toArray, List.set_cons_zero, List.set_cons_succ, i64_w, i32_w]
                          rfl
                        refine pure_ (i := 9) (N := some 32) (v := ?_) (a' := ?_) #[true, true, true, true, true, true, true, true, true, true, false, false, false, false, false, false, false, false, false, false, false, false, false, false, false, false, false, false, false, false, false, false, false, false, false] rfl rfl (any_of HT_.out (by kernel_rfl)) (fun _ _ _ h => h) (Or.inl ⟨by rfl, ?_⟩) ?_ ?_
                        rotate_left
                        · intro w'
                          go_simp
                          with_reducible rfl
                        rotate_left
                        · simp only [Act.put, List.setIfInBounds_toArray, List.set_cons_zero, List.set_cons_succ, i64_w, i32_w]
                          rfl
                        refine pure_ (i := 10) (N := some 33) (v := ?_) (a' := ?_) #[true, true, true, true, true, true, true, true, true, true, true, false, false, false, false, false, false, false, false, false, false, false, false, false, false, false, false, false, false, false, false, false, false, false, false] rfl rfl (any_of HT_.out (by kernel_rfl)) (fun _ _ _ h => h) (Or.inl ⟨by rfl, ?_⟩) ?_ ?_
                        rotate_left
                        · intro w'
                          go_simp
                          with_reducible rfl
                        rotate_left
                        · simp only [Act.put, List.setIfInBounds_toArray, List.set_cons_zero, List.set_cons_succ, i64_w, i32_w]
                          rfl
                        refine pure_ (i := 11) (N := some 34) (v := ?_) (a' := ?_) #[true, true, true, true, true, true, true, true, true, true, true, true, false, false, false, false, false, false, false, false, false, false, false, false, false, false, false, false, false, false, false, false, false, false, false] rfl rfl (any_of HT_.out (by kernel_rfl)) (fun _ _ _ h => h) (Or.inl ⟨by rfl, ?_⟩) ?_ ?_
                        rotate_left
                        · intro w'
                          go_simp
                          with_reducible rfl
                        rotate_left
                        · simp only [Act.put, List.setIfInBounds_toArray, List.set_cons_zero, List.set_cons_succ, i64_w, i32_w]
                          rfl
                        refine pure_ (i := 12) (N := some 35) (v := ?_) (a' := ?_) #[true, true, true, true, true, true, true, true, true, true, true, true, true, false, false, false, false, false, false, false, false, false, false, false, false, false, false, false, false, false, false, false, false, false, false] rfl rfl (any_of HT_.out (by kernel_rfl)) (fun _ _ _ h => h) (Or.inl ⟨by rfl, ?_⟩) ?_ ?_
                        rotate_left
                        · intro w'
                          go_simp
                          with_reducible rfl
                        rotate_left
                        · simp only [Act.put, List.setIfInBounds_toArray, List.set_cons_zero, List.set_cons_succ, i64_w, i32_w]
                          rfl
                        refine take_ (i := 13) (N := some 36) (v := ?_) (a' := ?_) #[true, true, true, true, true, true, true, true, true, true, true, true, true, true, false, false, false, false, false, false, false, false, false, false, false, false, false, false, false, false, false, false, false, false, false] rfl rfl (take_ofW HT_.out HW_.out (by kernel_rfl)) (fun _ _ _ h => h) (Or.inl ⟨by rfl, ?_⟩) hHeld ?_ ?_
                        rotate_left
                        · rintro w' ⟨s0, s1, s2, s3, s4, s5, s6, s7, s8, s9, s10, s11, s12, s13, s14, s15, s16⟩
                          go_simp
                          with_reducible rfl
                        rotate_left
                        · simp only [Act.put, List.setIfInBounds_toArray, List.set_cons_zero, List.set_cons_succ, i64_w, i32_w]
                          rfl
                        refine pure_ (i := 14) (N := some 37) (v := ?_) (a' := ?_) #[true, true, true, true, true, true, true, true, true, true, true, true, true, true, true, false, false, false, false, false, false, false, false, false, false, false, false, false, false, false, false, false, false, false, false] rfl rfl (any_of HT_.out (by kernel_rfl)) (fun _ _ _ h => h) (Or.inl ⟨by rfl, ?_⟩) ?_ ?_
                        rotate_left
                        · intro w'
                          go_simp
                          with_reducible rfl
                        rotate_left
                        · simp only [Act.put, List.setIfInBounds_toArray, List.set_cons_zero, List.set_cons_succ, i64_w, i32_w]
                          rfl
                        refine pure_ (i := 15) (N := some 38) (v := ?_) (a' := ?_) #[true, true, true, true, true, true, true, true, true, true, true, true, true, true, true, true, false, false, false, false, false, false, false, false, false, false, false, false, false, false, false, false, false, false, false] rfl rfl (any_of HT_.out (by kernel_rfl)) (fun _ _ _ h => h) (Or.inl ⟨by rfl, ?_⟩) ?_ ?_
                        rotate_left
                        · intro w'
                          go_simp
                          with_reducible rfl
                        rotate_left
                        · simp only [Act.put, List.setIfInBounds_toArray, List.set_cons_zero, List.set_cons_succ, i64_w, i32_w]
                          rfl
                        refine pure_ (i := 16) (N := some 39) (v := ?_) (a' := ?_) #[true, true, true, true, true, true, true, true, true, true, true, true, true, true, true, true, true, false, false, false, false, false, false, false, false, false, false, false, false, false, false, false, false, false, false] rfl rfl (any_of HT_.out (by kernel_rfl)) (fun _ _ _ h => h) (Or.inl ⟨by rfl, ?_⟩) ?_ ?_
                        rotate_left
                        · intro w'
                          go_simp
                          with_reducible rfl
                        rotate_left
                        · simp only [Act.put, List.setIfInBounds_toArray, List.set_cons_zero, List.set_cons_succ, i64_w, i32_w]
                          rfl
                        refine pure_ (i := 17) (N := some 40) (v := ?_) (a' := ?_) #[true, true, true, true, true, true, true, true, true, true, true, true, true, true, true, true, true, true, false, false, false, false, false, false, false, false, false, false, false, false, false, false, false, false, false] rfl rfl (any_of HT_.out (by kernel_rfl)) (fun _ _ _ h => h) (Or.inl ⟨by rfl, ?_⟩) ?_ ?_
                        rotate_left
                        · intro w'
                          go_simp
                          with_reducible rfl
                        rotate_left
                        · simp only [Act.put, List.setIfInBounds_toArray, List.set_cons_zero, List.set_cons_succ, i64_w, i32_w]
                          rfl
                        refine pure_ (i := 18) (N := some 41) (v := ?_) (a' := ?_) #[true, true, true, true, true, true, true, true, true, true, true, true, true, true, true, true, true, true, true, false, false, false, false, false, false, false, false, false, false, false, false, false, false, false, false] rfl rfl (any_of HT_.out (by kernel_rfl)) (fun _ _ _ h => h) (Or.inl ⟨by rfl, ?_⟩) ?_ ?_
                        rotate_left
                        · intro w'
                          go_simp
                          with_reducible rfl
                        rotate_left
                        · simp only [Act.put, List.setIfInBounds_toArray, List.set_cons_zero, List.set_cons_succ, i64_w, i32_w]
                          rfl
                        refine pure_ (i := 19) (N := some 42) (v := ?_) (a' := ?_) #[true, true, true, true, true, true, true, true, true, true, true, true, true, true, true, true, true, true, true, true, false, false, false, false, false, false, false, false, false, false, false, false, false, false, false] rfl rfl (any_of HT_.out (by kernel_rfl)) (fun _ _ _ h => h) (Or.inl ⟨by rfl, ?_⟩) ?_ ?_
                        rotate_left
                        · intro w'
                          go_simp
                          with_reducible rfl
                        rotate_left
                        · simp only [Act.put, List.setIfInBounds_toArray, List.set_cons_zero, List.set_cons_succ, i64_w, i32_w]
                          rfl
                        refine pure_ (i := 20) (N := some 43) (v := ?_) (a' := ?_) #[true, true, true, true, true, true, true, true, true, true, true, true, true, true, true, true, true, true, true, true, true, false, false, false, false, false, false, false, false, false, false, false, false, false, false] rfl rfl (any_of HT_.out (by kernel_rfl)) (fun _ _ _ h => h) (Or.inl ⟨by rfl, ?_⟩) ?_ ?_
                        rotate_left
                        · intro w'
                          go_simp
                          with_reducible rfl
                        rotate_left
                        · simp only [Act.put, List.setIfInBounds_toArray, List.set_cons_zero, List.set_cons_succ, i64_w, i32_w]
                          rfl
                        refine pure_ (i := 21) (N := some 44) (v := ?_) (a' := ?_) #[true, true, true, true, true, true, true, true, true, true, true, true, true, true, true, true, true, true, true, true, true, true, false, false, false, false, false, false, false, false, false, false, false, false, false] rfl rfl (any_of HT_.out (by kernel_rfl)) (fun _ _ _ h => h) (Or.inl ⟨by rfl, ?_⟩) ?_ ?_
                        rotate_left
                        · intro w'
                          go_simp
                          with_reducible rfl
                        rotate_left
                        · simp only [Act.put, List.setIfInBounds_toArray, List.set_cons_zero, List.set_cons_succ, i64_w, i32_w]
                          rfl
                        refine pure_ (i := 22) (N := some 45) (v := ?_) (a' := ?_) #[true, true, true, true, true, true, true, true, true, true, true, true, true, true, true, true, true, true, true, true, true, true, true, false, false, false, false, false, false, false, false, false, false, false, false] rfl rfl (any_of HT_.out (by kernel_rfl)) (fun _ _ _ h => h) (Or.inl ⟨by rfl, ?_⟩) ?_ ?_
                        rotate_left
                        · intro w'
                          go_simp
                          with_reducible rfl
                        rotate_left
                        · simp only [Act.put, List.setIfInBounds_toArray, List.set_cons_zero, List.set_cons_succ, i64_w, i32_w]
                          rfl
                        refine pure_ (i := 24) (N := some 47) (v := ?_) (a' := ?_) #[true, true, true, true, true, true, true, true, true, true, true, true, true, true, true, true, true, true, true, true, true, true, true, false, true, false, false, false, false, false, false, false, false, false, false] rfl rfl (any_of HT_.out (by kernel_rfl)) (fun _ _ _ h => h) (Or.inl ⟨by rfl, ?_⟩) ?_ ?_
                        rotate_left
                        · intro w'
                          go_simp
                          with_reducible rfl
                        rotate_left
                        · simp only [Act.put, List.setIfInBounds_toArray, List.set_cons_zero, List.set_cons_succ, i64_w, i32_w]
                          rfl
                        refine pure_ (i := 25) (N := some 48) (v := ?_) (a' := ?_) #[true, true, true, true, true, true, true, true, true, true, true, true, true, true, true, true, true, true, true, true, true, true, true, false, true, true, false, false, false, false, false, false, false, false, false] rfl rfl (any_of HT_.out (by kernel_rfl)) (fun _ _ _ h => h) (Or.inl ⟨by rfl, ?_⟩) ?_ ?_
                        rotate_left
                        · intro w'
                          go_simp
                          with_reducible rfl
                        rotate_left
                        · simp only [Act.put, List.setIfInBounds_toArray, List.set_cons_zero, List.set_cons_succ, i64_w, i32_w]
                          rfl
                        refine pure_ (i := 26) (N := some 49) (v := ?_) (a' := ?_) #[true, true, true, true, true, true, true, true, true, true, true, true, true, true, true, true, true, true, true, true, true, true, true, false, true, true, true, false, false, false, false, false, false, false, false] rfl rfl (any_of HT_.out (by kernel_rfl)) (fun _ _ _ h => h) (Or.inl ⟨by rfl, ?_⟩) ?_ ?_
                        rotate_left
                        · intro w'
                          go_simp
                          with_reducible rfl
                        rotate_left
                        · simp only [Act.put, List.setIfInBounds_toArray, List.set_cons_zero, List.set_cons_succ, i64_w, i32_w]
                          rfl
                        refine pure_ (i := 28) (N := some 51) (v := ?_) (a' := ?_) #[true, true, true, true, true, true, true, true, true, true, true, true, true, true, true, true, true, true, true, true, true, true, true, false, true, true, true, false, true, false, false, false, false, false, false] rfl rfl (any_of HT_.out (by kernel_rfl)) (fun _ _ _ h => h) (Or.inl ⟨by rfl, ?_⟩) ?_ ?_
                        rotate_left
                        · intro w'
                          go_simp
                          with_reducible rfl
                        rotate_left
                        · simp only [Act.put, List.setIfInBounds_toArray, List.set_cons_zero, List.set_cons_succ, i64_w, i32_w]
                          rfl
                        refine pure_ (i := 29) (N := some 52) (v := ?_) (a' := ?_) #[true, true, true, true, true, true, true, true, true, true, true, true, true, true, true, true, true, true, true, true, true, true, true, false, true, true, true, false, true, true, false, false, false, false, false] rfl rfl (any_of HT_.out (by kernel_rfl)) (fun _ _ _ h => h) (Or.inl ⟨by rfl, ?_⟩) ?_ ?_
                        rotate_left
                        · intro w'
                          go_simp
                          with_reducible rfl
                        rotate_left
                        · simp only [Act.put, List.setIfInBounds_toArray, List.set_cons_zero, List.set_cons_succ, i64_w, i32_w]
                          rfl
                        refine pure_ (i := 30) (N := some 53) (v := ?_) (a' := ?_) #[true, true, true, true, true, true, true, true, true, true, true, true, true, true, true, true, true, true, true, true, true, true, true, false, true, true, true, false, true, true, true, false, false, false, false] rfl rfl (any_of HT_.out (by kernel_rfl)) (fun _ _ _ h => h) (Or.inl ⟨by rfl, ?_⟩) ?_ ?_
                        rotate_left
                        · intro w'
                          go_simp
                          with_reducible rfl
                        rotate_left
                        · simp only [Act.put, List.setIfInBounds_toArray, List.set_cons_zero, List.set_cons_succ, i64_w, i32_w]
                          rfl
                        refine take_ (i := 23) (N := some 46) (v := ?_) (a' := ?_) #[true, true, true, true, true, true, true, true, true, true, true, true, true, true, true, true, true, true, true, true, true, true, true, true, true, true, true, false, true, true, true, false, false, false, false] rfl rfl (take_ofW HT_.out HW_.out (by kernel_rfl)) (fun _ _ _ h => h) (Or.inl ⟨by rfl, ?_⟩) hHeld ?_ ?_
                        rotate_left
                        · rintro w' ⟨s0, s1, s2, s3, s4, s5, s6, s7, s8, s9, s10, s11, s12, s13, s14, s15, s16⟩
                          go_simp
                          with_reducible rfl
                        rotate_left
                        · simp only [Act.put, List.setIfInBounds_toArray, List.set_cons_zero, List.set_cons_succ, i64_w, i32_w]
                          rfl
                        refine take_ (i := 27) (N := some 50) (v := ?_) (a' := ?_) #[true, true, true, true, true, true, true, true, true, true, true, true, true, true, true, true, true, true, true, true, true, true, true, true, true, true, true, true, true, true, true, false, false, false, false] rfl rfl (take_ofW HT_.out HW_.out (by kernel_rfl)) (fun _ _ _ h => h) (Or.inl ⟨by rfl, ?_⟩) hHeld ?_ ?_
                        rotate_left
                        · rintro w' ⟨s0, s1, s2, s3, s4, s5, s6, s7, s8, s9, s10, s11, s12, s13, s14, s15, s16⟩
                          go_simp
                          with_reducible rfl
                        rotate_left
                        · simp only [Act.put, List.setIfInBounds_toArray, List.set_cons_zero, List.set_cons_succ, i64_w, i32_w]
                          rfl
                        refine take_ (i := 31) (N := some 54) (v := ?_) (a' := ?_) #[true, true, true, true, true, true, true, true, true, true, true, true, true, true, true, true, true, true, true, true, true, true, true, true, true, true, true, true, true, true, true, true, false, false, false] rfl rfl (take_ofW HT_.out HW_.out (by kernel_rfl)) (fun _ _ _ h => h) (Or.inl ⟨by rfl, ?_⟩) hHeld ?_ ?_
                        rotate_left
                        · rintro w' ⟨s0, s1, s2, s3, s4, s5, s6, s7, s8, s9, s10, s11, s12, s13, s14, s15, s16⟩
                          go_simp
                          with_reducible rfl
                        rotate_left
                        · simp only [Act.put, List.setIfInBounds_toArray, List.set_cons_zero, List.set_cons_succ, i64_w, i32_w]
                          rfl
                        refine one_ (i := 32) (N := some 55) #[true, true, true, true, true, true, true, true, true, true, true, true, true, true, true, true, true, true, true, true, true, true, true, true, true, true, true, true, true, true, true, true, true, false, false] rfl rfl (one_of HT_.out (by kernel_rfl)) (by decide) (fun K hK => ?_)
                        refine goes_ Try.func49 (by kernel_rfl) rfl #[.slice A0 l0.length c0, .int .i64 ((rd_T66 l1 x11_1).f0), .agg #[.int .i64 ((rd_T46 l2 x11_1).f0), .bool ((rd_T46 l2 x11_1).f1), .slice A122_2 ((rd_T46 l2 x11_1).f2).length c122_2, .slice A122_3 ((rd_T46 l2 x11_1).f3).length c122_3], .agg #[.int .i64 ((rd_T46 l3 x11_1).f0), .bool ((rd_T46 l3 x11_1).f1), .slice A123_2 ((rd_T46 l3 x11_1).f2).length c123_2, .slice A123_3 ((rd_T46 l3 x11_1).f3).length c123_3]] (by rfl) rfl rfl (by (try simp only [List.map_toArray, List.map_cons, List.map_nil]); first | done | rfl | (simp only [List.length_drop, List.length_take]; rfl)) ?_
                        with_reducible refine (spec_SameTold.calls k1 _ _ l0 ((rd_T66 l1 x11_1).f0) ((rd_T46 l2 x11_1).f0) ((rd_T46 l2 x11_1).f1) _ _ ((rd_T46 l2 x11_1).f2) _ _ ((rd_T46 l2 x11_1).f3) ((rd_T46 l3 x11_1).f0) ((rd_T46 l3 x11_1).f1) _ _ ((rd_T46 l3 x11_1).f2) _ _ ((rd_T46 l3 x11_1).f3) false _ ?side1 ?side2 ?side3 ?side4 ?side5 ?side6 ?side7 ?side8 ?side9 ?side10 A23.out).mono ?_
                        (case side1 => repeat (first | exact (Kd.C_below HR0.out HB.out) | (with_reducible refine Kd.C_alloc ?_ _) | (with_reducible refine Kd.C_drewN ?_ _) | (with_reducible refine Kd.C_drew ?_)))
                        (case side2 => exact HC0.out)
                        (case side3 => repeat (first | exact (Kd.C_below HR122_2.out HB.out) | (with_reducible refine Kd.C_alloc ?_ _) | (with_reducible refine Kd.C_drewN ?_ _) | (with_reducible refine Kd.C_drew ?_)))
                        (case side4 => exact HC122_2.out)
                        (case side5 => repeat (first | exact (Kd.C_below HR122_3.out HB.out) | (with_reducible refine Kd.C_alloc ?_ _) | (with_reducible refine Kd.C_drewN ?_ _) | (with_reducible refine Kd.C_drew ?_)))
                        (case side6 => exact HC122_3.out)
                        (case side7 => repeat (first | exact (Kd.C_below HR123_2.out HB.out) | (with_reducible refine Kd.C_alloc ?_ _) | (with_reducible refine Kd.C_drewN ?_ _) | (with_reducible refine Kd.C_drew ?_)))
                        (case side8 => exact HC123_2.out)
                        (case side9 => repeat (first | exact (Kd.C_below HR123_3.out HB.out) | (with_reducible refine Kd.C_alloc ?_ _) | (with_reducible refine Kd.C_drewN ?_ _) | (with_reducible refine Kd.C_drew ?_)))
                        (case side10 => exact HC123_3.out)
                        rintro e w28 ⟨rfl, hb⟩
                        refine ⟨_, rfl, ?_⟩
                        have n0_ := Aside0.mk (below_step (by repeat (first | (with_reducible first | exact HB.out | apply below_alloc | apply pw_below_drewN | apply below_drew1) | exact HB.out)) hb)
                        clear HB
                        have HB := n0_
                        clear n0_
                        (try clear hb)
                        (try clear hb2)
                        (try clear hk)
                        (try clear hi)
                        refine hK.out _ _ ⟨((HB.out.cell (World.block_lt_of_cell? w _ hw115_0)).trans hw115_0), ((HB.out.cell (World.block_lt_of_cell? w _ hw115_1)).trans hw115_1), ((HB.out.cell (World.block_lt_of_cell? w _ hw115_2)).trans hw115_2), ((HB.out.cell (World.block_lt_of_cell? w _ hw120_0)).trans hw120_0), ((HB.out.cell (World.block_lt_of_cell? w _ hw120_1)).trans hw120_1), ((HB.out.cell (World.block_lt_of_cell? w _ hw120_2)).trans hw120_2), ((HB.out.cell (World.block_lt_of_cell? w _ hw121_0)).trans hw121_0), ((HB.out.cell (World.block_lt_of_cell? w _ hw121_1)).trans hw121_1), ((HB.out.cell (World.block_lt_of_cell? w _ hw121_2)).trans hw121_2), ((HB.out.cell (World.block_lt_of_cell? w _ hw122_0)).trans hw122_0), ((HB.out.cell (World.block_lt_of_cell? w _ hw122_1)).trans hw122_1), ((HB.out.cell (World.block_lt_of_cell? w _ hw122_2)).trans hw122_2), ((HB.out.cell (World.block_lt_of_cell? w _ hw122_3)).trans hw122_3), ((HB.out.cell (World.block_lt_of_cell? w _ hw123_0)).trans hw123_0), ((HB.out.cell (World.block_lt_of_cell? w _ hw123_1)).trans hw123_1), ((HB.out.cell (World.block_lt_of_cell? w _ hw123_2)).trans hw123_2), ((HB.out.cell (World.block_lt_of_cell? w _ hw123_3)).trans hw123_3)⟩ (fun hHeld => ?_)
                        clear hK K
                        refine norm_ (a' := ?_) ?_ ?_
                        rotate_left
                        · show Act.put _ (some 55) _ = _
                          simp only [Act.put, List.setIfInBounds_toArray, List.set_cons_zero, List.set_cons_succ, i64_w, i32_w]
                          rfl
                        refine pure_ (i := 33) (N := some 56) (v := ?_) (a' := ?_) #[true, true, true, true, true, true, true, true, true, true, true, true, true, true, true, true, true, true, true, true, true, true, true, true, true, true, true, true, true, true, true, true, true, true, false] rfl rfl (any_of HT_.out (by kernel_rfl)) (fun _ _ _ h => h) (Or.inl ⟨by rfl, ?_⟩) ?_ ?_
                        rotate_left
                        · intro w'
                          go_simp
                          with_reducible rfl
                        rotate_left
                        · simp only [Act.put, List.setIfInBounds_toArray, List.set_cons_zero, List.set_cons_succ, i64_w, i32_w]
                          rfl
                        refine pure_ (i := 34) (N := some 57) (v := ?_) (a' := ?_) #[true, true, true, true, true, true, true, true, true, true, true, true, true, true, true, true, true, true, true, true, true, true, true, true, true, true, true, true, true, true, true, true, true, true, true] rfl rfl (any_of HT_.out (by kernel_rfl)) (fun _ _ _ h => h) (Or.inl ⟨by rfl, ?_⟩) ?_ ?_
                        rotate_left
                        · intro w'
                          go_simp
                          with_reducible rfl
                        rotate_left
                        · simp only [Act.put, List.setIfInBounds_toArray, List.set_cons_zero, List.set_cons_succ, i64_w, i32_w]
                          rfl
                        refine done_ (done_of HT_.out (by kernel_rfl)) ?_
                        try go_wp2
                        go_ret
                        exact ⟨by first | rfl | (simp [errW_none, errW_some] <;> rfl) | (simp [*, errW_none, errW_some] <;> rfl), by repeat (first | (with_reducible first | exact HB.out | apply below_alloc | apply pw_below_drewN | apply below_drew1) | exact HB.out)⟩
                    · rw [if_neg c22] at H
                      exact absurd H (by simp)
            · rw [if_neg c9] at H
              exact absurd H (by simp)
          · rw [if_neg c8] at H
            exact absurd H (by simp)
        · rw [if_neg c7] at H
          have c7b0 : decide (x11_1 < (l3.length : Int)) = false := decide_eq_false c7
          clear c7
          obtain rfl := Option.some.inj H
          go_wp2
          go_ret
          exact ⟨by first | rfl | (simp [errW_none, errW_some] <;> rfl) | (simp [*, errW_none, errW_some] <;> rfl), by repeat (first | (with_reducible first | exact HB.out | apply below_alloc | apply pw_below_drewN | apply below_drew1) | exact HB.out)⟩
  · rw [if_neg c6] at H
    have c6b0 : ((l2.length : Int) == (l3.length : Int)) = false := beq_eq_false_iff_ne.mpr c6
    have c6b1 : ((l2.length : Int) != (l3.length : Int)) = true := bne_iff_ne.mpr c6
    have c6b2 : (l2.length == l3.length) = false := by first | simpa using c6 | (simp at c6 ⊢; omega)
    obtain rfl := Option.some.inj H
    go_enter Try.func28, Try.ntmps28
    go_wp2
    go_ret
    exact ⟨by first | rfl | (simp [errW_none, errW_some] <;> rfl) | (simp [*, errW_none, errW_some] <;> rfl), by repeat (first | (with_reducible first | exact HB.out | apply below_alloc | apply pw_below_drewN | apply below_drew1) | exact HB.out)⟩
end Go.Proofs.Ytjlcebgfknfelaa.QFnTreesAgree

namespace Go.Proofs.Ytjlcebgfknfelaa.Hk
open Go Go.RowKit
theorem Fr.into {Z Z' : Nat → Prop} {a w : World} (h : Fr Z a w) (hs : ∀ n, Z n → Z' n) : Fr Z' a w := h.mono (fun n _ q => hs n q)
theorem Fr.then {Z : Nat → Prop} {a b c : World} (h : Fr Z a b) (k : Fr Z b c) : Fr Z a c := h.trans k (fun _ _ q => q)
theorem Fr.drewN {Z : Nat → Prop} {a w : World} (h : Fr Z a w) (n : Nat) : Fr Z a (w.drewN n) := ⟨h.os, h.tape, h.output, h.size, h.block⟩
theorem Fr.one {w : World} {b i : Nat} {v : Value} : Fr (· = b) w (w.setCell ⟨b, i, none⟩ v) := Fr.setCell (S := (· = b)) (Fr.refl _ _) (p := ⟨b, i, none⟩) (fun _ => rfl) _
theorem Fr.new {Z : Nat → Prop} {w w' : World} (h : Below w.heap.size w w') : Fr Z w w' := ⟨h.os, h.tape, h.output, h.size, fun k hk _ => h.block k hk⟩
/-- A frame whose blocks are all from 'base' on, or new. -/
theorem Fr.under {Z : Nat → Prop} {w w' : World} (h : Fr Z w w') (base : Nat) (hb : base ≤ w.heap.size) (hZ : ∀ k, Z k → base ≤ k) : Below base w w' := h.below hb hZ
theorem Blk.drewN {w : World} {b : Nat} {cs : Array Value} {t : TypeId} (h : Blk w b cs t) (n : Nat) : Blk (w.drewN n) b cs t := h
theorem below_dN {base : Nat} {a w : World} (h : Below base a w) (n : Nat) : Below base a (w.drewN n) := ⟨h.os, h.tape, h.output, h.size, h.block⟩
theorem hid {p : Prop} (h : p) : Hid p := h
theorem alloc_size (w : World) (o : Obj) : (w.alloc o).heap.size = w.heap.size + 1 := by simp
end Go.Proofs.Ytjlcebgfknfelaa.Hk

namespace Go.Proofs.Ytjlcebgfknfelaa.BtPure
/-- An entry of a leaf: a key, a value, and whether it is there. -/
abbrev E := Int × Int × Bool
/-- A tree of so many levels above its leaves. -/
def T : Nat → Type
  | 0 => List E
  | h + 1 => List (Int × T h)
def T.len : (h : Nat) → T h → Nat
  | 0, (es : List E) => es.length
  | _ + 1, (cs : List (Int × T _)) => cs.length
/-- The first key that a node tells. -/
def T.first : (h : Nat) → T h → Int
  | 0, (es : List E) => (es.map (·.1)).headD 0
  | _ + 1, (cs : List (Int × T _)) => (cs.map (·.1)).headD 0
def T.flat : (h : Nat) → T h → List E
  | 0, (es : List E) => es
  | h + 1, (cs : List (Int × T h)) => cs.flatMap (fun c => T.flat h c.2)
def cutL {α : Type} (l : List α) : List α × Option (List α) := if l.length < 64 then (l, none) else (l.take 32, some (l.drop 32))
section
variable (r : Int → Int)
/-- An entry put into a row that rises. -/
def insL (k v : Int) (ok : Bool) : List E → List E
  | [] => [(k, v, ok)]
  | e :: l => if r k = r e.1 then (e.1, v, ok) :: l else if r k < r e.1 then (k, v, ok) :: e :: l else e :: insL k v ok l
/-- A step of an inner node: f of the part in which a key has its place. -/
def insC {α : Type} (f : α → α × Option α) (fst : α → Int) (k : Int) : List (Int × α) → List (Int × α)
  | [] => []
  | [c] => (c.1, (f c.2).1) :: ((f c.2).2.map (fun u => (fst u, u))).toList
  | c :: c' :: l => if r k < r c'.1 then (c.1, (f c.2).1) :: (((f c.2).2.map (fun u => (fst u, u))).toList ++ c' :: l) else c :: insC f fst k (c' :: l)
def T.ins (k v : Int) (ok : Bool) : (h : Nat) → T h → T h × Option (T h)
  | 0, (es : List E) => cutL (insL r k v ok es)
  | h + 1, (cs : List (Int × T h)) => cutL (insC r (T.ins k v ok h) (T.first h) k cs)
/-- The part in which a key has its place. -/
def pick {α : Type} (k : Int) : List (Int × α) → Option α
  | [] => none
  | [c] => some c.2
  | c :: c' :: l => if r k < r c'.1 then some c.2 else pick k (c' :: l)
def findL (k : Int) (l : List E) : Option E := l.find? (fun e => decide (r k = r e.1))
def T.find (k : Int) : (h : Nat) → T h → Option E
  | 0, (es : List E) => findL r k es
  | h + 1, (cs : List (Int × T h)) => (pick r k cs).bind (fun t => T.find k h t)
def tell (o : Option E) : Int × Bool := match o with
  | none => (0, false)
  | some e => e.2
def Up (l : List E) : Prop := l.Pairwise (fun a b => r a.1 < r b.1)
variable {r} {k v : Int} {ok : Bool}
theorem insL_high : ∀ {a b : List E}, (∀ x ∈ a, r x.1 < r k) → insL r k v ok (a ++ b) = a ++ insL r k v ok b
  | [], _, _ => rfl
  | e :: a, b, h => by
    have h1 := h e List.mem_cons_self
    show insL r k v ok (e :: (a ++ b)) = e :: (a ++ insL r k v ok b)
    rw [insL, if_neg (by omega), if_neg (by omega), insL_high (fun x hx => h x (List.mem_cons_of_mem _ hx))]
theorem insL_low : ∀ {a b : List E}, (∀ x ∈ b, r k < r x.1) → insL r k v ok (a ++ b) = insL r k v ok a ++ b
  | [], [], _ => rfl
  | [], e :: b, h => by
    have h1 := h e List.mem_cons_self
    show insL r k v ok (e :: b) = (k, v, ok) :: e :: b
    rw [insL, if_neg (by omega), if_pos h1]
  | e :: a, b, h => by
    show insL r k v ok (e :: (a ++ b)) = insL r k v ok (e :: a) ++ b
    rw [insL, insL]
    split
    · rfl
    · split
      · rfl
      · rw [insL_low h]; rfl
theorem mem_insL : ∀ {l : List E} {x : E}, x ∈ insL r k v ok l → r x.1 = r k ∨ x ∈ l
  | [], x, h => by rw [insL, List.mem_singleton] at h; subst h; exact .inl rfl
  | e :: l, x, h => by
    rw [insL] at h
    split at h
    · rename_i q
      rcases List.mem_cons.1 h with rfl | h
      · exact .inl q.symm
      · exact .inr (List.mem_cons_of_mem _ h)
    · split at h
      · rcases List.mem_cons.1 h with rfl | h
        · exact .inl rfl
        · exact .inr h
      · rcases List.mem_cons.1 h with rfl | h
        · exact .inr List.mem_cons_self
        · exact (mem_insL h).imp id (List.mem_cons_of_mem _)
theorem up_insL : ∀ {l : List E}, Up r l → Up r (insL r k v ok l)
  | [], _ => List.pairwise_singleton _ _
  | e :: l, h => by
    obtain ⟨h1, h2⟩ := List.pairwise_cons.1 h
    rw [insL]
    split
    · exact List.pairwise_cons.2 ⟨h1, h2⟩
    · split
      · rename_i q q2
        refine List.pairwise_cons.2 ⟨fun x hx => ?_, h⟩
        rcases List.mem_cons.1 hx with rfl | hx
        · exact q2
        · have := h1 x hx; show r k < r x.1; omega
      · rename_i q q2
        refine List.pairwise_cons.2 ⟨fun x hx => ?_, up_insL h2⟩
        rcases mem_insL hx with e1 | hx
        · rw [e1]; omega
        · exact h1 x hx
theorem len_insL : ∀ {l : List E}, (insL r k v ok l).length ≤ l.length + 1 ∧ l.length ≤ (insL r k v ok l).length ∧ 1 ≤ (insL r k v ok l).length
  | [] => by simp [insL]
  | e :: l => by
    have := @len_insL l
    rw [insL]
    split
    · simp
    · split
      · simp
      · simp only [List.length_cons]; omega
theorem findL_high {a b : List E} (h : ∀ x ∈ a, r x.1 < r k) : findL r k (a ++ b) = findL r k b := by
  unfold findL
  rw [List.find?_append, List.find?_eq_none.2 (fun x hx => by have := h x hx; simp; omega)]
  rfl
theorem findL_low {a b : List E} (h : ∀ x ∈ b, r k < r x.1) : findL r k (a ++ b) = findL r k a := by
  unfold findL
  have hb : List.find? (fun e : E => decide (r k = r e.1)) b = none := List.find?_eq_none.2 (fun x hx => by have := h x hx; simp; omega)
  rw [List.find?_append, hb]
  cases List.find? (fun e : E => decide (r k = r e.1)) a <;> rfl
/-- Below each key but the first one's all that stands ahead; from it on all of its part. -/
def Ch {h : Nat} (r : Int → Int) : List (Int × T h) → Prop
  | [] => True
  | [_] => True
  | c :: c' :: l => (∀ x ∈ T.flat h c.2, r x.1 < r c'.1) ∧ (∀ x ∈ T.flat h c'.2, r c'.1 ≤ r x.1) ∧ Ch r (c' :: l)
def flatC {h : Nat} (cs : List (Int × T h)) : List E := cs.flatMap (fun c => T.flat h c.2)
theorem flatC_cons {h : Nat} (c : Int × T h) (cs : List (Int × T h)) : flatC (c :: cs) = T.flat h c.2 ++ flatC cs := List.flatMap_cons ..
theorem flatC_app {h : Nat} (a b : List (Int × T h)) : flatC (a ++ b) = flatC a ++ flatC b := List.flatMap_append ..
/-- A tree, but for how many entries its root has. -/
def Row (r : Int → Int) : (h : Nat) → T h → Prop
  | 0, (es : List E) => Up r es
  | h + 1, (cs : List (Int × T h)) => (∀ c ∈ cs, Row r h c.2 ∧ T.len h c.2 ≤ 63 ∧ 1 ≤ T.len h c.2) ∧ Ch r cs
theorem some_flat : ∀ {h : Nat} {t : T h}, Row r h t → 1 ≤ T.len h t → ∃ x, x ∈ T.flat h t
  | 0, [], _, hl => absurd hl (by simp [T.len])
  | 0, x :: _, _, _ => ⟨x, List.mem_cons_self⟩
  | h + 1, [], _, hl => absurd hl (by simp [T.len])
  | h + 1, c :: cs, hR, _ => by
    have hc := hR.1 c List.mem_cons_self
    obtain ⟨x, hx⟩ := some_flat hc.1 hc.2.2
    exact ⟨x, by show x ∈ flatC (c :: cs); rw [flatC_cons]; exact List.mem_append_left _ hx⟩
section
variable {h : Nat}
abbrev Part (r : Int → Int) (c : Int × T h) : Prop := Row r h c.2 ∧ T.len h c.2 ≤ 63 ∧ 1 ≤ T.len h c.2
theorem ch_tail {c : Int × T h} {l : List (Int × T h)} (H : Ch r (c :: l)) : Ch r l := by
  cases l with
  | nil => trivial
  | cons c' l => exact H.2.2
/-- From a lower bound on, all the way. -/
theorem ch_low {lo : Int} : ∀ {l : List (Int × T h)} {c : Int × T h}, Ch r (c :: l) → (∀ d ∈ c :: l, Part r d) → (∀ x ∈ T.flat h c.2, lo ≤ r x.1) → ∀ x ∈ flatC (c :: l), lo ≤ r x.1
  | [], c, _, _, hc, x, hx => by
    rw [flatC_cons] at hx
    simp only [flatC, List.flatMap_nil, List.append_nil] at hx
    exact hc x hx
  | c' :: l, c, H, hp, hc, x, hx => by
    rw [flatC_cons] at hx
    rcases List.mem_append.1 hx with hx | hx
    · exact hc x hx
    · obtain ⟨y, hy⟩ := some_flat (hp c List.mem_cons_self).1 (hp c List.mem_cons_self).2.2
      have h1 := hc y hy
      have h2 := H.1 y hy
      exact ch_low H.2.2 (fun d hd => hp d (List.mem_cons_of_mem _ hd)) (fun z hz => by have := H.2.1 z hz; omega) x hx
/-- Below a key all that stands ahead. -/
theorem ch_high : ∀ {a : List (Int × T h)} {d : Int × T h} {b : List (Int × T h)}, Ch r (a ++ d :: b) → (∀ c ∈ a ++ d :: b, Part r c) → ∀ x ∈ flatC a, r x.1 < r d.1
  | [], _, _, _, _, x, hx => by simp [flatC] at hx
  | [c], d, b, H, _, x, hx => by
    simp only [flatC, List.flatMap_cons, List.flatMap_nil, List.append_nil] at hx
    exact H.1 x hx
  | c :: c' :: a, d, b, H, hp, x, hx => by
    rw [flatC_cons] at hx
    have ih := ch_high (a := c' :: a) (d := d) (b := b) H.2.2 (fun z hz => hp z (List.mem_cons_of_mem _ hz))
    rcases List.mem_append.1 hx with hx | hx
    · obtain ⟨y, hy⟩ := some_flat (hp c' (by simp)).1 (hp c' (by simp)).2.2
      have h1 := H.1 x hx
      have h2 := H.2.1 y hy
      have h3 := ih y (by rw [flatC_cons]; exact List.mem_append_left _ hy)
      omega
    · exact ih x hx
theorem ch_app : ∀ {a b : List (Int × T h)}, Ch r (a ++ b) → Ch r a ∧ Ch r b
  | [], _, H => ⟨trivial, H⟩
  | [c], b, H => ⟨trivial, ch_tail H⟩
  | c :: c' :: a, b, H => by
    have := ch_app (a := c' :: a) (b := b) H.2.2
    exact ⟨⟨H.1, H.2.1, this.1⟩, this.2⟩
end
/-- What an insertion into a part tells: the part, and perhaps a second one behind it. -/
structure Made (r : Int → Int) (k v : Int) (ok : Bool) (h : Nat) (t : T h) (p : T h × Option (T h)) : Prop where
  one : Row r h p.1 ∧ T.len h p.1 ≤ 63 ∧ 1 ≤ T.len h p.1
  none_ : p.2 = none → T.flat h p.1 = insL r k v ok (T.flat h t)
  some_ : ∀ u, p.2 = some u → (Row r h u ∧ T.len h u ≤ 63 ∧ 1 ≤ T.len h u) ∧ T.flat h p.1 ++ T.flat h u = insL r k v ok (T.flat h t) ∧ (∀ x ∈ T.flat h p.1, r x.1 < r (T.first h u)) ∧ (∀ x ∈ T.flat h u, r (T.first h u) ≤ r x.1)
theorem Made.mem {h : Nat} {t : T h} {p : T h × Option (T h)} (m : Made r k v ok h t p) : (∀ x ∈ T.flat h p.1, r x.1 = r k ∨ x ∈ T.flat h t) ∧ ∀ u, p.2 = some u → ∀ x ∈ T.flat h u, r x.1 = r k ∨ x ∈ T.flat h t := by
  refine ⟨fun x hx => ?_, fun u hu x hx => ?_⟩
  · cases q : p.2 with
    | none => rw [m.none_ q] at hx; exact mem_insL hx
    | some u => exact mem_insL (by rw [← (m.some_ u q).2.1]; exact List.mem_append_left _ hx)
  · exact mem_insL (by rw [← (m.some_ u hu).2.1]; exact List.mem_append_right _ hx)
section
variable {h : Nat} {f : T h → T h × Option (T h)}
abbrev parts (f : T h → T h × Option (T h)) (c : Int × T h) : List (Int × T h) := (c.1, (f c.2).1) :: ((f c.2).2.map (fun u => (T.first h u, u))).toList
theorem parts_ok {c : Int × T h} (m : Made r k v ok h c.2 (f c.2)) : (∀ d ∈ parts f c, Part r d) ∧ Ch r (parts f c) ∧ flatC (parts f c) = insL r k v ok (T.flat h c.2) ∧ (parts f c).length ≤ 2 := by
  unfold parts
  cases q : (f c.2).2 with
  | none =>
    refine ⟨fun d hd => ?_, trivial, ?_, by simp⟩
    · simp only [Option.map_none, Option.toList_none, List.mem_singleton] at hd
      subst hd; exact m.one
    · simpa [flatC] using m.none_ q
  | some u =>
    obtain ⟨h1, h2, h3, h4⟩ := m.some_ u q
    refine ⟨fun d hd => ?_, ⟨h3, h4, trivial⟩, ?_, by simp⟩
    · simp only [Option.map_some, Option.toList_some, List.mem_cons, List.not_mem_nil, or_false] at hd
      rcases hd with rfl | rfl
      · exact m.one
      · exact h1
    · simpa [flatC] using h2
/-- Parts of one, and then the others. -/
theorem parts_ch {c c' : Int × T h} {l : List (Int × T h)} (m : Made r k v ok h c.2 (f c.2)) (H : Ch r (c :: c' :: l)) (hk : r k < r c'.1) : Ch r (parts f c ++ c' :: l) := by
  have hm := m.mem
  have lt : ∀ x, (r x.1 = r k ∨ x ∈ T.flat h c.2) → r x.1 < r c'.1 := fun x hx => by
    rcases hx with e | hx
    · omega
    · exact H.1 x hx
  unfold parts
  cases q : (f c.2).2 with
  | none => exact ⟨fun x hx => lt x (hm.1 x hx), H.2⟩
  | some u =>
    obtain ⟨h1, h2, h3, h4⟩ := m.some_ u q
    exact ⟨h3, h4, fun x hx => lt x (hm.2 u q x hx), H.2⟩
theorem insC_ok (hf : ∀ c : Int × T h, Part r c → Made r k v ok h c.2 (f c.2)) : ∀ (cs : List (Int × T h)), cs ≠ [] → (∀ c ∈ cs, Part r c) → Ch r cs →
    (∀ c ∈ insC r f (T.first h) k cs, Part r c) ∧ Ch r (insC r f (T.first h) k cs) ∧ flatC (insC r f (T.first h) k cs) = insL r k v ok (flatC cs) ∧ (insC r f (T.first h) k cs).length ≤ cs.length + 1 ∧
      (∃ c t l, cs.head? = some c ∧ insC r f (T.first h) k cs = (c.1, t) :: l ∧ ∀ x ∈ T.flat h t, r x.1 = r k ∨ x ∈ T.flat h c.2)
  | [], hne, _, _ => absurd rfl hne
  | [c], _, hp, hc => by
    have m := hf c (hp c List.mem_cons_self)
    obtain ⟨p1, p2, p3, p4⟩ := parts_ok m
    refine ⟨p1, p2, ?_, p4, c, _, _, rfl, rfl, m.mem.1⟩
    show flatC (parts f c) = _
    rw [p3, flatC_cons]
    simp [flatC]
  | c :: c' :: l, _, hp, hc => by
    have m := hf c (hp c List.mem_cons_self)
    rw [insC]
    by_cases q : r k < r c'.1
    · rw [if_pos q]
      obtain ⟨p1, p2, p3, p4⟩ := parts_ok m
      have e : (c.1, (f c.2).1) :: (((f c.2).2.map (fun u => (T.first h u, u))).toList ++ c' :: l) = parts f c ++ c' :: l := rfl
      rw [e]
      refine ⟨fun d hd => ?_, parts_ch m hc q, ?_, by rw [List.length_append]; simp only [List.length_cons]; simp only [List.length_cons] at p4; omega, c, _, _, rfl, rfl, m.mem.1⟩
      · rcases List.mem_append.1 hd with hd | hd
        · exact p1 d hd
        · exact hp d (List.mem_cons_of_mem _ hd)
      · rw [flatC_app, p3, flatC_cons c]
        refine (insL_low (fun x hx => ?_)).symm
        have := ch_low hc.2.2 (fun d hd => hp d (List.mem_cons_of_mem _ hd)) hc.2.1 x hx
        omega
    · rw [if_neg q]
      obtain ⟨i1, i2, i3, i4, c0, t, l', e0, e1, e2⟩ := insC_ok hf (c' :: l) (by simp) (fun d hd => hp d (List.mem_cons_of_mem _ hd)) hc.2.2
      obtain rfl : c' = c0 := by simpa using e0
      refine ⟨fun d hd => ?_, ?_, ?_, by simp only [List.length_cons] at i4 ⊢; omega, c, c.2, _, rfl, rfl, fun x hx => .inr hx⟩
      · rcases List.mem_cons.1 hd with rfl | hd
        · exact hp _ List.mem_cons_self
        · exact i1 d hd
      · rw [e1] at i2 ⊢
        refine ⟨hc.1, fun x hx => ?_, i2⟩
        rcases e2 x hx with e | hx
        · show r c'.1 ≤ r x.1; omega
        · exact hc.2.1 x hx
      · rw [flatC_cons, i3, flatC_cons c]
        exact (insL_high (fun x hx => by have := hc.1 x hx; omega)).symm
end
theorem cut_leaf {es : List E} (hu : Up r es) (h1 : es.length ≤ 64) (h2 : 1 ≤ es.length) :
    (Up r (cutL es).1 ∧ (cutL es).1.length ≤ 63 ∧ 1 ≤ (cutL es).1.length) ∧ ((cutL es).2 = none → (cutL es).1 = es) ∧
      ∀ u, (cutL es).2 = some u → (Up r u ∧ u.length ≤ 63 ∧ 1 ≤ u.length) ∧ (cutL es).1 ++ u = es ∧ (∀ x ∈ (cutL es).1, r x.1 < r ((u.map (·.1)).headD 0)) ∧ ∀ x ∈ u, r ((u.map (·.1)).headD 0) ≤ r x.1 := by
  unfold cutL
  by_cases q : es.length < 64
  · rw [if_pos q]
    exact ⟨⟨hu, by show es.length ≤ 63; omega, h2⟩, fun _ => rfl, fun u hu => by cases hu⟩
  · rw [if_neg q]
    have e : es.take 32 ++ es.drop 32 = es := List.take_append_drop 32 es
    have hu' := hu
    unfold Up at hu'
    rw [← e] at hu'
    obtain ⟨a1, a2, a3⟩ := List.pairwise_append.1 hu'
    have l1 : (es.take 32).length = 32 := by rw [List.length_take]; omega
    have l2 : (es.drop 32).length = 32 := by rw [List.length_drop]; omega
    refine ⟨⟨a1, by show (es.take 32).length ≤ 63; omega, by show 1 ≤ (es.take 32).length; omega⟩, fun h => (by cases h), fun u hu => ?_⟩
    obtain rfl : es.drop 32 = u := Option.some.inj hu
    refine ⟨⟨a2, by omega, by omega⟩, e, ?_⟩
    generalize es.drop 32 = b at a2 a3 l2
    cases b with
    | nil => simp at l2
    | cons y b =>
      refine ⟨fun x hx => a3 x hx y List.mem_cons_self, fun x hx => ?_⟩
      rcases List.mem_cons.1 hx with rfl | hx
      · exact Int.le_refl _
      · exact Int.le_of_lt ((List.pairwise_cons.1 a2).1 x hx)
theorem cut_inner {h : Nat} {cs : List (Int × T h)} (hp : ∀ c ∈ cs, Part r c) (hc : Ch r cs) (h1 : cs.length ≤ 64) (h2 : 1 ≤ cs.length) :
    (Row r (h + 1) (cutL cs).1 ∧ (cutL cs).1.length ≤ 63 ∧ 1 ≤ (cutL cs).1.length) ∧ ((cutL cs).2 = none → (cutL cs).1 = cs) ∧
      ∀ u, (cutL cs).2 = some u → (Row r (h + 1) u ∧ u.length ≤ 63 ∧ 1 ≤ u.length) ∧ (cutL cs).1 ++ u = cs ∧ (∀ x ∈ flatC (cutL cs).1, r x.1 < r ((u.map (·.1)).headD 0)) ∧ ∀ x ∈ flatC u, r ((u.map (·.1)).headD 0) ≤ r x.1 := by
  unfold cutL
  by_cases q : cs.length < 64
  · rw [if_pos q]
    exact ⟨⟨⟨hp, hc⟩, by show cs.length ≤ 63; omega, h2⟩, fun _ => rfl, fun u hu => by cases hu⟩
  · rw [if_neg q]
    have e : cs.take 32 ++ cs.drop 32 = cs := List.take_append_drop 32 cs
    have l1 : (cs.take 32).length = 32 := by rw [List.length_take]; omega
    have l2 : (cs.drop 32).length = 32 := by rw [List.length_drop]; omega
    have hc' := hc
    have hp' := hp
    rw [← e] at hc' hp'
    obtain ⟨a1, a2⟩ := ch_app hc'
    refine ⟨⟨⟨fun c hm => hp' c (List.mem_append_left _ hm), a1⟩, by show (cs.take 32).length ≤ 63; omega, by show 1 ≤ (cs.take 32).length; omega⟩, fun h => (by cases h), fun u hu => ?_⟩
    obtain rfl : cs.drop 32 = u := Option.some.inj hu
    refine ⟨⟨⟨fun c hm => hp' c (List.mem_append_right _ hm), a2⟩, by omega, by omega⟩, e, ?_⟩
    generalize cs.take 32 = a at hc' hp' l1
    generalize cs.drop 32 = b at hc' hp' a2 l2
    cases b with
    | nil => simp at l2
    | cons y b =>
      refine ⟨ch_high hc' hp', ch_low a2 (fun d hd => hp' d (List.mem_append_right _ hd)) (fun x hx => ?_)⟩
      -- the last one ahead
      have : ∀ (a : List (Int × T h)), a ≠ [] → Ch r (a ++ y :: b) → ∀ x ∈ T.flat h y.2, r y.1 ≤ r x.1 := by
        intro a
        induction a with
        | nil => exact fun hne => absurd rfl hne
        | cons c a ih =>
          intro _ H
          cases a with
          | nil => exact H.2.1
          | cons c' a => exact ih (by simp) H.2.2
      exact this a (by intro e; rw [e] at l1; simp at l1) hc' x hx
theorem ins_made : ∀ {h : Nat} {t : T h}, Row r h t → T.len h t ≤ 63 → (h ≠ 0 → 1 ≤ T.len h t) → Made r k v ok h t (T.ins r k v ok h t)
  | 0, es, hR, hl, _ => by
    have hn := @len_insL r k v ok es
    have hl' : es.length ≤ 63 := hl
    obtain ⟨c1, c2, c3⟩ := cut_leaf (up_insL (k := k) (v := v) (ok := ok) hR) (by omega) (by omega)
    exact ⟨c1, c2, c3⟩
  | h + 1, cs, hR, hl, h1 => by
    have hl' : cs.length ≤ 63 := hl
    have h1' : 1 ≤ cs.length := h1 (by omega)
    obtain ⟨hp, hc⟩ := hR
    obtain ⟨i1, i2, i3, i4, c0, t, l', e0, e1, e2⟩ := insC_ok (f := T.ins r k v ok h) (r := r) (k := k) (v := v) (ok := ok) (fun c hc => ins_made hc.1 hc.2.1 (fun _ => hc.2.2)) cs (by intro e; rw [e] at h1'; simp at h1') hp hc
    have h2 : 1 ≤ (insC r (T.ins r k v ok h) (T.first h) k cs).length := by rw [e1]; simp
    obtain ⟨c1, c2, c3⟩ := cut_inner i1 i2 (by omega) h2
    refine ⟨c1, fun q => ?_, fun u q => ?_⟩
    · show flatC (cutL _).1 = insL r k v ok (flatC cs)
      rw [c2 q, i3]
    · obtain ⟨d1, d2, d3, d4⟩ := c3 u q
      exact ⟨d1, (flatC_app _ _).symm.trans ((congrArg flatC d2).trans i3), d3, d4⟩
theorem pick_some {α : Type} : ∀ {cs : List (Int × α)}, cs ≠ [] → ∃ c ∈ cs, pick r k cs = some c.2
  | [], h => absurd rfl h
  | [c], _ => ⟨c, by simp, rfl⟩
  | c :: c' :: l, _ => by
    rw [pick]
    split
    · exact ⟨c, by simp, rfl⟩
    · obtain ⟨d, hd, e⟩ := pick_some (cs := c' :: l) (by simp)
      exact ⟨d, List.mem_cons_of_mem _ hd, e⟩
theorem find_flat : ∀ {h : Nat} {t : T h}, Row r h t → T.find r k h t = findL r k (T.flat h t)
  | 0, _, _ => rfl
  | h + 1, cs, hR => by
    obtain ⟨hp, hc⟩ := hR
    show (pick r k cs).bind (fun t => T.find r k h t) = findL r k (flatC cs)
    revert hp hc
    induction cs with
    | nil => exact fun _ _ => rfl
    | cons c l ih =>
      intro hp hc
      have hp' : ∀ d ∈ l, Part r d := fun d hd => hp d (List.mem_cons_of_mem _ hd)
      have h0 := find_flat (hp c List.mem_cons_self).1
      cases l with
      | nil =>
        show T.find r k h c.2 = _
        rw [h0, flatC_cons]
        simp [flatC]
      | cons c' l =>
        rw [pick, flatC_cons]
        by_cases q : r k < r c'.1
        · rw [if_pos q]
          show T.find r k h c.2 = _
          rw [h0]
          refine (findL_low (fun x hx => ?_)).symm
          have := ch_low hc.2.2 hp' hc.2.1 x hx
          omega
        · rw [if_neg q, ih hp' hc.2.2]
          exact (findL_high (fun x hx => by have := hc.1 x hx; omega)).symm
end
end Go.Proofs.Ytjlcebgfknfelaa.BtPure

namespace Go.Proofs.Ytjlcebgfknfelaa.Bt
open Go Go.RowKit Go.IntWalk Go.Proofs.Ytjlcebgfknfelaa.Hk Go.Proofs.Ytjlcebgfknfelaa.BtPure Go.Proofs.YtjlcebgfknfelaaW.PrintWords Go.Proofs.YtjlcebgfknfelaaW.PrintLast Go.Proofs.YtjlcebgfknfelaaW.PrintMore
/-- What an entry's cells hold. -/
structure Q where
  k : Int
  v : Int
  ok : Bool
  p : Option Addr
def Q.cell (q : Q) : Nat → Value
  | 0 => .int .i64 q.k
  | 1 => .int .i64 q.v
  | 2 => .bool q.ok
  | _ => .pointer q.p
def q0 : Q := ⟨0, 0, false, none⟩
/-- The cells of a node. -/
def cellsA (m : Int) (g : Nat → Q) : Array Value := Array.ofFn (n := 257) fun i => if i.1 = 0 then .int .i64 m else (g ((i.1 - 1) / 4)).cell ((i.1 - 1) % 4)
/-- .. of its array alone. -/
def arrC (g : Nat → Q) : Array Value := Array.ofFn (n := 256) fun i => (g (i.1 / 4)).cell (i.1 % 4)
theorem cells_size (m : Int) (g : Nat → Q) : (cellsA m g).size = 257 := Array.size_ofFn
theorem arr_size (g : Nat → Q) : (arrC g).size = 256 := Array.size_ofFn
theorem cells_zero (m : Int) (g : Nat → Q) : (cellsA m g)[0]? = some (.int .i64 m) := by
  unfold cellsA
  rw [Array.getElem?_ofFn, dif_pos (by omega)]
  rfl
theorem cells_at (m : Int) (g : Nat → Q) (x f : Nat) (hx : x < 64) (hf : f < 4) : (cellsA m g)[4 * x + f + 1]? = some ((g x).cell f) := by
  unfold cellsA
  rw [Array.getElem?_ofFn, dif_pos (by omega)]
  simp only [Nat.add_sub_cancel]
  rw [if_neg (by omega), show (4 * x + f) / 4 = x by omega, show (4 * x + f) % 4 = f by omega]
theorem arr_at (g : Nat → Q) (x f : Nat) (hx : x < 64) (hf : f < 4) : (arrC g)[4 * x + f]? = some ((g x).cell f) := by
  unfold arrC
  rw [Array.getElem?_ofFn, dif_pos (by omega)]
  simp only []
  rw [show (4 * x + f) / 4 = x by omega, show (4 * x + f) % 4 = f by omega]
theorem cells_arr (m : Int) (g : Nat → Q) (j : Nat) (hj : j < 256) : (cellsA m g)[j + 1]? = (arrC g)[j]? := by
  have h1 := cells_at m g (j / 4) (j % 4) (by omega) (by omega)
  have h2 := arr_at g (j / 4) (j % 4) (by omega) (by omega)
  rw [show 4 * (j / 4) + j % 4 = j by omega] at h1 h2
  rw [h1, h2]
def upd (g : Nat → Q) (x : Nat) (q : Q) : Nat → Q := fun y => if y = x then q else g y
/-- One cell of an entry is stored. -/
theorem cells_set (m : Int) (g : Nat → Q) (x f : Nat) (v : Value) (q : Q) (hx : x < 64) (hf : f < 4) (hv : q.cell f = v) (ho : ∀ i, i < 4 → i ≠ f → q.cell i = (g x).cell i) :
    (cellsA m g).setIfInBounds (4 * x + f + 1) v = cellsA m (upd g x q) := by
  apply Array.ext_getElem?
  intro i
  by_cases hi : i < 257
  · cases i with
    | zero => rw [Array.getElem?_setIfInBounds_ne (by omega), cells_zero, cells_zero]
    | succ j =>
      have h2 := cells_at m (upd g x q) (j / 4) (j % 4) (by omega) (by omega)
      have h1 := cells_at m g (j / 4) (j % 4) (by omega) (by omega)
      rw [show 4 * (j / 4) + j % 4 = j by omega] at h1 h2
      by_cases e : j = 4 * x + f
      · subst e
        rw [Array.getElem?_setIfInBounds_self_of_lt (by rw [cells_size]; omega), h2, show (4 * x + f) / 4 = x by omega, show (4 * x + f) % 4 = f by omega]
        simp [upd, hv]
      · rw [Array.getElem?_setIfInBounds_ne (by omega), h1, h2]
        by_cases e2 : j / 4 = x
        · subst e2
          simp only [upd, if_true]
          rw [ho (j % 4) (by omega) (by omega)]
        · simp [upd, e2]
  · rw [Array.getElem?_eq_none (by rw [Array.size_setIfInBounds, cells_size]; omega), Array.getElem?_eq_none (by rw [cells_size]; omega)]
theorem cells_setm (m m' : Int) (g : Nat → Q) : (cellsA m g).setIfInBounds 0 (.int .i64 m') = cellsA m' g := by
  apply Array.ext_getElem?
  intro i
  by_cases hi : i < 257
  · cases i with
    | zero => rw [Array.getElem?_setIfInBounds_self_of_lt (by rw [cells_size]; omega), cells_zero]
    | succ j =>
      have h1 := cells_at m g (j / 4) (j % 4) (by omega) (by omega)
      have h2 := cells_at m' g (j / 4) (j % 4) (by omega) (by omega)
      rw [show 4 * (j / 4) + j % 4 = j by omega] at h1 h2
      rw [Array.getElem?_setIfInBounds_ne (by omega), h1, h2]
  · rw [Array.getElem?_eq_none (by rw [Array.size_setIfInBounds, cells_size]; omega), Array.getElem?_eq_none (by rw [cells_size]; omega)]
/-- A node in memory: how many entries it has, and what its places hold. -/
def Nd (w : World) (b : Nat) (m : Int) (g : Nat → Q) : Prop := Blk w b (cellsA m g) 113
section
variable {w : World} {b : Nat} {m : Int} {g : Nat → Q}
theorem Nd.lt (h : Nd w b m g) : b < w.heap.size := Blk.lt h
theorem Nd.m0 (h : Nd w b m g) : w.cell? ⟨b, 0, none⟩ = some (.int .i64 m) := by rw [Blk.cell h, cells_zero]
theorem Nd.free (h : Nd w b m g) (i : Nat) : w.frozen? ⟨b, i, none⟩ = false := Blk.free h i
theorem Nd.at (h : Nd w b m g) (x f : Nat) (hx : x < 64) (hf : f < 4) : w.cell? ⟨b, 4 * x + f + 1, none⟩ = some ((g x).cell f) := by rw [Blk.cell h, cells_at _ _ _ _ hx hf]
theorem Nd.at' (h : Nd w b m g) (x f : Nat) (hx : x < 64) (hf : f < 4) : w.cell? ⟨b, 1 + x * 4 + f, none⟩ = some ((g x).cell f) := by rw [show 1 + x * 4 + f = 4 * x + f + 1 by omega]; exact h.at x f hx hf
theorem Nd.setm (h : Nd w b m g) (m' : Int) : Nd (w.setCell ⟨b, 0, none⟩ (.int .i64 m')) b m' g := by
  have := Blk.set h 0 (.int .i64 m')
  rw [cells_setm] at this
  exact this
theorem Nd.set (h : Nd w b m g) (x f : Nat) (v : Value) (q : Q) (hx : x < 64) (hf : f < 4) (hv : q.cell f = v) (ho : ∀ i, i < 4 → i ≠ f → q.cell i = (g x).cell i) : Nd (w.setCell ⟨b, 4 * x + f + 1, none⟩ v) b m (upd g x q) := by
  have := Blk.set h (4 * x + f + 1) v
  rw [cells_set m g x f v q hx hf hv ho] at this
  exact this
theorem Nd.drewN (h : Nd w b m g) (n : Nat) : Nd (w.drewN n) b m g := Blk.drewN h n
end
theorem Nd.alloc {w : World} {b : Nat} {m : Int} {g : Nat → Q} (h : Nd w b m g) (o : Obj) : Nd (w.alloc o) b m g := Blk.alloc h o
theorem Nd.other' {w : World} {b : Nat} {m : Int} {g : Nat → Q} (h : Nd w b m g) (a : Addr) (v : Value) (hn : b ≠ a.block) : Nd (w.setCell a v) b m g := Blk.other h a v hn
theorem zero_cells : Try.zeroCells113 = cellsA 0 (fun _ => q0) := by kernel_rfl
theorem Nd.new32 (w : World) : Nd (w.alloc (.cells (Try.zeroCells113.setIfInBounds 0 (.int .i64 32)) 113)) w.heap.size 32 (fun _ => q0) := by
  rw [zero_cells, cells_setm]
  exact Blk.new w _ _
theorem i64_in (x : Int) (h : -9223372036854775808 ≤ x ∧ x ≤ 9223372036854775807) : IntKind.i64.wrap x = x := by rw [i64_w]; exact wrap64_in _ h
theorem upd_upd (g : Nat → Q) (x : Nat) (q q' : Q) : upd (upd g x q) x q' = upd g x q' := by
  funext y
  simp only [upd]
  split <;> rfl
theorem upd_same (g : Nat → Q) (x : Nat) (q : Q) : upd g x q x = q := by simp [upd]
/-- A whole entry's cells. -/
def cellsQ (q : Q) : List Value := [.int .i64 q.k, .int .i64 q.v, .bool q.ok, .pointer q.p]
theorem Nd.puts {w : World} {b : Nat} {m : Int} {g : Nat → Q} (h : Nd w b m g) (x : Nat) (q : Q) (hx : x < 64) : Nd (w.setCells b (1 + x * 4) (cellsQ q)) b m (upd g x q) := by
  have h1 := h.set x 0 (.int .i64 q.k) ⟨q.k, (g x).v, (g x).ok, (g x).p⟩ hx (by omega) rfl (fun i hi hn => by match i, hi, hn with | 1, _, _ => rfl | 2, _, _ => rfl | 3, _, _ => rfl)
  have h2 := h1.set x 1 (.int .i64 q.v) ⟨q.k, q.v, (g x).ok, (g x).p⟩ hx (by omega) rfl (fun i hi hn => by rw [upd_same]; match i, hi, hn with | 0, _, _ => rfl | 2, _, _ => rfl | 3, _, _ => rfl)
  have h3 := h2.set x 2 (.bool q.ok) ⟨q.k, q.v, q.ok, (g x).p⟩ hx (by omega) rfl (fun i hi hn => by rw [upd_same]; match i, hi, hn with | 0, _, _ => rfl | 1, _, _ => rfl | 3, _, _ => rfl)
  have h4 := h3.set x 3 (.pointer q.p) q hx (by omega) rfl (fun i hi hn => by rw [upd_same]; match i, hi, hn with | 0, _, _ => rfl | 1, _, _ => rfl | 2, _, _ => rfl | 3, _, hn => exact absurd rfl hn)
  rw [upd_upd, upd_upd, upd_upd] at h4
  rw [show 4 * x + 0 + 1 = 1 + x * 4 by omega, show 4 * x + 1 + 1 = 1 + x * 4 + 1 by omega, show 4 * x + 2 + 1 = 1 + x * 4 + 1 + 1 by omega] at h4
  exact h4
theorem Nd.there {w : World} {b : Nat} {m : Int} {g : Nat → Q} (h : Nd w b m g) (x : Nat) (hx : x < 64) : w.there b (1 + x * 4) 4 := fun j hj => ⟨by rw [h.at' x j hx hj]; rfl, h.free _⟩
theorem Blk.sets {b : Nat} {cs : Array Value} {t : TypeId} : ∀ {w : World} (_ : Blk w b cs t) (b' o : Nat) (vs : List Value) (_ : b ≠ b'), Blk (w.setCells b' o vs) b cs t
  | _, h, _, _, [], _ => h
  | _, h, b', o, v :: vs, hn => Blk.sets (h.other ⟨b', o, none⟩ v hn) b' (o + 1) vs hn
theorem fr_sets {S : Nat → Prop} {a : World} {b : Nat} (hb : b < a.heap.size → S b) : ∀ {w : World} (_ : Fr S a w) (o : Nat) (vs : List Value), Fr S a (w.setCells b o vs)
  | _, h, _, [] => h
  | _, h, o, v :: vs => fr_sets hb (h.setCell (p := ⟨b, o, none⟩) hb v) (o + 1) vs
set_option maxHeartbeats 4000000 in
set_option maxRecDepth 100000 in
theorem split_any (R b : Nat) (g : Nat → Q) (w : World) (hN : Nd w b 64 g) :
    Calls Try.prog 98 #[.pointer (some ⟨R, 0, none⟩), .pointer (some ⟨b, 0, none⟩)] w fun e w' => ∃ c, e = .returned (.pointer (some ⟨c, 0, none⟩)) ∧ w.heap.size ≤ c ∧ Nd w' b 32 g ∧ (∃ g', Nd w' c 32 g' ∧ ∀ x, x < 32 → g' x = g (32 + x)) ∧ Fr (· = b) w w' := by
  have HN := hid hN
  clear hN
  go_enter Try.func98, Try.ntmps98
  go_upto_region 2 with fail
  have HB := hid (HN.out.alloc (.cells (Try.zeroCells113.setIfInBounds 0 (.int .i64 32)) 113))
  have HC := hid (Nd.new32 w)
  have HF : Hid (Fr (· = b) w (w.alloc (.cells (Try.zeroCells113.setIfInBounds 0 (.int .i64 32)) 113))) := (Fr.refl _ _).alloc _
  have HL := hid HN.out.lt
  generalize w.alloc (.cells (Try.zeroCells113.setIfInBounds 0 (.int .i64 32)) 113) = W at HB HC HF ⊢
  have c0 := HB.out.m0
  have f0 := HB.out.free 0
  go_upto_region 3 with fail
  have HB2 := hid (HB.out.setm 32)
  have HC2 := hid (HC.out.other' ⟨b, 0, none⟩ (.int .i64 32) (Nat.ne_of_gt HL.out))
  have HF2 := hid (HF.out.setCell (p := ⟨b, 0, none⟩) (fun _ => rfl) (.int .i64 32))
  clear c0 f0 HB HC HF
  generalize W.setCell ⟨b, 0, none⟩ (.int .i64 32) = W2 at HB2 HC2 HF2 ⊢
  go_wp2_with fail
  go_loopg [6] 32 (fun n_ v6 wr => ∃ (i : Nat) (gc : Nat → Q), v6 = .int .i64 i ∧ i ≤ 32 ∧ Hid (n_ + i = 32) ∧ Hid (Nd wr b 32 g ∧ Nd wr w.heap.size 32 gc ∧ (∀ x, x < i → gc x = g (32 + x)) ∧ Fr (· = b) w wr))
  case atStart => exact ⟨0, _, rfl, Nat.zero_le _, rfl, HB2.out, HC2.out, fun x hx => absurd hx (Nat.not_lt_zero _), HF2.out⟩
  case round =>
    obtain ⟨i, gc, rfl, hi, HG, HI⟩ := hrel
    by_cases hlt : i < 32
    · have a0 : wr.cell? ⟨b, 1 + (32 + i) * 4, none⟩ = some (.int .i64 (g (32 + i)).k) := HI.out.1.at' (32 + i) 0 (by omega) (by omega)
      have a1 : wr.cell? ⟨b, 1 + (32 + i) * 4 + 1, none⟩ = some (.int .i64 (g (32 + i)).v) := HI.out.1.at' (32 + i) 1 (by omega) (by omega)
      have a2 : wr.cell? ⟨b, 1 + (32 + i) * 4 + 2, none⟩ = some (.bool (g (32 + i)).ok) := HI.out.1.at' (32 + i) 2 (by omega) (by omega)
      have a3 : wr.cell? ⟨b, 1 + (32 + i) * 4 + 3, none⟩ = some (.pointer (g (32 + i)).p) := HI.out.1.at' (32 + i) 3 (by omega) (by omega)
      have r0 : 0 ≤ 32 + (i : Int) ∧ 32 + (i : Int) < 64 := by omega
      have t0 : (32 + (i : Int)).toNat = 32 + i := by omega
      have r1 : (i : Int) < 64 := by omega
      have w0 : IntKind.i64.wrap (32 + (i : Int)) = ((32 + i : Nat) : Int) := by rw [i64_in _ (by omega)]; omega
      go_upto_region 6 with fail
      refine wp_region_still_tail 12 (by kernel_rfl) (by kernel_rfl) ?_
      simp only [List.take_succ_cons, List.take_zero, List.drop_succ_cons, List.drop_zero]
      repeat still_step
      refine wpStill_nil ?_
      change wpList _ _ _ _ _ wr.drew
      refine wpList_store_mid rfl 110 (.tmp 27) (.tmp 24) rfl w.heap.size (1 + i * 4) _ rfl rfl (HI.out.2.1.there i (by omega)) (by kernel_rfl) (by simp [Value.oneCell']) ?_
      change wpList _ _ _ _ _ (wr.drew.setCells w.heap.size (1 + i * 4) (cellsQ (g (32 + i))))
      have HI2 := hid (Nd.puts (w := wr.drew) HI.out.2.1 i (g (32 + i)) (by omega))
      have HI3 : Hid (Nd (wr.drew.setCells w.heap.size (1 + i * 4) (cellsQ (g (32 + i)))) b 32 g) := Blk.sets (w := wr.drew) HI.out.1 w.heap.size (1 + i * 4) (cellsQ (g (32 + i))) (Nat.ne_of_lt HL.out)
      have HI4 := hid (fr_sets (b := w.heap.size) (fun h => absurd h (Nat.lt_irrefl _)) HI.out.2.2.2.drew (1 + i * 4) (cellsQ (g (32 + i))))
      clear a0 a1 a2 a3
      generalize wr.drew.setCells w.heap.size (1 + i * 4) (cellsQ (g (32 + i))) = W4 at HI2 HI3 HI4 ⊢
      go_wp2_with fail
      have hg0 := HG.out
      obtain ⟨k1, rfl⟩ : ∃ k1, gk = k1 + 1 := ⟨gk - 1, by omega⟩
      go_roundg k1
      case measure => omega
      case rel => exact ⟨i + 1, _, rfl, hlt, by show k1 + (i + 1) = 32; omega, HI3.out, HI2.out, fun x hx => by
        by_cases e : x = i
        · rw [e, upd_same]
        · simp only [upd]; rw [if_neg e]; exact HI.out.2.2.1 x (by omega), HI4.out⟩
    · obtain rfl : i = 32 := by omega
      go_wp2_with fail
      go_ret
      exact ⟨_, rfl, Nat.le_refl _, HI.out.1, ⟨gc, HI.out.2.1, HI.out.2.2.1⟩, HI.out.2.2.2⟩
end Go.Proofs.Ytjlcebgfknfelaa.Bt
