/- The machine's side of a law, as the kit's print writes it; of the functions that the print doesn't cover this session's own contracts stand in it: no condition. -/
import Derived.Test.YtjlcebgfknfelaaAvlI
import Derived.Test.YtjlcebgfknfelaaQFnAvlFirstx0
import Derived.Test.YtjlcebgfknfelaaQFnAvlFirstx1
import Derived.Test.YtjlcebgfknfelaaQFnAvlFirstx2
namespace Go.Proofs.Ytjlcebgfknfelaa.QFnAvlFirst
open Go.RowKit Go.Proofs.YtjlcebgfknfelaaW.PrintWords Go.Proofs.YtjlcebgfknfelaaW.PrintLast Go.Proofs.YtjlcebgfknfelaaW.PrintMore
attribute [local go_sem] max2_int min2_int max_two min_two max_three min_three max_four min_four   -- for this text's walks alone
set_option linter.unusedVariables false
set_option linter.unusedSimpArgs false

/-! ### spec_Tree_Step: function 48 -/
def spec_Tree_Step.f (k : Nat) (l0_0 : List Int) (l0_1 : List Int) (l1 : List Int) (a2_0 : Int) (a2_1 : Int) (a2_2 : Int) : Option (List Int × List Int × Int × Bool × List Int × List Int) := if a2_0 = 0 then ((spec_Tree_Put.f k l0_0 l0_1 l1 a2_1 a2_2).bind fun bt174 => (some (bt174.1, bt174.2, 0, false, ([] : List Int), ([] : List Int)))) else (if a2_0 = 1 then ((spec_Tree_Remove.f k l0_0 l0_1 l1 a2_1).bind fun bt180 => (some (bt180.1, bt180.2, 0, false, ([] : List Int), ([] : List Int)))) else (if a2_0 = 2 then ((spec_Tree_Get.f k l0_0 l0_1 l1 a2_1).bind fun bt186 => (some (l0_0, l0_1, bt186.1, bt186.2, ([] : List Int), ([] : List Int)))) else (if a2_0 = 3 then (some (l0_0, l0_1, (l0_0.length : Int), false, ([] : List Int), ([] : List Int))) else (if a2_0 = 4 then (some (l0_0, l0_1, 0, false, l0_0, l0_1)) else (some (l0_0, l0_1, 0, false, ([] : List Int), ([] : List Int)))))))
theorem spec_Tree_Step.mono : ∀ a0 a1 a2 a3 a4 a5 k, LeO (spec_Tree_Step.f k a0 a1 a2 a3 a4 a5) (spec_Tree_Step.f (k + 1) a0 a1 a2 a3 a4 a5) := by
  intro a0 a1 a2 a3 a4 a5 k
  unfold spec_Tree_Step.f
  repeat' first
      | (with_reducible exact spec_Tree_Get.mono _ _ _ _ _)
      | (with_reducible exact spec_Tree_Put.mono _ _ _ _ _ _)
      | (with_reducible exact spec_Tree_Remove.mono _ _ _ _ _)
      | (with_reducible exact LeO.refl _)
      | (with_reducible exact LeO.none _)
      | (with_reducible refine LeO.ite ?_ ?_)
      | (with_reducible refine LeO.bind ?_ (fun _ => ?_))
      | exact spec_Tree_Get.mono _ _ _ _ _
      | exact spec_Tree_Put.mono _ _ _ _ _ _
      | exact spec_Tree_Remove.mono _ _ _ _ _
      | exact LeO.none _
      | refine LeO.ite ?_ ?_
      | refine LeO.bind ?_ (fun _ => ?_)
def spec_Tree_Step.T12 : Bool × List (List Nat × List Nat) := (true, [([], []), ([], []), ([1], [1]), ([], []), ([3], [3]), ([2, 4], [2, 4]), ([0, 0], [0]), ([5, 6, 0, 1, 2, 3, 4, 5, 6], [5])])
def spec_Tree_Step.B12 : List Nat := [0, 0, 2, 0, 8, 30, 1, 127]
theorem spec_Tree_Step.tab12 : rtab .any (opsOf Try.f48 12) = spec_Tree_Step.T12 := by kernel_rfl
theorem spec_Tree_Step.bits12 : waitsOk spec_Tree_Step.T12.2 spec_Tree_Step.B12 = true := by kernel_rfl
set_option maxHeartbeats 8000000 in
set_option maxRecDepth 100000 in
theorem spec_Tree_Step.calls (k : Nat) (P0_0_ : Nat → Prop) (A0_0 : Option Addr) (c0_0 : Nat) (l0_0 : List Int) (P0_1_ : Nat → Prop) (A0_1 : Option Addr) (c0_1 : Nat) (l0_1 : List Int) (A1 : Option Addr) (c1 : Nat) (l1 : List Int) (a2_0 : Int) (a2_1 : Int) (a2_2 : Int) (r1 : List Int) (r2 : List Int) (r3 : Int) (r4 : Bool) (r5 : List Int) (r6 : List Int) (w : World) (hs0_0 : Kd.V (Kd.int .i64) 3 w w.heap.size (fun k_ => P0_0_ k_) (.slice A0_0 l0_0.length c0_0) l0_0) (hs0_1 : Kd.V (Kd.int .i64) 3 w w.heap.size (fun k_ => P0_1_ k_) (.slice A0_1 l0_1.length c0_1) l0_1) (hr1 : Kd.C (Kd.int .i64) w A1 l1.length l1) (hc1 : l1.length ≤ c1) (h : spec_Tree_Step.f k l0_0 l0_1 l1 a2_0 a2_1 a2_2 = some (r1, r2, r3, r4, r5, r6)) :
    Calls Try.prog 48 #[.agg #[.slice A0_0 l0_0.length c0_0, .slice A0_1 l0_1.length c0_1], .slice A1 l1.length c1, .agg #[.int .i64 a2_0, .int .i64 a2_1, .int .i64 a2_2]] w fun e w' => ∃ v0_ v1_ v4_ v5_ : Value, e = .returned (.tuple #[.agg #[v0_, v1_], .agg #[.int .i64 r3, .bool r4, v4_, v5_]]) ∧ Kd.V (Kd.int .i64) 3 w' w.heap.size (fun k_ => ((P0_0_ k_ ∨ P0_1_ k_) ∨ w.heap.size ≤ k_)) v0_ r1 ∧ Kd.V (Kd.int .i64) 3 w' w.heap.size (fun k_ => ((P0_0_ k_ ∨ P0_1_ k_) ∨ w.heap.size ≤ k_)) v1_ r2 ∧ Kd.V (Kd.int .i64) 3 w' w.heap.size (fun k_ => ((P0_0_ k_ ∨ P0_1_ k_) ∨ w.heap.size ≤ k_)) v4_ r5 ∧ Kd.V (Kd.int .i64) 3 w' w.heap.size (fun k_ => ((P0_0_ k_ ∨ P0_1_ k_) ∨ w.heap.size ≤ k_)) v5_ r6 ∧ Below w.heap.size w w' := by
  have hu26 := Try.underlying26
  have hu66 := Try.underlying66
  have hu46 := Try.underlying46
  have HO0_0 := Aside0.mk (show Kd.V (Kd.int .i64) 3 w w.heap.size (fun k_ => ((P0_0_ k_ ∨ P0_1_ k_) ∨ w.heap.size ≤ k_)) (.slice A0_0 l0_0.length c0_0) l0_0 from Kd.V_mono hs0_0 (fun k_ hk => .inl (.inl hk)))
  have HO0_1 := Aside0.mk (show Kd.V (Kd.int .i64) 3 w w.heap.size (fun k_ => ((P0_0_ k_ ∨ P0_1_ k_) ∨ w.heap.size ≤ k_)) (.slice A0_1 l0_1.length c0_1) l0_1 from Kd.V_mono hs0_1 (fun k_ hk => .inl (.inr hk)))
  have HR1 := Aside0.mk hr1
  have HC1 := Aside0.mk hc1
  clear hr1 hc1
  have HB := Aside0.mk (Below.refl w.heap.size w)
  have H : (if a2_0 = 0 then ((spec_Tree_Put.f k l0_0 l0_1 l1 a2_1 a2_2).bind fun bt174 => (some (bt174.1, bt174.2, 0, false, ([] : List Int), ([] : List Int)))) else (if a2_0 = 1 then ((spec_Tree_Remove.f k l0_0 l0_1 l1 a2_1).bind fun bt180 => (some (bt180.1, bt180.2, 0, false, ([] : List Int), ([] : List Int)))) else (if a2_0 = 2 then ((spec_Tree_Get.f k l0_0 l0_1 l1 a2_1).bind fun bt186 => (some (l0_0, l0_1, bt186.1, bt186.2, ([] : List Int), ([] : List Int)))) else (if a2_0 = 3 then (some (l0_0, l0_1, (l0_0.length : Int), false, ([] : List Int), ([] : List Int))) else (if a2_0 = 4 then (some (l0_0, l0_1, 0, false, l0_0, l0_1)) else (some (l0_0, l0_1, 0, false, ([] : List Int), ([] : List Int)))))))) = some (r1, r2, r3, r4, r5, r6) := h
  clear h
  by_cases c4 : a2_0 = 0
  · rw [if_pos c4] at H
    have c4b0 : (a2_0 == 0) = true := beq_iff_eq.mpr c4
    have c4b1 : (a2_0 != 0) = false := bne_eq_false_iff_eq.mpr c4
    clear c4
    replace H := Option.bind_eq_some_iff.mp H
    obtain ⟨⟨t174, t177⟩, A50, H⟩ := H
    replace H : (some (t174, t177, 0, false, ([] : List Int), ([] : List Int))) = some (r1, r2, r3, r4, r5, r6) := H
    have A5 := Aside0.mk A50
    clear A50
    simp only [Option.some.injEq, Prod.mk.injEq] at H
    obtain ⟨rfl, rfl, rfl, rfl, rfl, rfl⟩ := H
    go_enter Try.func48, Try.ntmps48
    go_wp2_with (first | ((with_reducible refine gate_dst (N := 3) rfl ?_); refine box_event ?hg (N := 3) ?hd (cs := #[.slice A0_0 l0_0.length c0_0, .slice A0_1 l0_1.length c0_1]) (t := 26) ?hr ?_; (case hd => rfl); (case hg => rfl); (case hr => first | (go_simp; done) | (go_simp; rfl)); intro gb170 hg w6 hbox hb; have n0_ := Aside0.mk (Kd.V_below (Kd.V_elderB (by (with_reducible repeat (first | apply Kd.V_alloc | apply Kd.V_drewN | apply Kd.V_drew)); exact HO0_0.out) gb170 (Nat.le_of_eq hg.symm)) hb); have n1_ := Aside0.mk (Kd.V_below (Kd.V_elderB (by (with_reducible repeat (first | apply Kd.V_alloc | apply Kd.V_drewN | apply Kd.V_drew)); exact HO0_1.out) gb170 (Nat.le_of_eq hg.symm)) hb); have n2_ := Aside0.mk (below_step (by repeat (first | (with_reducible first | exact HB.out | apply below_alloc | apply pw_below_drewN | apply below_drew1) | exact HB.out)) hb); have n3_ := Aside0.mk (hbox); have n4_ := Aside0.mk ((by rw [hg]; exact (below_size (by repeat (first | (with_reducible first | exact HB.out | apply below_alloc | apply pw_below_drewN | apply below_drew1) | exact HB.out))) : w.heap.size ≤ gb170)); have n5_ := Aside0.mk ((by rw [hg]; exact (below_size (by repeat (first | (with_reducible first | exact HB.out | apply below_alloc | apply pw_below_drewN | apply below_drew1) | exact HB.out))) : w.heap.size ≤ gb170)); clear HO0_0; clear HO0_1; clear HB; have HO0_0 := n0_; have HO0_1 := n1_; have HB := n2_; have BK170 := n3_; have GW170 := n4_; have GE170 := n5_; clear n0_ n1_ n2_ n3_ n4_ n5_; clear hb hbox hg) | ((with_reducible refine gate_dst (N := 5) rfl ?_); refine box_event ?hg (N := 5) ?hd (cs := #[.int .i64 a2_0, .int .i64 a2_1, .int .i64 a2_2]) (t := 66) ?hr ?_; (case hd => rfl); (case hg => rfl); (case hr => first | (go_simp; done) | (go_simp; rfl)); intro gb171 hg w7 hbox hb; have n0_ := Aside0.mk (Kd.V_below (Kd.V_elderB (by (with_reducible repeat (first | apply Kd.V_alloc | apply Kd.V_drewN | apply Kd.V_drew)); exact HO0_0.out) gb171 (Nat.le_of_eq hg.symm)) hb); have n1_ := Aside0.mk (Kd.V_below (Kd.V_elderB (by (with_reducible repeat (first | apply Kd.V_alloc | apply Kd.V_drewN | apply Kd.V_drew)); exact HO0_1.out) gb171 (Nat.le_of_eq hg.symm)) hb); have n2_ := Aside0.mk (blk_below (g := gb170) (o := .cells #[.slice A0_0 l0_0.length c0_0, .slice A0_1 l0_1.length c0_1] 26 (0, 0)) (by (with_reducible repeat (first | refine blk_drewN ?_ _ | refine blk_drew ?_ | refine blk_alloc ?_ _)); exact BK170.out) hb); have n3_ := Aside0.mk (below_step (by repeat (first | (with_reducible first | exact HB.out | apply below_alloc | apply pw_below_drewN | apply below_drew1 | refine below_set ?_ GE170.out) | exact HB.out)) hb); have n4_ := Aside0.mk (hbox); have n5_ := Aside0.mk ((by rw [hg]; exact (below_size (by repeat (first | (with_reducible first | exact HB.out | apply below_alloc | apply pw_below_drewN | apply below_drew1 | refine below_set ?_ GE170.out) | exact HB.out))) : w.heap.size ≤ gb171)); have n6_ := Aside0.mk ((by rw [hg]; exact (below_size (by repeat (first | (with_reducible first | exact HB.out | apply below_alloc | apply pw_below_drewN | apply below_drew1 | refine below_set ?_ GE170.out) | exact HB.out))) : w.heap.size ≤ gb171)); have n7_ := Aside0.mk ((by rw [hg]; exact Nat.ne_of_lt (blk_lt (g := gb170) (o := .cells #[.slice A0_0 l0_0.length c0_0, .slice A0_1 l0_1.length c0_1] 26 (0, 0)) (by (with_reducible repeat (first | refine blk_drewN ?_ _ | refine blk_drew ?_ | refine blk_alloc ?_ _)); exact BK170.out)) : gb170 ≠ gb171)); have n8_ := Aside0.mk ((by rw [hg]; exact Nat.ne_of_gt (blk_lt (g := gb170) (o := .cells #[.slice A0_0 l0_0.length c0_0, .slice A0_1 l0_1.length c0_1] 26 (0, 0)) (by (with_reducible repeat (first | refine blk_drewN ?_ _ | refine blk_drew ?_ | refine blk_alloc ?_ _)); exact BK170.out)) : gb171 ≠ gb170)); clear HO0_0; clear HO0_1; clear BK170; clear HB; have HO0_0 := n0_; have HO0_1 := n1_; have BK170 := n2_; have HB := n3_; have BK171 := n4_; have GW171 := n5_; have GE171 := n6_; have NB170_171 := n7_; have NB171_170 := n8_; clear n0_ n1_ n2_ n3_ n4_ n5_ n6_ n7_ n8_; clear hb hbox hg) | ((with_reducible refine gate_dst (N := 6) rfl ?_); refine box_event ?hg (N := 6) ?hd (cs := #[.slice none 0 0, .slice none 0 0]) (t := 26) ?hr ?_; (case hd => rfl); (case hg => rfl); (case hr => first | (go_simp; done) | (go_simp; rfl)); intro gb172 hg w8 hbox hb; have n0_ := Aside0.mk (Kd.V_below (Kd.V_elderB (by (with_reducible repeat (first | apply Kd.V_alloc | apply Kd.V_drewN | apply Kd.V_drew)); exact HO0_0.out) gb172 (Nat.le_of_eq hg.symm)) hb); have n1_ := Aside0.mk (Kd.V_below (Kd.V_elderB (by (with_reducible repeat (first | apply Kd.V_alloc | apply Kd.V_drewN | apply Kd.V_drew)); exact HO0_1.out) gb172 (Nat.le_of_eq hg.symm)) hb); have n2_ := Aside0.mk (blk_below (g := gb170) (o := .cells #[.slice A0_0 l0_0.length c0_0, .slice A0_1 l0_1.length c0_1] 26 (0, 0)) (by (with_reducible repeat (first | refine blk_drewN ?_ _ | refine blk_drew ?_ | refine blk_alloc ?_ _)); exact BK170.out) hb); have n3_ := Aside0.mk (blk_below (g := gb171) (o := .cells #[.int .i64 a2_0, .int .i64 a2_1, .int .i64 a2_2] 66 (0, 0)) (by (with_reducible repeat (first | refine blk_drewN ?_ _ | refine blk_drew ?_ | refine blk_alloc ?_ _)); exact BK171.out) hb); have n4_ := Aside0.mk (below_step (by repeat (first | (with_reducible first | exact HB.out | apply below_alloc | apply pw_below_drewN | apply below_drew1 | refine below_set ?_ GE170.out | refine below_set ?_ GE171.out) | exact HB.out)) hb); have n5_ := Aside0.mk (hbox); have n6_ := Aside0.mk ((by rw [hg]; exact (below_size (by repeat (first | (with_reducible first | exact HB.out | apply below_alloc | apply pw_below_drewN | apply below_drew1 | refine below_set ?_ GE170.out | refine below_set ?_ GE171.out) | exact HB.out))) : w.heap.size ≤ gb172)); have n7_ := Aside0.mk ((by rw [hg]; exact (below_size (by repeat (first | (with_reducible first | exact HB.out | apply below_alloc | apply pw_below_drewN | apply below_drew1 | refine below_set ?_ GE170.out | refine below_set ?_ GE171.out) | exact HB.out))) : w.heap.size ≤ gb172)); have n8_ := Aside0.mk ((by rw [hg]; exact Nat.ne_of_lt (blk_lt (g := gb170) (o := .cells #[.slice A0_0 l0_0.length c0_0, .slice A0_1 l0_1.length c0_1] 26 (0, 0)) (by (with_reducible repeat (first | refine blk_drewN ?_ _ | refine blk_drew ?_ | refine blk_alloc ?_ _)); exact BK170.out)) : gb170 ≠ gb172)); have n9_ := Aside0.mk ((by rw [hg]; exact Nat.ne_of_gt (blk_lt (g := gb170) (o := .cells #[.slice A0_0 l0_0.length c0_0, .slice A0_1 l0_1.length c0_1] 26 (0, 0)) (by (with_reducible repeat (first | refine blk_drewN ?_ _ | refine blk_drew ?_ | refine blk_alloc ?_ _)); exact BK170.out)) : gb172 ≠ gb170)); have n10_ := Aside0.mk ((by rw [hg]; exact Nat.ne_of_lt (blk_lt (g := gb171) (o := .cells #[.int .i64 a2_0, .int .i64 a2_1, .int .i64 a2_2] 66 (0, 0)) (by (with_reducible repeat (first | refine blk_drewN ?_ _ | refine blk_drew ?_ | refine blk_alloc ?_ _)); exact BK171.out)) : gb171 ≠ gb172)); have n11_ := Aside0.mk ((by rw [hg]; exact Nat.ne_of_gt (blk_lt (g := gb171) (o := .cells #[.int .i64 a2_0, .int .i64 a2_1, .int .i64 a2_2] 66 (0, 0)) (by (with_reducible repeat (first | refine blk_drewN ?_ _ | refine blk_drew ?_ | refine blk_alloc ?_ _)); exact BK171.out)) : gb172 ≠ gb171)); clear HO0_0; clear HO0_1; clear BK170; clear BK171; clear HB; have HO0_0 := n0_; have HO0_1 := n1_; have BK170 := n2_; have BK171 := n3_; have HB := n4_; have BK172 := n5_; have GW172 := n6_; have GE172 := n7_; have NB170_172 := n8_; have NB172_170 := n9_; have NB171_172 := n10_; have NB172_171 := n11_; clear n0_ n1_ n2_ n3_ n4_ n5_ n6_ n7_ n8_ n9_ n10_ n11_; clear hb hbox hg) | ((with_reducible refine gate_dst (N := 7) rfl ?_); refine box_event ?hg (N := 7) ?hd (cs := #[.int .i64 0, .bool false, .slice none 0 0, .slice none 0 0]) (t := 46) ?hr ?_; (case hd => rfl); (case hg => rfl); (case hr => first | (go_simp; done) | (go_simp; rfl)); intro gb173 hg w9 hbox hb; have n0_ := Aside0.mk (Kd.V_below (Kd.V_elderB (by (with_reducible repeat (first | apply Kd.V_alloc | apply Kd.V_drewN | apply Kd.V_drew)); exact HO0_0.out) gb173 (Nat.le_of_eq hg.symm)) hb); have n1_ := Aside0.mk (Kd.V_below (Kd.V_elderB (by (with_reducible repeat (first | apply Kd.V_alloc | apply Kd.V_drewN | apply Kd.V_drew)); exact HO0_1.out) gb173 (Nat.le_of_eq hg.symm)) hb); have n2_ := Aside0.mk (blk_below (g := gb170) (o := .cells #[.slice A0_0 l0_0.length c0_0, .slice A0_1 l0_1.length c0_1] 26 (0, 0)) (by (with_reducible repeat (first | refine blk_drewN ?_ _ | refine blk_drew ?_ | refine blk_alloc ?_ _)); exact BK170.out) hb); have n3_ := Aside0.mk (blk_below (g := gb171) (o := .cells #[.int .i64 a2_0, .int .i64 a2_1, .int .i64 a2_2] 66 (0, 0)) (by (with_reducible repeat (first | refine blk_drewN ?_ _ | refine blk_drew ?_ | refine blk_alloc ?_ _)); exact BK171.out) hb); have n4_ := Aside0.mk (blk_below (g := gb172) (o := .cells #[.slice none 0 0, .slice none 0 0] 26 (0, 0)) (by (with_reducible repeat (first | refine blk_drewN ?_ _ | refine blk_drew ?_ | refine blk_alloc ?_ _)); exact BK172.out) hb); have n5_ := Aside0.mk (below_step (by repeat (first | (with_reducible first | exact HB.out | apply below_alloc | apply pw_below_drewN | apply below_drew1 | refine below_set ?_ GE170.out | refine below_set ?_ GE171.out | refine below_set ?_ GE172.out) | exact HB.out)) hb); have n6_ := Aside0.mk (hbox); have n7_ := Aside0.mk ((by rw [hg]; exact (below_size (by repeat (first | (with_reducible first | exact HB.out | apply below_alloc | apply pw_below_drewN | apply below_drew1 | refine below_set ?_ GE170.out | refine below_set ?_ GE171.out | refine below_set ?_ GE172.out) | exact HB.out))) : w.heap.size ≤ gb173)); have n8_ := Aside0.mk ((by rw [hg]; exact (below_size (by repeat (first | (with_reducible first | exact HB.out | apply below_alloc | apply pw_below_drewN | apply below_drew1 | refine below_set ?_ GE170.out | refine below_set ?_ GE171.out | refine below_set ?_ GE172.out) | exact HB.out))) : w.heap.size ≤ gb173)); have n9_ := Aside0.mk ((by rw [hg]; exact Nat.ne_of_lt (blk_lt (g := gb170) (o := .cells #[.slice A0_0 l0_0.length c0_0, .slice A0_1 l0_1.length c0_1] 26 (0, 0)) (by (with_reducible repeat (first | refine blk_drewN ?_ _ | refine blk_drew ?_ | refine blk_alloc ?_ _)); exact BK170.out)) : gb170 ≠ gb173)); have n10_ := Aside0.mk ((by rw [hg]; exact Nat.ne_of_gt (blk_lt (g := gb170) (o := .cells #[.slice A0_0 l0_0.length c0_0, .slice A0_1 l0_1.length c0_1] 26 (0, 0)) (by (with_reducible repeat (first | refine blk_drewN ?_ _ | refine blk_drew ?_ | refine blk_alloc ?_ _)); exact BK170.out)) : gb173 ≠ gb170)); have n11_ := Aside0.mk ((by rw [hg]; exact Nat.ne_of_lt (blk_lt (g := gb171) (o := .cells #[.int .i64 a2_0, .int .i64 a2_1, .int .i64 a2_2] 66 (0, 0)) (by (with_reducible repeat (first | refine blk_drewN ?_ _ | refine blk_drew ?_ | refine blk_alloc ?_ _)); exact BK171.out)) : gb171 ≠ gb173)); have n12_ := Aside0.mk ((by rw [hg]; exact Nat.ne_of_gt (blk_lt (g := gb171) (o := .cells #[.int .i64 a2_0, .int .i64 a2_1, .int .i64 a2_2] 66 (0, 0)) (by (with_reducible repeat (first | refine blk_drewN ?_ _ | refine blk_drew ?_ | refine blk_alloc ?_ _)); exact BK171.out)) : gb173 ≠ gb171)); have n13_ := Aside0.mk ((by rw [hg]; exact Nat.ne_of_lt (blk_lt (g := gb172) (o := .cells #[.slice none 0 0, .slice none 0 0] 26 (0, 0)) (by (with_reducible repeat (first | refine blk_drewN ?_ _ | refine blk_drew ?_ | refine blk_alloc ?_ _)); exact BK172.out)) : gb172 ≠ gb173)); have n14_ := Aside0.mk ((by rw [hg]; exact Nat.ne_of_gt (blk_lt (g := gb172) (o := .cells #[.slice none 0 0, .slice none 0 0] 26 (0, 0)) (by (with_reducible repeat (first | refine blk_drewN ?_ _ | refine blk_drew ?_ | refine blk_alloc ?_ _)); exact BK172.out)) : gb173 ≠ gb172)); clear HO0_0; clear HO0_1; clear BK170; clear BK171; clear BK172; clear HB; have HO0_0 := n0_; have HO0_1 := n1_; have BK170 := n2_; have BK171 := n3_; have BK172 := n4_; have HB := n5_; have BK173 := n6_; have GW173 := n7_; have GE173 := n8_; have NB170_173 := n9_; have NB173_170 := n10_; have NB171_173 := n11_; have NB173_171 := n12_; have NB172_173 := n13_; have NB173_172 := n14_; clear n0_ n1_ n2_ n3_ n4_ n5_ n6_ n7_ n8_ n9_ n10_ n11_ n12_ n13_ n14_; clear hb hbox hg; have hnb10 := NB171_170.out; have hnc10 := NB170_171.out; have hnb11 := NB171_172.out; have hnc11 := NB172_171.out; have hnb12 := NB171_173.out; have hnc12 := NB173_171.out; have hcz13_0 : w9.cell? ⟨gb171, 0, none⟩ = some (.int .i64 a2_0) := (blk_cell BK171.out 0).trans rfl; have hcz13_1 : w9.cell? ⟨gb171, 1, none⟩ = some (.int .i64 a2_1) := (blk_cell BK171.out 1).trans rfl; have hcz13_2 : w9.cell? ⟨gb171, 2, none⟩ = some (.int .i64 a2_2) := (blk_cell BK171.out 2).trans rfl; have hfz13_0 := blk_frozen BK171.out 0; have hfz13_1 := blk_frozen BK171.out 1; have hfz13_2 := blk_frozen BK171.out 2; have hnb14 := NB170_172.out; have hnc14 := NB172_170.out; have hnb15 := NB170_173.out; have hnc15 := NB173_170.out; have hcz16_0 : w9.cell? ⟨gb170, 0, none⟩ = some (.slice A0_0 l0_0.length c0_0) := (blk_cell BK170.out 0).trans rfl; have hcz16_1 : w9.cell? ⟨gb170, 1, none⟩ = some (.slice A0_1 l0_1.length c0_1) := (blk_cell BK170.out 1).trans rfl; have hfz16_0 := blk_frozen BK170.out 0; have hfz16_1 := blk_frozen BK170.out 1) | ((with_reducible refine gate_callee (f := 69) rfl ?_); refine goesL_ (some 20) rfl rfl Try.func69 (by kernel_rfl) rfl #[.agg #[.slice A0_0 l0_0.length c0_0, .slice A0_1 l0_1.length c0_1], .slice A1 l1.length c1, .int .i64 a2_1, .int .i64 a2_2] rfl (by (try simp only [List.map_toArray, List.map_cons, List.map_nil]); first | done | rfl | (simp only [List.length_drop, List.length_take]; rfl)) ?_; (with_reducible refine (spec_Tree_Put.calls k (fun k_ => ((((((P0_0_ k_ ∨ P0_1_ k_) ∨ w.heap.size ≤ k_) ∧ k_ ≠ gb170) ∧ k_ ≠ gb171) ∧ k_ ≠ gb172) ∧ k_ ≠ gb173)) _ _ l0_0 _ _ l0_1 _ _ l1 a2_1 a2_2 t174 t177 _ ?side1 ?side2 ?side3 ?side4 ?side5 A5.out).mono ?_); (case side1 => exact HO0_0.out); (case side2 => repeat (first | exact (Kd.V_reads' HO0_1.out).2.2 | (with_reducible refine Kd.C_alloc ?_ _) | (with_reducible refine Kd.C_drewN ?_ _) | (with_reducible refine Kd.C_drew ?_))); (case side3 => exact (Kd.V_reads' HO0_1.out).2.1); (case side4 => repeat (first | exact (Kd.C_below HR1.out HB.out) | (with_reducible refine Kd.C_alloc ?_ _) | (with_reducible refine Kd.C_drewN ?_ _) | (with_reducible refine Kd.C_drew ?_))); (case side5 => exact HC1.out); rintro e w17 ⟨v175, v178, rfl, ho0, ho1, hb⟩; refine ⟨_, rfl, ?_⟩; have n0_ := Aside0.mk (Kd.V_elder' (by (with_reducible repeat (first | apply Kd.V_alloc | apply Kd.V_drewN | apply Kd.V_drew)); exact HO0_0.out) (Kd.R_base ho1) hb); have n1_ := Aside0.mk (Kd.V_elder' (by (with_reducible repeat (first | apply Kd.V_alloc | apply Kd.V_drewN | apply Kd.V_drew)); exact HO0_1.out) (Kd.R_base ho1) hb); have n2_ := Aside0.mk (Kd.V_lower (Kd.V_mono (ok' := fun k_ => ((P0_0_ k_ ∨ P0_1_ k_) ∨ w.heap.size ≤ k_) ∧ some k_ ≠ (v178 : Value).ownBlock ∧ k_ ≠ gb170 ∧ k_ ≠ gb171 ∧ k_ ≠ gb172 ∧ k_ ≠ gb173) ho0 (fun k_ hk_ => ⟨Or.elim hk_.1 (fun hs_ => hs_.1.1.1.1) (fun hn_ => (.inr (Nat.le_trans (below_size (by repeat (first | (with_reducible first | exact HB.out | apply below_alloc | apply pw_below_drewN | apply below_drew1 | refine below_set ?_ GE170.out | refine below_set ?_ GE171.out | refine below_set ?_ GE172.out | refine below_set ?_ GE173.out) | exact HB.out))) hn_))), hk_.2, Or.elim hk_.1 (fun hs_ => hs_.1.1.1.2) (fun hn_ => (Kd.freshB (g := gb170) (o := .cells #[.slice A0_0 l0_0.length c0_0, .slice A0_1 l0_1.length c0_1] 26 (0, 0)) (by (with_reducible repeat (first | refine blk_drewN ?_ _ | refine blk_drew ?_ | refine blk_alloc ?_ _)); exact BK170.out) k_ hn_)), Or.elim hk_.1 (fun hs_ => hs_.1.1.2) (fun hn_ => (Kd.freshB (g := gb171) (o := .cells #[.int .i64 a2_0, .int .i64 a2_1, .int .i64 a2_2] 66 (0, 0)) (by (with_reducible repeat (first | refine blk_drewN ?_ _ | refine blk_drew ?_ | refine blk_alloc ?_ _)); exact BK171.out) k_ hn_)), Or.elim hk_.1 (fun hs_ => hs_.1.2) (fun hn_ => (Kd.freshB (g := gb172) (o := .cells #[.slice none 0 0, .slice none 0 0] 26 (0, 0)) (by (with_reducible repeat (first | refine blk_drewN ?_ _ | refine blk_drew ?_ | refine blk_alloc ?_ _)); exact BK172.out) k_ hn_)), Or.elim hk_.1 (fun hs_ => hs_.2) (fun hn_ => (Kd.freshB (g := gb173) (o := .cells #[.int .i64 0, .bool false, .slice none 0 0, .slice none 0 0] 46 (0, 0)) (by (with_reducible repeat (first | refine blk_drewN ?_ _ | refine blk_drew ?_ | refine blk_alloc ?_ _)); exact BK173.out) k_ hn_))⟩)) (below_size (by repeat (first | (with_reducible first | exact HB.out | apply below_alloc | apply pw_below_drewN | apply below_drew1 | refine below_set ?_ GE170.out | refine below_set ?_ GE171.out | refine below_set ?_ GE172.out | refine below_set ?_ GE173.out) | exact HB.out)))); have n3_ := Aside0.mk (Kd.R_lower (Kd.R_newM (M := fun k_ => (w.heap.size ≤ k_)) (Kd.R_mono (ok' := fun k_ => True) ho1 (fun _ hk_ => trivial)) (below_size (by repeat (first | (with_reducible first | exact HB.out | apply below_alloc | apply pw_below_drewN | apply below_drew1 | refine below_set ?_ GE170.out | refine below_set ?_ GE171.out | refine below_set ?_ GE172.out | refine below_set ?_ GE173.out) | exact HB.out))) (fun k_ h_ => h_)) (below_size (by repeat (first | (with_reducible first | exact HB.out | apply below_alloc | apply pw_below_drewN | apply below_drew1 | refine below_set ?_ GE170.out | refine below_set ?_ GE171.out | refine below_set ?_ GE172.out | refine below_set ?_ GE173.out) | exact HB.out)))); have n4_ := Aside0.mk (blk_below (g := gb170) (o := .cells #[.slice A0_0 l0_0.length c0_0, .slice A0_1 l0_1.length c0_1] 26 (0, 0)) (by (with_reducible repeat (first | refine blk_drewN ?_ _ | refine blk_drew ?_ | refine blk_alloc ?_ _)); exact BK170.out) hb); have n5_ := Aside0.mk (blk_below (g := gb171) (o := .cells #[.int .i64 a2_0, .int .i64 a2_1, .int .i64 a2_2] 66 (0, 0)) (by (with_reducible repeat (first | refine blk_drewN ?_ _ | refine blk_drew ?_ | refine blk_alloc ?_ _)); exact BK171.out) hb); have n6_ := Aside0.mk (blk_below (g := gb172) (o := .cells #[.slice none 0 0, .slice none 0 0] 26 (0, 0)) (by (with_reducible repeat (first | refine blk_drewN ?_ _ | refine blk_drew ?_ | refine blk_alloc ?_ _)); exact BK172.out) hb); have n7_ := Aside0.mk (blk_below (g := gb173) (o := .cells #[.int .i64 0, .bool false, .slice none 0 0, .slice none 0 0] 46 (0, 0)) (by (with_reducible repeat (first | refine blk_drewN ?_ _ | refine blk_drew ?_ | refine blk_alloc ?_ _)); exact BK173.out) hb); have n8_ := Aside0.mk (below_step (by repeat (first | (with_reducible first | exact HB.out | apply below_alloc | apply pw_below_drewN | apply below_drew1 | refine below_set ?_ GE170.out | refine below_set ?_ GE171.out | refine below_set ?_ GE172.out | refine below_set ?_ GE173.out) | exact HB.out)) hb); clear HO0_0; clear HO0_1; clear BK170; clear BK171; clear BK172; clear BK173; clear HB; have HO0_0 := n0_; have HO0_1 := n1_; have HO176 := n2_; have HO179 := n3_; have BK170 := n4_; have BK171 := n5_; have BK172 := n6_; have BK173 := n7_; have HB := n8_; clear n0_ n1_ n2_ n3_ n4_ n5_ n6_ n7_ n8_; (try clear hb); (try clear hb2); (try clear hk); (try clear hi); (try clear ho0); (try clear ho1); obtain ⟨Ao18, co18, eo18⟩ := Kd.V_slice HO176.out; subst eo18; have hnb19 := NB172_173.out; have hnc19 := NB173_172.out; have hcz20_0 : w17.cell? ⟨gb172, 0, none⟩ = some (.slice none 0 0) := (blk_cell BK172.out 0).trans rfl; have hcz20_1 : w17.cell? ⟨gb172, 1, none⟩ = some (.slice none 0 0) := (blk_cell BK172.out 1).trans rfl; have hfz20_0 := blk_frozen BK172.out 0; have hfz20_1 := blk_frozen BK172.out 1; obtain ⟨Ao21, co21, eo21⟩ := Kd.R_slice HO179.out; subst eo21; have hcz22_0 : w17.cell? ⟨gb173, 0, none⟩ = some (.int .i64 0) := (blk_cell BK173.out 0).trans rfl; have hcz22_1 : w17.cell? ⟨gb173, 1, none⟩ = some (.bool false) := (blk_cell BK173.out 1).trans rfl; have hcz22_2 : w17.cell? ⟨gb173, 2, none⟩ = some (.slice none 0 0) := (blk_cell BK173.out 2).trans rfl; have hcz22_3 : w17.cell? ⟨gb173, 3, none⟩ = some (.slice none 0 0) := (blk_cell BK173.out 3).trans rfl; have hfz22_0 := blk_frozen BK173.out 0; have hfz22_1 := blk_frozen BK173.out 1; have hfz22_2 := blk_frozen BK173.out 2; have hfz22_3 := blk_frozen BK173.out 3))
    refine bodyPost_ret (results_cc rfl _ _ gb172 gb173 26 46 #[.slice Ao18 t174.length co18, .slice Ao21 t177.length co21] #[.int .i64 0, .bool false, .slice none 0 0, .slice none 0 0] (0, 0) (0, 0) _ _ rfl (by (with_reducible repeat (first | refine blk_drewN ?_ _ | refine blk_drew ?_ | refine blk_alloc ?_ _)); refine blk_far ?_ NB172_173.out _; (with_reducible repeat (first | refine blk_drewN ?_ _ | refine blk_drew ?_ | refine blk_alloc ?_ _)); refine blk_far ?_ NB172_173.out _; (with_reducible repeat (first | refine blk_drewN ?_ _ | refine blk_drew ?_ | refine blk_alloc ?_ _)); refine blk_far ?_ NB172_173.out _; (with_reducible repeat (first | refine blk_drewN ?_ _ | refine blk_drew ?_ | refine blk_alloc ?_ _)); refine blk_far ?_ NB172_173.out _; (with_reducible repeat (first | refine blk_drewN ?_ _ | refine blk_drew ?_ | refine blk_alloc ?_ _)); refine blk_put (cs := #[.slice Ao18 t174.length co18, .slice none 0 0]) ?_ 1 _ rfl; (with_reducible repeat (first | refine blk_drewN ?_ _ | refine blk_drew ?_ | refine blk_alloc ?_ _)); refine blk_put (cs := #[.slice none 0 0, .slice none 0 0]) ?_ 0 _ rfl; (with_reducible repeat (first | refine blk_drewN ?_ _ | refine blk_drew ?_ | refine blk_alloc ?_ _)); exact BK172.out) Try.underlying26 rfl (by kernel_rfl) rfl (by (with_reducible repeat (first | refine blk_drewN ?_ _ | refine blk_drew ?_ | refine blk_alloc ?_ _)); refine blk_put (cs := #[.int .i64 0, .bool false, .slice none 0 0, .slice none 0 0]) ?_ 3 _ rfl; (with_reducible repeat (first | refine blk_drewN ?_ _ | refine blk_drew ?_ | refine blk_alloc ?_ _)); refine blk_put (cs := #[.int .i64 0, .bool false, .slice none 0 0, .slice none 0 0]) ?_ 2 _ rfl; (with_reducible repeat (first | refine blk_drewN ?_ _ | refine blk_drew ?_ | refine blk_alloc ?_ _)); refine blk_put (cs := #[.int .i64 0, .bool false, .slice none 0 0, .slice none 0 0]) ?_ 1 _ rfl; (with_reducible repeat (first | refine blk_drewN ?_ _ | refine blk_drew ?_ | refine blk_alloc ?_ _)); refine blk_put (cs := #[.int .i64 0, .bool false, .slice none 0 0, .slice none 0 0]) ?_ 0 _ rfl; (with_reducible repeat (first | refine blk_drewN ?_ _ | refine blk_drew ?_ | refine blk_alloc ?_ _)); refine blk_far ?_ NB173_172.out _; (with_reducible repeat (first | refine blk_drewN ?_ _ | refine blk_drew ?_ | refine blk_alloc ?_ _)); refine blk_far ?_ NB173_172.out _; (with_reducible repeat (first | refine blk_drewN ?_ _ | refine blk_drew ?_ | refine blk_alloc ?_ _)); exact BK173.out) Try.underlying46 rfl (by kernel_rfl)) rfl ?_
    exact ⟨_, _, _, _, by first | rfl | (simp [errW_none, errW_some] <;> rfl) | (simp [*, errW_none, errW_some] <;> rfl), by (with_reducible repeat (first | apply Kd.V_alloc | apply Kd.V_drewN | apply Kd.V_drew)); exact Kd.V_mono (Kd.V_far (p := ⟨gb173, 3, none⟩) (Kd.V_far (p := ⟨gb173, 2, none⟩) (Kd.V_far (p := ⟨gb173, 1, none⟩) (Kd.V_far (p := ⟨gb173, 0, none⟩) (Kd.V_far (p := ⟨gb172, 1, none⟩) (Kd.V_far (p := ⟨gb172, 0, none⟩) (Kd.V_mono (Kd.V_mono HO176.out (fun k_ hk => (⟨hk, hk.2.2.2.2.1⟩ : _ ∧ k_ ≠ gb172))) (fun k_ hk => (⟨hk, hk.1.2.2.2.2.2⟩ : _ ∧ k_ ≠ gb173))) (fun _ hk => hk.1.2) (.slice Ao18 t174.length co18)) (fun _ hk => hk.1.2) (.slice Ao21 t177.length co21)) (fun _ hk => hk.2) (.int .i64 0)) (fun _ hk => hk.2) (.bool false)) (fun _ hk => hk.2) (.slice none 0 0)) (fun _ hk => hk.2) (.slice none 0 0)) (fun _ hk => hk.1.1.1), Kd.V_mono (Kd.R_V (by (with_reducible repeat (first | apply Kd.R_alloc | apply Kd.R_drewN | apply Kd.R_drew)); exact Kd.R_mono (Kd.R_far (p := ⟨gb173, 3, none⟩) (Kd.R_far (p := ⟨gb173, 2, none⟩) (Kd.R_far (p := ⟨gb173, 1, none⟩) (Kd.R_far (p := ⟨gb173, 0, none⟩) (Kd.R_far (p := ⟨gb172, 1, none⟩) (Kd.R_far (p := ⟨gb172, 0, none⟩) (Kd.R_types (Kd.R_types HO179.out BK172.out (by decide)) BK173.out (by decide)) (fun _ hk => hk.1.2) (.slice Ao18 t174.length co18)) (fun _ hk => hk.1.2) (.slice Ao21 t177.length co21)) (fun _ hk => hk.2) (.int .i64 0)) (fun _ hk => hk.2) (.bool false)) (fun _ hk => hk.2) (.slice none 0 0)) (fun _ hk => hk.2) (.slice none 0 0)) (fun _ hk => hk.1.1.1))) (fun k_ hk => by first | exact ⟨(.inr (hk.1)), hk.2⟩ | exact (.inr (hk))), Kd.V_nil _ _ _ _ _, Kd.V_nil _ _ _ _ _, by repeat (first | (with_reducible first | exact HB.out | apply below_alloc | apply pw_below_drewN | apply below_drew1 | refine below_set ?_ GE170.out | refine below_set ?_ GE171.out | refine below_set ?_ GE172.out | refine below_set ?_ GE173.out) | exact HB.out)⟩
  · rw [if_neg c4] at H
    have c4b0 : (a2_0 == 0) = false := beq_eq_false_iff_ne.mpr c4
    have c4b1 : (a2_0 != 0) = true := bne_iff_ne.mpr c4
    by_cases c23 : a2_0 = 1
    · rw [if_pos c23] at H
      have c23b0 : (a2_0 == 1) = true := beq_iff_eq.mpr c23
      have c23b1 : (a2_0 != 1) = false := bne_eq_false_iff_eq.mpr c23
      clear c23
      replace H := Option.bind_eq_some_iff.mp H
      obtain ⟨⟨t180, t183⟩, A240, H⟩ := H
      replace H : (some (t180, t183, 0, false, ([] : List Int), ([] : List Int))) = some (r1, r2, r3, r4, r5, r6) := H
      have A24 := Aside0.mk A240
      clear A240
      simp only [Option.some.injEq, Prod.mk.injEq] at H
      obtain ⟨rfl, rfl, rfl, rfl, rfl, rfl⟩ := H
      go_enter Try.func48, Try.ntmps48
      go_wp2_with (first | ((with_reducible refine gate_dst (N := 3) rfl ?_); refine box_event ?hg (N := 3) ?hd (cs := #[.slice A0_0 l0_0.length c0_0, .slice A0_1 l0_1.length c0_1]) (t := 26) ?hr ?_; (case hd => rfl); (case hg => rfl); (case hr => first | (go_simp; done) | (go_simp; rfl)); intro gb170 hg w25 hbox hb; have n0_ := Aside0.mk (Kd.V_below (Kd.V_elderB (by (with_reducible repeat (first | apply Kd.V_alloc | apply Kd.V_drewN | apply Kd.V_drew)); exact HO0_0.out) gb170 (Nat.le_of_eq hg.symm)) hb); have n1_ := Aside0.mk (Kd.V_below (Kd.V_elderB (by (with_reducible repeat (first | apply Kd.V_alloc | apply Kd.V_drewN | apply Kd.V_drew)); exact HO0_1.out) gb170 (Nat.le_of_eq hg.symm)) hb); have n2_ := Aside0.mk (below_step (by repeat (first | (with_reducible first | exact HB.out | apply below_alloc | apply pw_below_drewN | apply below_drew1) | exact HB.out)) hb); have n3_ := Aside0.mk (hbox); have n4_ := Aside0.mk ((by rw [hg]; exact (below_size (by repeat (first | (with_reducible first | exact HB.out | apply below_alloc | apply pw_below_drewN | apply below_drew1) | exact HB.out))) : w.heap.size ≤ gb170)); have n5_ := Aside0.mk ((by rw [hg]; exact (below_size (by repeat (first | (with_reducible first | exact HB.out | apply below_alloc | apply pw_below_drewN | apply below_drew1) | exact HB.out))) : w.heap.size ≤ gb170)); clear HO0_0; clear HO0_1; clear HB; have HO0_0 := n0_; have HO0_1 := n1_; have HB := n2_; have BK170 := n3_; have GW170 := n4_; have GE170 := n5_; clear n0_ n1_ n2_ n3_ n4_ n5_; clear hb hbox hg) | ((with_reducible refine gate_dst (N := 5) rfl ?_); refine box_event ?hg (N := 5) ?hd (cs := #[.int .i64 a2_0, .int .i64 a2_1, .int .i64 a2_2]) (t := 66) ?hr ?_; (case hd => rfl); (case hg => rfl); (case hr => first | (go_simp; done) | (go_simp; rfl)); intro gb171 hg w26 hbox hb; have n0_ := Aside0.mk (Kd.V_below (Kd.V_elderB (by (with_reducible repeat (first | apply Kd.V_alloc | apply Kd.V_drewN | apply Kd.V_drew)); exact HO0_0.out) gb171 (Nat.le_of_eq hg.symm)) hb); have n1_ := Aside0.mk (Kd.V_below (Kd.V_elderB (by (with_reducible repeat (first | apply Kd.V_alloc | apply Kd.V_drewN | apply Kd.V_drew)); exact HO0_1.out) gb171 (Nat.le_of_eq hg.symm)) hb); have n2_ := Aside0.mk (blk_below (g := gb170) (o := .cells #[.slice A0_0 l0_0.length c0_0, .slice A0_1 l0_1.length c0_1] 26 (0, 0)) (by (with_reducible repeat (first | refine blk_drewN ?_ _ | refine blk_drew ?_ | refine blk_alloc ?_ _)); exact BK170.out) hb); have n3_ := Aside0.mk (below_step (by repeat (first | (with_reducible first | exact HB.out | apply below_alloc | apply pw_below_drewN | apply below_drew1 | refine below_set ?_ GE170.out) | exact HB.out)) hb); have n4_ := Aside0.mk (hbox); have n5_ := Aside0.mk ((by rw [hg]; exact (below_size (by repeat (first | (with_reducible first | exact HB.out | apply below_alloc | apply pw_below_drewN | apply below_drew1 | refine below_set ?_ GE170.out) | exact HB.out))) : w.heap.size ≤ gb171)); have n6_ := Aside0.mk ((by rw [hg]; exact (below_size (by repeat (first | (with_reducible first | exact HB.out | apply below_alloc | apply pw_below_drewN | apply below_drew1 | refine below_set ?_ GE170.out) | exact HB.out))) : w.heap.size ≤ gb171)); have n7_ := Aside0.mk ((by rw [hg]; exact Nat.ne_of_lt (blk_lt (g := gb170) (o := .cells #[.slice A0_0 l0_0.length c0_0, .slice A0_1 l0_1.length c0_1] 26 (0, 0)) (by (with_reducible repeat (first | refine blk_drewN ?_ _ | refine blk_drew ?_ | refine blk_alloc ?_ _)); exact BK170.out)) : gb170 ≠ gb171)); have n8_ := Aside0.mk ((by rw [hg]; exact Nat.ne_of_gt (blk_lt (g := gb170) (o := .cells #[.slice A0_0 l0_0.length c0_0, .slice A0_1 l0_1.length c0_1] 26 (0, 0)) (by (with_reducible repeat (first | refine blk_drewN ?_ _ | refine blk_drew ?_ | refine blk_alloc ?_ _)); exact BK170.out)) : gb171 ≠ gb170)); clear HO0_0; clear HO0_1; clear BK170; clear HB; have HO0_0 := n0_; have HO0_1 := n1_; have BK170 := n2_; have HB := n3_; have BK171 := n4_; have GW171 := n5_; have GE171 := n6_; have NB170_171 := n7_; have NB171_170 := n8_; clear n0_ n1_ n2_ n3_ n4_ n5_ n6_ n7_ n8_; clear hb hbox hg) | ((with_reducible refine gate_dst (N := 6) rfl ?_); refine box_event ?hg (N := 6) ?hd (cs := #[.slice none 0 0, .slice none 0 0]) (t := 26) ?hr ?_; (case hd => rfl); (case hg => rfl); (case hr => first | (go_simp; done) | (go_simp; rfl)); intro gb172 hg w27 hbox hb; have n0_ := Aside0.mk (Kd.V_below (Kd.V_elderB (by (with_reducible repeat (first | apply Kd.V_alloc | apply Kd.V_drewN | apply Kd.V_drew)); exact HO0_0.out) gb172 (Nat.le_of_eq hg.symm)) hb); have n1_ := Aside0.mk (Kd.V_below (Kd.V_elderB (by (with_reducible repeat (first | apply Kd.V_alloc | apply Kd.V_drewN | apply Kd.V_drew)); exact HO0_1.out) gb172 (Nat.le_of_eq hg.symm)) hb); have n2_ := Aside0.mk (blk_below (g := gb170) (o := .cells #[.slice A0_0 l0_0.length c0_0, .slice A0_1 l0_1.length c0_1] 26 (0, 0)) (by (with_reducible repeat (first | refine blk_drewN ?_ _ | refine blk_drew ?_ | refine blk_alloc ?_ _)); exact BK170.out) hb); have n3_ := Aside0.mk (blk_below (g := gb171) (o := .cells #[.int .i64 a2_0, .int .i64 a2_1, .int .i64 a2_2] 66 (0, 0)) (by (with_reducible repeat (first | refine blk_drewN ?_ _ | refine blk_drew ?_ | refine blk_alloc ?_ _)); exact BK171.out) hb); have n4_ := Aside0.mk (below_step (by repeat (first | (with_reducible first | exact HB.out | apply below_alloc | apply pw_below_drewN | apply below_drew1 | refine below_set ?_ GE170.out | refine below_set ?_ GE171.out) | exact HB.out)) hb); have n5_ := Aside0.mk (hbox); have n6_ := Aside0.mk ((by rw [hg]; exact (below_size (by repeat (first | (with_reducible first | exact HB.out | apply below_alloc | apply pw_below_drewN | apply below_drew1 | refine below_set ?_ GE170.out | refine below_set ?_ GE171.out) | exact HB.out))) : w.heap.size ≤ gb172)); have n7_ := Aside0.mk ((by rw [hg]; exact (below_size (by repeat (first | (with_reducible first | exact HB.out | apply below_alloc | apply pw_below_drewN | apply below_drew1 | refine below_set ?_ GE170.out | refine below_set ?_ GE171.out) | exact HB.out))) : w.heap.size ≤ gb172)); have n8_ := Aside0.mk ((by rw [hg]; exact Nat.ne_of_lt (blk_lt (g := gb170) (o := .cells #[.slice A0_0 l0_0.length c0_0, .slice A0_1 l0_1.length c0_1] 26 (0, 0)) (by (with_reducible repeat (first | refine blk_drewN ?_ _ | refine blk_drew ?_ | refine blk_alloc ?_ _)); exact BK170.out)) : gb170 ≠ gb172)); have n9_ := Aside0.mk ((by rw [hg]; exact Nat.ne_of_gt (blk_lt (g := gb170) (o := .cells #[.slice A0_0 l0_0.length c0_0, .slice A0_1 l0_1.length c0_1] 26 (0, 0)) (by (with_reducible repeat (first | refine blk_drewN ?_ _ | refine blk_drew ?_ | refine blk_alloc ?_ _)); exact BK170.out)) : gb172 ≠ gb170)); have n10_ := Aside0.mk ((by rw [hg]; exact Nat.ne_of_lt (blk_lt (g := gb171) (o := .cells #[.int .i64 a2_0, .int .i64 a2_1, .int .i64 a2_2] 66 (0, 0)) (by (with_reducible repeat (first | refine blk_drewN ?_ _ | refine blk_drew ?_ | refine blk_alloc ?_ _)); exact BK171.out)) : gb171 ≠ gb172)); have n11_ := Aside0.mk ((by rw [hg]; exact Nat.ne_of_gt (blk_lt (g := gb171) (o := .cells #[.int .i64 a2_0, .int .i64 a2_1, .int .i64 a2_2] 66 (0, 0)) (by (with_reducible repeat (first | refine blk_drewN ?_ _ | refine blk_drew ?_ | refine blk_alloc ?_ _)); exact BK171.out)) : gb172 ≠ gb171)); clear HO0_0; clear HO0_1; clear BK170; clear BK171; clear HB; have HO0_0 := n0_; have HO0_1 := n1_; have BK170 := n2_; have BK171 := n3_; have HB := n4_; have BK172 := n5_; have GW172 := n6_; have GE172 := n7_; have NB170_172 := n8_; have NB172_170 := n9_; have NB171_172 := n10_; have NB172_171 := n11_; clear n0_ n1_ n2_ n3_ n4_ n5_ n6_ n7_ n8_ n9_ n10_ n11_; clear hb hbox hg) | ((with_reducible refine gate_dst (N := 7) rfl ?_); refine box_event ?hg (N := 7) ?hd (cs := #[.int .i64 0, .bool false, .slice none 0 0, .slice none 0 0]) (t := 46) ?hr ?_; (case hd => rfl); (case hg => rfl); (case hr => first | (go_simp; done) | (go_simp; rfl)); intro gb173 hg w28 hbox hb; have n0_ := Aside0.mk (Kd.V_below (Kd.V_elderB (by (with_reducible repeat (first | apply Kd.V_alloc | apply Kd.V_drewN | apply Kd.V_drew)); exact HO0_0.out) gb173 (Nat.le_of_eq hg.symm)) hb); have n1_ := Aside0.mk (Kd.V_below (Kd.V_elderB (by (with_reducible repeat (first | apply Kd.V_alloc | apply Kd.V_drewN | apply Kd.V_drew)); exact HO0_1.out) gb173 (Nat.le_of_eq hg.symm)) hb); have n2_ := Aside0.mk (blk_below (g := gb170) (o := .cells #[.slice A0_0 l0_0.length c0_0, .slice A0_1 l0_1.length c0_1] 26 (0, 0)) (by (with_reducible repeat (first | refine blk_drewN ?_ _ | refine blk_drew ?_ | refine blk_alloc ?_ _)); exact BK170.out) hb); have n3_ := Aside0.mk (blk_below (g := gb171) (o := .cells #[.int .i64 a2_0, .int .i64 a2_1, .int .i64 a2_2] 66 (0, 0)) (by (with_reducible repeat (first | refine blk_drewN ?_ _ | refine blk_drew ?_ | refine blk_alloc ?_ _)); exact BK171.out) hb); have n4_ := Aside0.mk (blk_below (g := gb172) (o := .cells #[.slice none 0 0, .slice none 0 0] 26 (0, 0)) (by (with_reducible repeat (first | refine blk_drewN ?_ _ | refine blk_drew ?_ | refine blk_alloc ?_ _)); exact BK172.out) hb); have n5_ := Aside0.mk (below_step (by repeat (first | (with_reducible first | exact HB.out | apply below_alloc | apply pw_below_drewN | apply below_drew1 | refine below_set ?_ GE170.out | refine below_set ?_ GE171.out | refine below_set ?_ GE172.out) | exact HB.out)) hb); have n6_ := Aside0.mk (hbox); have n7_ := Aside0.mk ((by rw [hg]; exact (below_size (by repeat (first | (with_reducible first | exact HB.out | apply below_alloc | apply pw_below_drewN | apply below_drew1 | refine below_set ?_ GE170.out | refine below_set ?_ GE171.out | refine below_set ?_ GE172.out) | exact HB.out))) : w.heap.size ≤ gb173)); have n8_ := Aside0.mk ((by rw [hg]; exact (below_size (by repeat (first | (with_reducible first | exact HB.out | apply below_alloc | apply pw_below_drewN | apply below_drew1 | refine below_set ?_ GE170.out | refine below_set ?_ GE171.out | refine below_set ?_ GE172.out) | exact HB.out))) : w.heap.size ≤ gb173)); have n9_ := Aside0.mk ((by rw [hg]; exact Nat.ne_of_lt (blk_lt (g := gb170) (o := .cells #[.slice A0_0 l0_0.length c0_0, .slice A0_1 l0_1.length c0_1] 26 (0, 0)) (by (with_reducible repeat (first | refine blk_drewN ?_ _ | refine blk_drew ?_ | refine blk_alloc ?_ _)); exact BK170.out)) : gb170 ≠ gb173)); have n10_ := Aside0.mk ((by rw [hg]; exact Nat.ne_of_gt (blk_lt (g := gb170) (o := .cells #[.slice A0_0 l0_0.length c0_0, .slice A0_1 l0_1.length c0_1] 26 (0, 0)) (by (with_reducible repeat (first | refine blk_drewN ?_ _ | refine blk_drew ?_ | refine blk_alloc ?_ _)); exact BK170.out)) : gb173 ≠ gb170)); have n11_ := Aside0.mk ((by rw [hg]; exact Nat.ne_of_lt (blk_lt (g := gb171) (o := .cells #[.int .i64 a2_0, .int .i64 a2_1, .int .i64 a2_2] 66 (0, 0)) (by (with_reducible repeat (first | refine blk_drewN ?_ _ | refine blk_drew ?_ | refine blk_alloc ?_ _)); exact BK171.out)) : gb171 ≠ gb173)); have n12_ := Aside0.mk ((by rw [hg]; exact Nat.ne_of_gt (blk_lt (g := gb171) (o := .cells #[.int .i64 a2_0, .int .i64 a2_1, .int .i64 a2_2] 66 (0, 0)) (by (with_reducible repeat (first | refine blk_drewN ?_ _ | refine blk_drew ?_ | refine blk_alloc ?_ _)); exact BK171.out)) : gb173 ≠ gb171)); have n13_ := Aside0.mk ((by rw [hg]; exact Nat.ne_of_lt (blk_lt (g := gb172) (o := .cells #[.slice none 0 0, .slice none 0 0] 26 (0, 0)) (by (with_reducible repeat (first | refine blk_drewN ?_ _ | refine blk_drew ?_ | refine blk_alloc ?_ _)); exact BK172.out)) : gb172 ≠ gb173)); have n14_ := Aside0.mk ((by rw [hg]; exact Nat.ne_of_gt (blk_lt (g := gb172) (o := .cells #[.slice none 0 0, .slice none 0 0] 26 (0, 0)) (by (with_reducible repeat (first | refine blk_drewN ?_ _ | refine blk_drew ?_ | refine blk_alloc ?_ _)); exact BK172.out)) : gb173 ≠ gb172)); clear HO0_0; clear HO0_1; clear BK170; clear BK171; clear BK172; clear HB; have HO0_0 := n0_; have HO0_1 := n1_; have BK170 := n2_; have BK171 := n3_; have BK172 := n4_; have HB := n5_; have BK173 := n6_; have GW173 := n7_; have GE173 := n8_; have NB170_173 := n9_; have NB173_170 := n10_; have NB171_173 := n11_; have NB173_171 := n12_; have NB172_173 := n13_; have NB173_172 := n14_; clear n0_ n1_ n2_ n3_ n4_ n5_ n6_ n7_ n8_ n9_ n10_ n11_ n12_ n13_ n14_; clear hb hbox hg; have hnb29 := NB171_170.out; have hnc29 := NB170_171.out; have hnb30 := NB171_172.out; have hnc30 := NB172_171.out; have hnb31 := NB171_173.out; have hnc31 := NB173_171.out; have hcz32_0 : w28.cell? ⟨gb171, 0, none⟩ = some (.int .i64 a2_0) := (blk_cell BK171.out 0).trans rfl; have hcz32_1 : w28.cell? ⟨gb171, 1, none⟩ = some (.int .i64 a2_1) := (blk_cell BK171.out 1).trans rfl; have hcz32_2 : w28.cell? ⟨gb171, 2, none⟩ = some (.int .i64 a2_2) := (blk_cell BK171.out 2).trans rfl; have hfz32_0 := blk_frozen BK171.out 0; have hfz32_1 := blk_frozen BK171.out 1; have hfz32_2 := blk_frozen BK171.out 2; have hnb33 := NB170_172.out; have hnc33 := NB172_170.out; have hnb34 := NB170_173.out; have hnc34 := NB173_170.out; have hcz35_0 : w28.cell? ⟨gb170, 0, none⟩ = some (.slice A0_0 l0_0.length c0_0) := (blk_cell BK170.out 0).trans rfl; have hcz35_1 : w28.cell? ⟨gb170, 1, none⟩ = some (.slice A0_1 l0_1.length c0_1) := (blk_cell BK170.out 1).trans rfl; have hfz35_0 := blk_frozen BK170.out 0; have hfz35_1 := blk_frozen BK170.out 1) | ((with_reducible refine gate_callee (f := 70) rfl ?_); refine goesL_ (some 28) rfl rfl Try.func70 (by kernel_rfl) rfl #[.agg #[.slice A0_0 l0_0.length c0_0, .slice A0_1 l0_1.length c0_1], .slice A1 l1.length c1, .int .i64 a2_1] rfl (by (try simp only [List.map_toArray, List.map_cons, List.map_nil]); first | done | rfl | (simp only [List.length_drop, List.length_take]; rfl)) ?_; (with_reducible refine (spec_Tree_Remove.calls k (fun k_ => ((((((P0_0_ k_ ∨ P0_1_ k_) ∨ w.heap.size ≤ k_) ∧ k_ ≠ gb170) ∧ k_ ≠ gb171) ∧ k_ ≠ gb172) ∧ k_ ≠ gb173)) _ _ l0_0 (fun k_ => ((((((P0_0_ k_ ∨ P0_1_ k_) ∨ w.heap.size ≤ k_) ∧ k_ ≠ gb170) ∧ k_ ≠ gb171) ∧ k_ ≠ gb172) ∧ k_ ≠ gb173)) _ _ l0_1 _ _ l1 a2_1 t180 t183 _ ?side1 ?side2 ?side3 ?side4 A24.out).mono ?_); (case side1 => exact HO0_0.out); (case side2 => exact HO0_1.out); (case side3 => repeat (first | exact (Kd.C_below HR1.out HB.out) | (with_reducible refine Kd.C_alloc ?_ _) | (with_reducible refine Kd.C_drewN ?_ _) | (with_reducible refine Kd.C_drew ?_))); (case side4 => exact HC1.out); rintro e w36 ⟨v181, v184, rfl, ho0, ho1, hb⟩; refine ⟨_, rfl, ?_⟩; have n0_ := Aside0.mk (Kd.V_below (by (with_reducible repeat (first | apply Kd.V_alloc | apply Kd.V_drewN | apply Kd.V_drew)); exact HO0_0.out) hb); have n1_ := Aside0.mk (Kd.V_below (by (with_reducible repeat (first | apply Kd.V_alloc | apply Kd.V_drewN | apply Kd.V_drew)); exact HO0_1.out) hb); have n2_ := Aside0.mk (Kd.V_lower (Kd.V_mono (ok' := fun k_ => ((P0_0_ k_ ∨ P0_1_ k_) ∨ w.heap.size ≤ k_) ∧ k_ ≠ gb170 ∧ k_ ≠ gb171 ∧ k_ ≠ gb172 ∧ k_ ≠ gb173) ho0 (fun k_ hk_ => ⟨Or.elim hk_ (fun hs_ => Or.elim hs_ (fun hs_ => hs_.1.1.1.1) (fun hs_ => hs_.1.1.1.1)) (fun hn_ => (.inr (Nat.le_trans (below_size (by repeat (first | (with_reducible first | exact HB.out | apply below_alloc | apply pw_below_drewN | apply below_drew1 | refine below_set ?_ GE170.out | refine below_set ?_ GE171.out | refine below_set ?_ GE172.out | refine below_set ?_ GE173.out) | exact HB.out))) hn_))), Or.elim hk_ (fun hs_ => Or.elim hs_ (fun hs_ => hs_.1.1.1.2) (fun hs_ => hs_.1.1.1.2)) (fun hn_ => (Kd.freshB (g := gb170) (o := .cells #[.slice A0_0 l0_0.length c0_0, .slice A0_1 l0_1.length c0_1] 26 (0, 0)) (by (with_reducible repeat (first | refine blk_drewN ?_ _ | refine blk_drew ?_ | refine blk_alloc ?_ _)); exact BK170.out) k_ hn_)), Or.elim hk_ (fun hs_ => Or.elim hs_ (fun hs_ => hs_.1.1.2) (fun hs_ => hs_.1.1.2)) (fun hn_ => (Kd.freshB (g := gb171) (o := .cells #[.int .i64 a2_0, .int .i64 a2_1, .int .i64 a2_2] 66 (0, 0)) (by (with_reducible repeat (first | refine blk_drewN ?_ _ | refine blk_drew ?_ | refine blk_alloc ?_ _)); exact BK171.out) k_ hn_)), Or.elim hk_ (fun hs_ => Or.elim hs_ (fun hs_ => hs_.1.2) (fun hs_ => hs_.1.2)) (fun hn_ => (Kd.freshB (g := gb172) (o := .cells #[.slice none 0 0, .slice none 0 0] 26 (0, 0)) (by (with_reducible repeat (first | refine blk_drewN ?_ _ | refine blk_drew ?_ | refine blk_alloc ?_ _)); exact BK172.out) k_ hn_)), Or.elim hk_ (fun hs_ => Or.elim hs_ (fun hs_ => hs_.2) (fun hs_ => hs_.2)) (fun hn_ => (Kd.freshB (g := gb173) (o := .cells #[.int .i64 0, .bool false, .slice none 0 0, .slice none 0 0] 46 (0, 0)) (by (with_reducible repeat (first | refine blk_drewN ?_ _ | refine blk_drew ?_ | refine blk_alloc ?_ _)); exact BK173.out) k_ hn_))⟩)) (below_size (by repeat (first | (with_reducible first | exact HB.out | apply below_alloc | apply pw_below_drewN | apply below_drew1 | refine below_set ?_ GE170.out | refine below_set ?_ GE171.out | refine below_set ?_ GE172.out | refine below_set ?_ GE173.out) | exact HB.out)))); have n3_ := Aside0.mk (Kd.V_lower (Kd.V_mono (ok' := fun k_ => ((P0_0_ k_ ∨ P0_1_ k_) ∨ w.heap.size ≤ k_) ∧ k_ ≠ gb170 ∧ k_ ≠ gb171 ∧ k_ ≠ gb172 ∧ k_ ≠ gb173) ho1 (fun k_ hk_ => ⟨Or.elim hk_ (fun hs_ => Or.elim hs_ (fun hs_ => hs_.1.1.1.1) (fun hs_ => hs_.1.1.1.1)) (fun hn_ => (.inr (Nat.le_trans (below_size (by repeat (first | (with_reducible first | exact HB.out | apply below_alloc | apply pw_below_drewN | apply below_drew1 | refine below_set ?_ GE170.out | refine below_set ?_ GE171.out | refine below_set ?_ GE172.out | refine below_set ?_ GE173.out) | exact HB.out))) hn_))), Or.elim hk_ (fun hs_ => Or.elim hs_ (fun hs_ => hs_.1.1.1.2) (fun hs_ => hs_.1.1.1.2)) (fun hn_ => (Kd.freshB (g := gb170) (o := .cells #[.slice A0_0 l0_0.length c0_0, .slice A0_1 l0_1.length c0_1] 26 (0, 0)) (by (with_reducible repeat (first | refine blk_drewN ?_ _ | refine blk_drew ?_ | refine blk_alloc ?_ _)); exact BK170.out) k_ hn_)), Or.elim hk_ (fun hs_ => Or.elim hs_ (fun hs_ => hs_.1.1.2) (fun hs_ => hs_.1.1.2)) (fun hn_ => (Kd.freshB (g := gb171) (o := .cells #[.int .i64 a2_0, .int .i64 a2_1, .int .i64 a2_2] 66 (0, 0)) (by (with_reducible repeat (first | refine blk_drewN ?_ _ | refine blk_drew ?_ | refine blk_alloc ?_ _)); exact BK171.out) k_ hn_)), Or.elim hk_ (fun hs_ => Or.elim hs_ (fun hs_ => hs_.1.2) (fun hs_ => hs_.1.2)) (fun hn_ => (Kd.freshB (g := gb172) (o := .cells #[.slice none 0 0, .slice none 0 0] 26 (0, 0)) (by (with_reducible repeat (first | refine blk_drewN ?_ _ | refine blk_drew ?_ | refine blk_alloc ?_ _)); exact BK172.out) k_ hn_)), Or.elim hk_ (fun hs_ => Or.elim hs_ (fun hs_ => hs_.2) (fun hs_ => hs_.2)) (fun hn_ => (Kd.freshB (g := gb173) (o := .cells #[.int .i64 0, .bool false, .slice none 0 0, .slice none 0 0] 46 (0, 0)) (by (with_reducible repeat (first | refine blk_drewN ?_ _ | refine blk_drew ?_ | refine blk_alloc ?_ _)); exact BK173.out) k_ hn_))⟩)) (below_size (by repeat (first | (with_reducible first | exact HB.out | apply below_alloc | apply pw_below_drewN | apply below_drew1 | refine below_set ?_ GE170.out | refine below_set ?_ GE171.out | refine below_set ?_ GE172.out | refine below_set ?_ GE173.out) | exact HB.out)))); have n4_ := Aside0.mk (blk_below (g := gb170) (o := .cells #[.slice A0_0 l0_0.length c0_0, .slice A0_1 l0_1.length c0_1] 26 (0, 0)) (by (with_reducible repeat (first | refine blk_drewN ?_ _ | refine blk_drew ?_ | refine blk_alloc ?_ _)); exact BK170.out) hb); have n5_ := Aside0.mk (blk_below (g := gb171) (o := .cells #[.int .i64 a2_0, .int .i64 a2_1, .int .i64 a2_2] 66 (0, 0)) (by (with_reducible repeat (first | refine blk_drewN ?_ _ | refine blk_drew ?_ | refine blk_alloc ?_ _)); exact BK171.out) hb); have n6_ := Aside0.mk (blk_below (g := gb172) (o := .cells #[.slice none 0 0, .slice none 0 0] 26 (0, 0)) (by (with_reducible repeat (first | refine blk_drewN ?_ _ | refine blk_drew ?_ | refine blk_alloc ?_ _)); exact BK172.out) hb); have n7_ := Aside0.mk (blk_below (g := gb173) (o := .cells #[.int .i64 0, .bool false, .slice none 0 0, .slice none 0 0] 46 (0, 0)) (by (with_reducible repeat (first | refine blk_drewN ?_ _ | refine blk_drew ?_ | refine blk_alloc ?_ _)); exact BK173.out) hb); have n8_ := Aside0.mk (below_step (by repeat (first | (with_reducible first | exact HB.out | apply below_alloc | apply pw_below_drewN | apply below_drew1 | refine below_set ?_ GE170.out | refine below_set ?_ GE171.out | refine below_set ?_ GE172.out | refine below_set ?_ GE173.out) | exact HB.out)) hb); clear HO0_0; clear HO0_1; clear BK170; clear BK171; clear BK172; clear BK173; clear HB; have HO0_0 := n0_; have HO0_1 := n1_; have HO182 := n2_; have HO185 := n3_; have BK170 := n4_; have BK171 := n5_; have BK172 := n6_; have BK173 := n7_; have HB := n8_; clear n0_ n1_ n2_ n3_ n4_ n5_ n6_ n7_ n8_; (try clear hb); (try clear hb2); (try clear hk); (try clear hi); (try clear ho0); (try clear ho1); obtain ⟨Ao37, co37, eo37⟩ := Kd.V_slice HO182.out; subst eo37; have hnb38 := NB172_173.out; have hnc38 := NB173_172.out; have hcz39_0 : w36.cell? ⟨gb172, 0, none⟩ = some (.slice none 0 0) := (blk_cell BK172.out 0).trans rfl; have hcz39_1 : w36.cell? ⟨gb172, 1, none⟩ = some (.slice none 0 0) := (blk_cell BK172.out 1).trans rfl; have hfz39_0 := blk_frozen BK172.out 0; have hfz39_1 := blk_frozen BK172.out 1; obtain ⟨Ao40, co40, eo40⟩ := Kd.V_slice HO185.out; subst eo40; have hcz41_0 : w36.cell? ⟨gb173, 0, none⟩ = some (.int .i64 0) := (blk_cell BK173.out 0).trans rfl; have hcz41_1 : w36.cell? ⟨gb173, 1, none⟩ = some (.bool false) := (blk_cell BK173.out 1).trans rfl; have hcz41_2 : w36.cell? ⟨gb173, 2, none⟩ = some (.slice none 0 0) := (blk_cell BK173.out 2).trans rfl; have hcz41_3 : w36.cell? ⟨gb173, 3, none⟩ = some (.slice none 0 0) := (blk_cell BK173.out 3).trans rfl; have hfz41_0 := blk_frozen BK173.out 0; have hfz41_1 := blk_frozen BK173.out 1; have hfz41_2 := blk_frozen BK173.out 2; have hfz41_3 := blk_frozen BK173.out 3))
      refine bodyPost_ret (results_cc rfl _ _ gb172 gb173 26 46 #[.slice Ao37 t180.length co37, .slice Ao40 t183.length co40] #[.int .i64 0, .bool false, .slice none 0 0, .slice none 0 0] (0, 0) (0, 0) _ _ rfl (by (with_reducible repeat (first | refine blk_drewN ?_ _ | refine blk_drew ?_ | refine blk_alloc ?_ _)); refine blk_far ?_ NB172_173.out _; (with_reducible repeat (first | refine blk_drewN ?_ _ | refine blk_drew ?_ | refine blk_alloc ?_ _)); refine blk_far ?_ NB172_173.out _; (with_reducible repeat (first | refine blk_drewN ?_ _ | refine blk_drew ?_ | refine blk_alloc ?_ _)); refine blk_far ?_ NB172_173.out _; (with_reducible repeat (first | refine blk_drewN ?_ _ | refine blk_drew ?_ | refine blk_alloc ?_ _)); refine blk_far ?_ NB172_173.out _; (with_reducible repeat (first | refine blk_drewN ?_ _ | refine blk_drew ?_ | refine blk_alloc ?_ _)); refine blk_put (cs := #[.slice Ao37 t180.length co37, .slice none 0 0]) ?_ 1 _ rfl; (with_reducible repeat (first | refine blk_drewN ?_ _ | refine blk_drew ?_ | refine blk_alloc ?_ _)); refine blk_put (cs := #[.slice none 0 0, .slice none 0 0]) ?_ 0 _ rfl; (with_reducible repeat (first | refine blk_drewN ?_ _ | refine blk_drew ?_ | refine blk_alloc ?_ _)); exact BK172.out) Try.underlying26 rfl (by kernel_rfl) rfl (by (with_reducible repeat (first | refine blk_drewN ?_ _ | refine blk_drew ?_ | refine blk_alloc ?_ _)); refine blk_put (cs := #[.int .i64 0, .bool false, .slice none 0 0, .slice none 0 0]) ?_ 3 _ rfl; (with_reducible repeat (first | refine blk_drewN ?_ _ | refine blk_drew ?_ | refine blk_alloc ?_ _)); refine blk_put (cs := #[.int .i64 0, .bool false, .slice none 0 0, .slice none 0 0]) ?_ 2 _ rfl; (with_reducible repeat (first | refine blk_drewN ?_ _ | refine blk_drew ?_ | refine blk_alloc ?_ _)); refine blk_put (cs := #[.int .i64 0, .bool false, .slice none 0 0, .slice none 0 0]) ?_ 1 _ rfl; (with_reducible repeat (first | refine blk_drewN ?_ _ | refine blk_drew ?_ | refine blk_alloc ?_ _)); refine blk_put (cs := #[.int .i64 0, .bool false, .slice none 0 0, .slice none 0 0]) ?_ 0 _ rfl; (with_reducible repeat (first | refine blk_drewN ?_ _ | refine blk_drew ?_ | refine blk_alloc ?_ _)); refine blk_far ?_ NB173_172.out _; (with_reducible repeat (first | refine blk_drewN ?_ _ | refine blk_drew ?_ | refine blk_alloc ?_ _)); refine blk_far ?_ NB173_172.out _; (with_reducible repeat (first | refine blk_drewN ?_ _ | refine blk_drew ?_ | refine blk_alloc ?_ _)); exact BK173.out) Try.underlying46 rfl (by kernel_rfl)) rfl ?_
      exact ⟨_, _, _, _, by first | rfl | (simp [errW_none, errW_some] <;> rfl) | (simp [*, errW_none, errW_some] <;> rfl), by (with_reducible repeat (first | apply Kd.V_alloc | apply Kd.V_drewN | apply Kd.V_drew)); exact Kd.V_mono (Kd.V_far (p := ⟨gb173, 3, none⟩) (Kd.V_far (p := ⟨gb173, 2, none⟩) (Kd.V_far (p := ⟨gb173, 1, none⟩) (Kd.V_far (p := ⟨gb173, 0, none⟩) (Kd.V_far (p := ⟨gb172, 1, none⟩) (Kd.V_far (p := ⟨gb172, 0, none⟩) (Kd.V_mono (Kd.V_mono HO182.out (fun k_ hk => (⟨hk, hk.2.2.2.1⟩ : _ ∧ k_ ≠ gb172))) (fun k_ hk => (⟨hk, hk.1.2.2.2.2⟩ : _ ∧ k_ ≠ gb173))) (fun _ hk => hk.1.2) (.slice Ao37 t180.length co37)) (fun _ hk => hk.1.2) (.slice Ao40 t183.length co40)) (fun _ hk => hk.2) (.int .i64 0)) (fun _ hk => hk.2) (.bool false)) (fun _ hk => hk.2) (.slice none 0 0)) (fun _ hk => hk.2) (.slice none 0 0)) (fun _ hk => hk.1.1.1), by (with_reducible repeat (first | apply Kd.V_alloc | apply Kd.V_drewN | apply Kd.V_drew)); exact Kd.V_mono (Kd.V_far (p := ⟨gb173, 3, none⟩) (Kd.V_far (p := ⟨gb173, 2, none⟩) (Kd.V_far (p := ⟨gb173, 1, none⟩) (Kd.V_far (p := ⟨gb173, 0, none⟩) (Kd.V_far (p := ⟨gb172, 1, none⟩) (Kd.V_far (p := ⟨gb172, 0, none⟩) (Kd.V_mono (Kd.V_mono HO185.out (fun k_ hk => (⟨hk, hk.2.2.2.1⟩ : _ ∧ k_ ≠ gb172))) (fun k_ hk => (⟨hk, hk.1.2.2.2.2⟩ : _ ∧ k_ ≠ gb173))) (fun _ hk => hk.1.2) (.slice Ao37 t180.length co37)) (fun _ hk => hk.1.2) (.slice Ao40 t183.length co40)) (fun _ hk => hk.2) (.int .i64 0)) (fun _ hk => hk.2) (.bool false)) (fun _ hk => hk.2) (.slice none 0 0)) (fun _ hk => hk.2) (.slice none 0 0)) (fun _ hk => hk.1.1.1), Kd.V_nil _ _ _ _ _, Kd.V_nil _ _ _ _ _, by repeat (first | (with_reducible first | exact HB.out | apply below_alloc | apply pw_below_drewN | apply below_drew1 | refine below_set ?_ GE170.out | refine below_set ?_ GE171.out | refine below_set ?_ GE172.out | refine below_set ?_ GE173.out) | exact HB.out)⟩
    · rw [if_neg c23] at H
      have c23b0 : (a2_0 == 1) = false := beq_eq_false_iff_ne.mpr c23
      have c23b1 : (a2_0 != 1) = true := bne_iff_ne.mpr c23
      by_cases c42 : a2_0 = 2
      · rw [if_pos c42] at H
        have c42b0 : (a2_0 == 2) = true := beq_iff_eq.mpr c42
        have c42b1 : (a2_0 != 2) = false := bne_eq_false_iff_eq.mpr c42
        clear c42
        replace H := Option.bind_eq_some_iff.mp H
        obtain ⟨⟨t186, t187⟩, A430, H⟩ := H
        replace H : (some (l0_0, l0_1, t186, t187, ([] : List Int), ([] : List Int))) = some (r1, r2, r3, r4, r5, r6) := H
        have A43 := Aside0.mk A430
        clear A430
        simp only [Option.some.injEq, Prod.mk.injEq] at H
        obtain ⟨rfl, rfl, rfl, rfl, rfl, rfl⟩ := H
        go_enter Try.func48, Try.ntmps48
        go_wp2_with (first | ((with_reducible refine gate_dst (N := 3) rfl ?_); refine box_event ?hg (N := 3) ?hd (cs := #[.slice A0_0 l0_0.length c0_0, .slice A0_1 l0_1.length c0_1]) (t := 26) ?hr ?_; (case hd => rfl); (case hg => rfl); (case hr => first | (go_simp; done) | (go_simp; rfl)); intro gb170 hg w44 hbox hb; have n0_ := Aside0.mk (Kd.V_below (Kd.V_elderB (by (with_reducible repeat (first | apply Kd.V_alloc | apply Kd.V_drewN | apply Kd.V_drew)); exact HO0_0.out) gb170 (Nat.le_of_eq hg.symm)) hb); have n1_ := Aside0.mk (Kd.V_below (Kd.V_elderB (by (with_reducible repeat (first | apply Kd.V_alloc | apply Kd.V_drewN | apply Kd.V_drew)); exact HO0_1.out) gb170 (Nat.le_of_eq hg.symm)) hb); have n2_ := Aside0.mk (below_step (by repeat (first | (with_reducible first | exact HB.out | apply below_alloc | apply pw_below_drewN | apply below_drew1) | exact HB.out)) hb); have n3_ := Aside0.mk (hbox); have n4_ := Aside0.mk ((by rw [hg]; exact (below_size (by repeat (first | (with_reducible first | exact HB.out | apply below_alloc | apply pw_below_drewN | apply below_drew1) | exact HB.out))) : w.heap.size ≤ gb170)); have n5_ := Aside0.mk ((by rw [hg]; exact (below_size (by repeat (first | (with_reducible first | exact HB.out | apply below_alloc | apply pw_below_drewN | apply below_drew1) | exact HB.out))) : w.heap.size ≤ gb170)); clear HO0_0; clear HO0_1; clear HB; have HO0_0 := n0_; have HO0_1 := n1_; have HB := n2_; have BK170 := n3_; have GW170 := n4_; have GE170 := n5_; clear n0_ n1_ n2_ n3_ n4_ n5_; clear hb hbox hg) | ((with_reducible refine gate_dst (N := 5) rfl ?_); refine box_event ?hg (N := 5) ?hd (cs := #[.int .i64 a2_0, .int .i64 a2_1, .int .i64 a2_2]) (t := 66) ?hr ?_; (case hd => rfl); (case hg => rfl); (case hr => first | (go_simp; done) | (go_simp; rfl)); intro gb171 hg w45 hbox hb; have n0_ := Aside0.mk (Kd.V_below (Kd.V_elderB (by (with_reducible repeat (first | apply Kd.V_alloc | apply Kd.V_drewN | apply Kd.V_drew)); exact HO0_0.out) gb171 (Nat.le_of_eq hg.symm)) hb); have n1_ := Aside0.mk (Kd.V_below (Kd.V_elderB (by (with_reducible repeat (first | apply Kd.V_alloc | apply Kd.V_drewN | apply Kd.V_drew)); exact HO0_1.out) gb171 (Nat.le_of_eq hg.symm)) hb); have n2_ := Aside0.mk (blk_below (g := gb170) (o := .cells #[.slice A0_0 l0_0.length c0_0, .slice A0_1 l0_1.length c0_1] 26 (0, 0)) (by (with_reducible repeat (first | refine blk_drewN ?_ _ | refine blk_drew ?_ | refine blk_alloc ?_ _)); exact BK170.out) hb); have n3_ := Aside0.mk (below_step (by repeat (first | (with_reducible first | exact HB.out | apply below_alloc | apply pw_below_drewN | apply below_drew1 | refine below_set ?_ GE170.out) | exact HB.out)) hb); have n4_ := Aside0.mk (hbox); have n5_ := Aside0.mk ((by rw [hg]; exact (below_size (by repeat (first | (with_reducible first | exact HB.out | apply below_alloc | apply pw_below_drewN | apply below_drew1 | refine below_set ?_ GE170.out) | exact HB.out))) : w.heap.size ≤ gb171)); have n6_ := Aside0.mk ((by rw [hg]; exact (below_size (by repeat (first | (with_reducible first | exact HB.out | apply below_alloc | apply pw_below_drewN | apply below_drew1 | refine below_set ?_ GE170.out) | exact HB.out))) : w.heap.size ≤ gb171)); have n7_ := Aside0.mk ((by rw [hg]; exact Nat.ne_of_lt (blk_lt (g := gb170) (o := .cells #[.slice A0_0 l0_0.length c0_0, .slice A0_1 l0_1.length c0_1] 26 (0, 0)) (by (with_reducible repeat (first | refine blk_drewN ?_ _ | refine blk_drew ?_ | refine blk_alloc ?_ _)); exact BK170.out)) : gb170 ≠ gb171)); have n8_ := Aside0.mk ((by rw [hg]; exact Nat.ne_of_gt (blk_lt (g := gb170) (o := .cells #[.slice A0_0 l0_0.length c0_0, .slice A0_1 l0_1.length c0_1] 26 (0, 0)) (by (with_reducible repeat (first | refine blk_drewN ?_ _ | refine blk_drew ?_ | refine blk_alloc ?_ _)); exact BK170.out)) : gb171 ≠ gb170)); clear HO0_0; clear HO0_1; clear BK170; clear HB; have HO0_0 := n0_; have HO0_1 := n1_; have BK170 := n2_; have HB := n3_; have BK171 := n4_; have GW171 := n5_; have GE171 := n6_; have NB170_171 := n7_; have NB171_170 := n8_; clear n0_ n1_ n2_ n3_ n4_ n5_ n6_ n7_ n8_; clear hb hbox hg) | ((with_reducible refine gate_dst (N := 6) rfl ?_); refine box_event ?hg (N := 6) ?hd (cs := #[.slice none 0 0, .slice none 0 0]) (t := 26) ?hr ?_; (case hd => rfl); (case hg => rfl); (case hr => first | (go_simp; done) | (go_simp; rfl)); intro gb172 hg w46 hbox hb; have n0_ := Aside0.mk (Kd.V_below (Kd.V_elderB (by (with_reducible repeat (first | apply Kd.V_alloc | apply Kd.V_drewN | apply Kd.V_drew)); exact HO0_0.out) gb172 (Nat.le_of_eq hg.symm)) hb); have n1_ := Aside0.mk (Kd.V_below (Kd.V_elderB (by (with_reducible repeat (first | apply Kd.V_alloc | apply Kd.V_drewN | apply Kd.V_drew)); exact HO0_1.out) gb172 (Nat.le_of_eq hg.symm)) hb); have n2_ := Aside0.mk (blk_below (g := gb170) (o := .cells #[.slice A0_0 l0_0.length c0_0, .slice A0_1 l0_1.length c0_1] 26 (0, 0)) (by (with_reducible repeat (first | refine blk_drewN ?_ _ | refine blk_drew ?_ | refine blk_alloc ?_ _)); exact BK170.out) hb); have n3_ := Aside0.mk (blk_below (g := gb171) (o := .cells #[.int .i64 a2_0, .int .i64 a2_1, .int .i64 a2_2] 66 (0, 0)) (by (with_reducible repeat (first | refine blk_drewN ?_ _ | refine blk_drew ?_ | refine blk_alloc ?_ _)); exact BK171.out) hb); have n4_ := Aside0.mk (below_step (by repeat (first | (with_reducible first | exact HB.out | apply below_alloc | apply pw_below_drewN | apply below_drew1 | refine below_set ?_ GE170.out | refine below_set ?_ GE171.out) | exact HB.out)) hb); have n5_ := Aside0.mk (hbox); have n6_ := Aside0.mk ((by rw [hg]; exact (below_size (by repeat (first | (with_reducible first | exact HB.out | apply below_alloc | apply pw_below_drewN | apply below_drew1 | refine below_set ?_ GE170.out | refine below_set ?_ GE171.out) | exact HB.out))) : w.heap.size ≤ gb172)); have n7_ := Aside0.mk ((by rw [hg]; exact (below_size (by repeat (first | (with_reducible first | exact HB.out | apply below_alloc | apply pw_below_drewN | apply below_drew1 | refine below_set ?_ GE170.out | refine below_set ?_ GE171.out) | exact HB.out))) : w.heap.size ≤ gb172)); have n8_ := Aside0.mk ((by rw [hg]; exact Nat.ne_of_lt (blk_lt (g := gb170) (o := .cells #[.slice A0_0 l0_0.length c0_0, .slice A0_1 l0_1.length c0_1] 26 (0, 0)) (by (with_reducible repeat (first | refine blk_drewN ?_ _ | refine blk_drew ?_ | refine blk_alloc ?_ _)); exact BK170.out)) : gb170 ≠ gb172)); have n9_ := Aside0.mk ((by rw [hg]; exact Nat.ne_of_gt (blk_lt (g := gb170) (o := .cells #[.slice A0_0 l0_0.length c0_0, .slice A0_1 l0_1.length c0_1] 26 (0, 0)) (by (with_reducible repeat (first | refine blk_drewN ?_ _ | refine blk_drew ?_ | refine blk_alloc ?_ _)); exact BK170.out)) : gb172 ≠ gb170)); have n10_ := Aside0.mk ((by rw [hg]; exact Nat.ne_of_lt (blk_lt (g := gb171) (o := .cells #[.int .i64 a2_0, .int .i64 a2_1, .int .i64 a2_2] 66 (0, 0)) (by (with_reducible repeat (first | refine blk_drewN ?_ _ | refine blk_drew ?_ | refine blk_alloc ?_ _)); exact BK171.out)) : gb171 ≠ gb172)); have n11_ := Aside0.mk ((by rw [hg]; exact Nat.ne_of_gt (blk_lt (g := gb171) (o := .cells #[.int .i64 a2_0, .int .i64 a2_1, .int .i64 a2_2] 66 (0, 0)) (by (with_reducible repeat (first | refine blk_drewN ?_ _ | refine blk_drew ?_ | refine blk_alloc ?_ _)); exact BK171.out)) : gb172 ≠ gb171)); clear HO0_0; clear HO0_1; clear BK170; clear BK171; clear HB; have HO0_0 := n0_; have HO0_1 := n1_; have BK170 := n2_; have BK171 := n3_; have HB := n4_; have BK172 := n5_; have GW172 := n6_; have GE172 := n7_; have NB170_172 := n8_; have NB172_170 := n9_; have NB171_172 := n10_; have NB172_171 := n11_; clear n0_ n1_ n2_ n3_ n4_ n5_ n6_ n7_ n8_ n9_ n10_ n11_; clear hb hbox hg) | ((with_reducible refine gate_dst (N := 7) rfl ?_); refine box_event ?hg (N := 7) ?hd (cs := #[.int .i64 0, .bool false, .slice none 0 0, .slice none 0 0]) (t := 46) ?hr ?_; (case hd => rfl); (case hg => rfl); (case hr => first | (go_simp; done) | (go_simp; rfl)); intro gb173 hg w47 hbox hb; have n0_ := Aside0.mk (Kd.V_below (Kd.V_elderB (by (with_reducible repeat (first | apply Kd.V_alloc | apply Kd.V_drewN | apply Kd.V_drew)); exact HO0_0.out) gb173 (Nat.le_of_eq hg.symm)) hb); have n1_ := Aside0.mk (Kd.V_below (Kd.V_elderB (by (with_reducible repeat (first | apply Kd.V_alloc | apply Kd.V_drewN | apply Kd.V_drew)); exact HO0_1.out) gb173 (Nat.le_of_eq hg.symm)) hb); have n2_ := Aside0.mk (blk_below (g := gb170) (o := .cells #[.slice A0_0 l0_0.length c0_0, .slice A0_1 l0_1.length c0_1] 26 (0, 0)) (by (with_reducible repeat (first | refine blk_drewN ?_ _ | refine blk_drew ?_ | refine blk_alloc ?_ _)); exact BK170.out) hb); have n3_ := Aside0.mk (blk_below (g := gb171) (o := .cells #[.int .i64 a2_0, .int .i64 a2_1, .int .i64 a2_2] 66 (0, 0)) (by (with_reducible repeat (first | refine blk_drewN ?_ _ | refine blk_drew ?_ | refine blk_alloc ?_ _)); exact BK171.out) hb); have n4_ := Aside0.mk (blk_below (g := gb172) (o := .cells #[.slice none 0 0, .slice none 0 0] 26 (0, 0)) (by (with_reducible repeat (first | refine blk_drewN ?_ _ | refine blk_drew ?_ | refine blk_alloc ?_ _)); exact BK172.out) hb); have n5_ := Aside0.mk (below_step (by repeat (first | (with_reducible first | exact HB.out | apply below_alloc | apply pw_below_drewN | apply below_drew1 | refine below_set ?_ GE170.out | refine below_set ?_ GE171.out | refine below_set ?_ GE172.out) | exact HB.out)) hb); have n6_ := Aside0.mk (hbox); have n7_ := Aside0.mk ((by rw [hg]; exact (below_size (by repeat (first | (with_reducible first | exact HB.out | apply below_alloc | apply pw_below_drewN | apply below_drew1 | refine below_set ?_ GE170.out | refine below_set ?_ GE171.out | refine below_set ?_ GE172.out) | exact HB.out))) : w.heap.size ≤ gb173)); have n8_ := Aside0.mk ((by rw [hg]; exact (below_size (by repeat (first | (with_reducible first | exact HB.out | apply below_alloc | apply pw_below_drewN | apply below_drew1 | refine below_set ?_ GE170.out | refine below_set ?_ GE171.out | refine below_set ?_ GE172.out) | exact HB.out))) : w.heap.size ≤ gb173)); have n9_ := Aside0.mk ((by rw [hg]; exact Nat.ne_of_lt (blk_lt (g := gb170) (o := .cells #[.slice A0_0 l0_0.length c0_0, .slice A0_1 l0_1.length c0_1] 26 (0, 0)) (by (with_reducible repeat (first | refine blk_drewN ?_ _ | refine blk_drew ?_ | refine blk_alloc ?_ _)); exact BK170.out)) : gb170 ≠ gb173)); have n10_ := Aside0.mk ((by rw [hg]; exact Nat.ne_of_gt (blk_lt (g := gb170) (o := .cells #[.slice A0_0 l0_0.length c0_0, .slice A0_1 l0_1.length c0_1] 26 (0, 0)) (by (with_reducible repeat (first | refine blk_drewN ?_ _ | refine blk_drew ?_ | refine blk_alloc ?_ _)); exact BK170.out)) : gb173 ≠ gb170)); have n11_ := Aside0.mk ((by rw [hg]; exact Nat.ne_of_lt (blk_lt (g := gb171) (o := .cells #[.int .i64 a2_0, .int .i64 a2_1, .int .i64 a2_2] 66 (0, 0)) (by (with_reducible repeat (first | refine blk_drewN ?_ _ | refine blk_drew ?_ | refine blk_alloc ?_ _)); exact BK171.out)) : gb171 ≠ gb173)); have n12_ := Aside0.mk ((by rw [hg]; exact Nat.ne_of_gt (blk_lt (g := gb171) (o := .cells #[.int .i64 a2_0, .int .i64 a2_1, .int .i64 a2_2] 66 (0, 0)) (by (with_reducible repeat (first | refine blk_drewN ?_ _ | refine blk_drew ?_ | refine blk_alloc ?_ _)); exact BK171.out)) : gb173 ≠ gb171)); have n13_ := Aside0.mk ((by rw [hg]; exact Nat.ne_of_lt (blk_lt (g := gb172) (o := .cells #[.slice none 0 0, .slice none 0 0] 26 (0, 0)) (by (with_reducible repeat (first | refine blk_drewN ?_ _ | refine blk_drew ?_ | refine blk_alloc ?_ _)); exact BK172.out)) : gb172 ≠ gb173)); have n14_ := Aside0.mk ((by rw [hg]; exact Nat.ne_of_gt (blk_lt (g := gb172) (o := .cells #[.slice none 0 0, .slice none 0 0] 26 (0, 0)) (by (with_reducible repeat (first | refine blk_drewN ?_ _ | refine blk_drew ?_ | refine blk_alloc ?_ _)); exact BK172.out)) : gb173 ≠ gb172)); clear HO0_0; clear HO0_1; clear BK170; clear BK171; clear BK172; clear HB; have HO0_0 := n0_; have HO0_1 := n1_; have BK170 := n2_; have BK171 := n3_; have BK172 := n4_; have HB := n5_; have BK173 := n6_; have GW173 := n7_; have GE173 := n8_; have NB170_173 := n9_; have NB173_170 := n10_; have NB171_173 := n11_; have NB173_171 := n12_; have NB172_173 := n13_; have NB173_172 := n14_; clear n0_ n1_ n2_ n3_ n4_ n5_ n6_ n7_ n8_ n9_ n10_ n11_ n12_ n13_ n14_; clear hb hbox hg; have hnb48 := NB171_170.out; have hnc48 := NB170_171.out; have hnb49 := NB171_172.out; have hnc49 := NB172_171.out; have hnb50 := NB171_173.out; have hnc50 := NB173_171.out; have hcz51_0 : w47.cell? ⟨gb171, 0, none⟩ = some (.int .i64 a2_0) := (blk_cell BK171.out 0).trans rfl; have hcz51_1 : w47.cell? ⟨gb171, 1, none⟩ = some (.int .i64 a2_1) := (blk_cell BK171.out 1).trans rfl; have hcz51_2 : w47.cell? ⟨gb171, 2, none⟩ = some (.int .i64 a2_2) := (blk_cell BK171.out 2).trans rfl; have hfz51_0 := blk_frozen BK171.out 0; have hfz51_1 := blk_frozen BK171.out 1; have hfz51_2 := blk_frozen BK171.out 2; have hnb52 := NB170_172.out; have hnc52 := NB172_170.out; have hnb53 := NB170_173.out; have hnc53 := NB173_170.out; have hcz54_0 : w47.cell? ⟨gb170, 0, none⟩ = some (.slice A0_0 l0_0.length c0_0) := (blk_cell BK170.out 0).trans rfl; have hcz54_1 : w47.cell? ⟨gb170, 1, none⟩ = some (.slice A0_1 l0_1.length c0_1) := (blk_cell BK170.out 1).trans rfl; have hfz54_0 := blk_frozen BK170.out 0; have hfz54_1 := blk_frozen BK170.out 1) | ((with_reducible refine gate_callee (f := 71) rfl ?_); refine goesL_ (some 37) rfl rfl Try.func71 (by kernel_rfl) rfl #[.agg #[.slice A0_0 l0_0.length c0_0, .slice A0_1 l0_1.length c0_1], .slice A1 l1.length c1, .int .i64 a2_1] rfl (by (try simp only [List.map_toArray, List.map_cons, List.map_nil]); first | done | rfl | (simp only [List.length_drop, List.length_take]; rfl)) ?_; (with_reducible refine (spec_Tree_Get.calls k _ _ l0_0 _ _ l0_1 _ _ l1 a2_1 t186 t187 _ ?side1 ?side2 ?side3 ?side4 ?side5 ?side6 A43.out).mono ?_); (case side1 => repeat (first | exact (Kd.V_reads' HO0_0.out).2.2 | (with_reducible refine Kd.C_alloc ?_ _) | (with_reducible refine Kd.C_drewN ?_ _) | (with_reducible refine Kd.C_drew ?_))); (case side2 => exact (Kd.V_reads' HO0_0.out).2.1); (case side3 => repeat (first | exact (Kd.V_reads' HO0_1.out).2.2 | (with_reducible refine Kd.C_alloc ?_ _) | (with_reducible refine Kd.C_drewN ?_ _) | (with_reducible refine Kd.C_drew ?_))); (case side4 => exact (Kd.V_reads' HO0_1.out).2.1); (case side5 => repeat (first | exact (Kd.C_below HR1.out HB.out) | (with_reducible refine Kd.C_alloc ?_ _) | (with_reducible refine Kd.C_drewN ?_ _) | (with_reducible refine Kd.C_drew ?_))); (case side6 => exact HC1.out); rintro e w55 ⟨rfl, hb⟩; refine ⟨_, rfl, ?_⟩; have n0_ := Aside0.mk (Kd.V_below (by (with_reducible repeat (first | apply Kd.V_alloc | apply Kd.V_drewN | apply Kd.V_drew)); exact HO0_0.out) hb); have n1_ := Aside0.mk (Kd.V_below (by (with_reducible repeat (first | apply Kd.V_alloc | apply Kd.V_drewN | apply Kd.V_drew)); exact HO0_1.out) hb); have n2_ := Aside0.mk (blk_below (g := gb170) (o := .cells #[.slice A0_0 l0_0.length c0_0, .slice A0_1 l0_1.length c0_1] 26 (0, 0)) (by (with_reducible repeat (first | refine blk_drewN ?_ _ | refine blk_drew ?_ | refine blk_alloc ?_ _)); exact BK170.out) hb); have n3_ := Aside0.mk (blk_below (g := gb171) (o := .cells #[.int .i64 a2_0, .int .i64 a2_1, .int .i64 a2_2] 66 (0, 0)) (by (with_reducible repeat (first | refine blk_drewN ?_ _ | refine blk_drew ?_ | refine blk_alloc ?_ _)); exact BK171.out) hb); have n4_ := Aside0.mk (blk_below (g := gb172) (o := .cells #[.slice none 0 0, .slice none 0 0] 26 (0, 0)) (by (with_reducible repeat (first | refine blk_drewN ?_ _ | refine blk_drew ?_ | refine blk_alloc ?_ _)); exact BK172.out) hb); have n5_ := Aside0.mk (blk_below (g := gb173) (o := .cells #[.int .i64 0, .bool false, .slice none 0 0, .slice none 0 0] 46 (0, 0)) (by (with_reducible repeat (first | refine blk_drewN ?_ _ | refine blk_drew ?_ | refine blk_alloc ?_ _)); exact BK173.out) hb); have n6_ := Aside0.mk (below_step (by repeat (first | (with_reducible first | exact HB.out | apply below_alloc | apply pw_below_drewN | apply below_drew1 | refine below_set ?_ GE170.out | refine below_set ?_ GE171.out | refine below_set ?_ GE172.out | refine below_set ?_ GE173.out) | exact HB.out)) hb); clear HO0_0; clear HO0_1; clear BK170; clear BK171; clear BK172; clear BK173; clear HB; have HO0_0 := n0_; have HO0_1 := n1_; have BK170 := n2_; have BK171 := n3_; have BK172 := n4_; have BK173 := n5_; have HB := n6_; clear n0_ n1_ n2_ n3_ n4_ n5_ n6_; (try clear hb); (try clear hb2); (try clear hk); (try clear hi); have hcz56_0 : w55.cell? ⟨gb170, 0, none⟩ = some (.slice A0_0 l0_0.length c0_0) := (blk_cell BK170.out 0).trans rfl; have hcz56_1 : w55.cell? ⟨gb170, 1, none⟩ = some (.slice A0_1 l0_1.length c0_1) := (blk_cell BK170.out 1).trans rfl; have hfz56_0 := blk_frozen BK170.out 0; have hfz56_1 := blk_frozen BK170.out 1; have hnb57 := NB172_173.out; have hnc57 := NB173_172.out; have hcz58_0 : w55.cell? ⟨gb172, 0, none⟩ = some (.slice none 0 0) := (blk_cell BK172.out 0).trans rfl; have hcz58_1 : w55.cell? ⟨gb172, 1, none⟩ = some (.slice none 0 0) := (blk_cell BK172.out 1).trans rfl; have hfz58_0 := blk_frozen BK172.out 0; have hfz58_1 := blk_frozen BK172.out 1; have hcz59_0 : w55.cell? ⟨gb173, 0, none⟩ = some (.int .i64 0) := (blk_cell BK173.out 0).trans rfl; have hcz59_1 : w55.cell? ⟨gb173, 1, none⟩ = some (.bool false) := (blk_cell BK173.out 1).trans rfl; have hcz59_2 : w55.cell? ⟨gb173, 2, none⟩ = some (.slice none 0 0) := (blk_cell BK173.out 2).trans rfl; have hcz59_3 : w55.cell? ⟨gb173, 3, none⟩ = some (.slice none 0 0) := (blk_cell BK173.out 3).trans rfl; have hfz59_0 := blk_frozen BK173.out 0; have hfz59_1 := blk_frozen BK173.out 1; have hfz59_2 := blk_frozen BK173.out 2; have hfz59_3 := blk_frozen BK173.out 3))
        refine bodyPost_ret (results_cc rfl _ _ gb172 gb173 26 46 #[.slice A0_0 l0_0.length c0_0, .slice A0_1 l0_1.length c0_1] #[.int .i64 t186, .bool t187, .slice none 0 0, .slice none 0 0] (0, 0) (0, 0) _ _ rfl (by (with_reducible repeat (first | refine blk_drewN ?_ _ | refine blk_drew ?_ | refine blk_alloc ?_ _)); refine blk_far ?_ NB172_173.out _; (with_reducible repeat (first | refine blk_drewN ?_ _ | refine blk_drew ?_ | refine blk_alloc ?_ _)); refine blk_far ?_ NB172_173.out _; (with_reducible repeat (first | refine blk_drewN ?_ _ | refine blk_drew ?_ | refine blk_alloc ?_ _)); refine blk_far ?_ NB172_173.out _; (with_reducible repeat (first | refine blk_drewN ?_ _ | refine blk_drew ?_ | refine blk_alloc ?_ _)); refine blk_far ?_ NB172_173.out _; (with_reducible repeat (first | refine blk_drewN ?_ _ | refine blk_drew ?_ | refine blk_alloc ?_ _)); refine blk_put (cs := #[.slice A0_0 l0_0.length c0_0, .slice none 0 0]) ?_ 1 _ rfl; (with_reducible repeat (first | refine blk_drewN ?_ _ | refine blk_drew ?_ | refine blk_alloc ?_ _)); refine blk_put (cs := #[.slice none 0 0, .slice none 0 0]) ?_ 0 _ rfl; (with_reducible repeat (first | refine blk_drewN ?_ _ | refine blk_drew ?_ | refine blk_alloc ?_ _)); exact BK172.out) Try.underlying26 rfl (by kernel_rfl) rfl (by (with_reducible repeat (first | refine blk_drewN ?_ _ | refine blk_drew ?_ | refine blk_alloc ?_ _)); refine blk_put (cs := #[.int .i64 t186, .bool t187, .slice none 0 0, .slice none 0 0]) ?_ 3 _ rfl; (with_reducible repeat (first | refine blk_drewN ?_ _ | refine blk_drew ?_ | refine blk_alloc ?_ _)); refine blk_put (cs := #[.int .i64 t186, .bool t187, .slice none 0 0, .slice none 0 0]) ?_ 2 _ rfl; (with_reducible repeat (first | refine blk_drewN ?_ _ | refine blk_drew ?_ | refine blk_alloc ?_ _)); refine blk_put (cs := #[.int .i64 t186, .bool false, .slice none 0 0, .slice none 0 0]) ?_ 1 _ rfl; (with_reducible repeat (first | refine blk_drewN ?_ _ | refine blk_drew ?_ | refine blk_alloc ?_ _)); refine blk_put (cs := #[.int .i64 0, .bool false, .slice none 0 0, .slice none 0 0]) ?_ 0 _ rfl; (with_reducible repeat (first | refine blk_drewN ?_ _ | refine blk_drew ?_ | refine blk_alloc ?_ _)); refine blk_far ?_ NB173_172.out _; (with_reducible repeat (first | refine blk_drewN ?_ _ | refine blk_drew ?_ | refine blk_alloc ?_ _)); refine blk_far ?_ NB173_172.out _; (with_reducible repeat (first | refine blk_drewN ?_ _ | refine blk_drew ?_ | refine blk_alloc ?_ _)); exact BK173.out) Try.underlying46 rfl (by kernel_rfl)) rfl ?_
        exact ⟨_, _, _, _, by first | rfl | (simp [errW_none, errW_some] <;> rfl) | (simp [*, errW_none, errW_some] <;> rfl), by (with_reducible repeat (first | apply Kd.V_alloc | apply Kd.V_drewN | apply Kd.V_drew)); exact Kd.V_mono (Kd.V_far (p := ⟨gb173, 3, none⟩) (Kd.V_far (p := ⟨gb173, 2, none⟩) (Kd.V_far (p := ⟨gb173, 1, none⟩) (Kd.V_far (p := ⟨gb173, 0, none⟩) (Kd.V_far (p := ⟨gb172, 1, none⟩) (Kd.V_far (p := ⟨gb172, 0, none⟩) (Kd.V_mono (Kd.V_mono HO0_0.out (fun k_ hk => (⟨hk, hk.1.2⟩ : _ ∧ k_ ≠ gb172))) (fun k_ hk => (⟨hk, hk.1.2⟩ : _ ∧ k_ ≠ gb173))) (fun _ hk => hk.1.2) (.slice A0_0 l0_0.length c0_0)) (fun _ hk => hk.1.2) (.slice A0_1 l0_1.length c0_1)) (fun _ hk => hk.2) (.int .i64 t186)) (fun _ hk => hk.2) (.bool t187)) (fun _ hk => hk.2) (.slice none 0 0)) (fun _ hk => hk.2) (.slice none 0 0)) (fun _ hk => hk.1.1.1.1.1.1), by (with_reducible repeat (first | apply Kd.V_alloc | apply Kd.V_drewN | apply Kd.V_drew)); exact Kd.V_mono (Kd.V_far (p := ⟨gb173, 3, none⟩) (Kd.V_far (p := ⟨gb173, 2, none⟩) (Kd.V_far (p := ⟨gb173, 1, none⟩) (Kd.V_far (p := ⟨gb173, 0, none⟩) (Kd.V_far (p := ⟨gb172, 1, none⟩) (Kd.V_far (p := ⟨gb172, 0, none⟩) (Kd.V_mono (Kd.V_mono HO0_1.out (fun k_ hk => (⟨hk, hk.1.2⟩ : _ ∧ k_ ≠ gb172))) (fun k_ hk => (⟨hk, hk.1.2⟩ : _ ∧ k_ ≠ gb173))) (fun _ hk => hk.1.2) (.slice A0_0 l0_0.length c0_0)) (fun _ hk => hk.1.2) (.slice A0_1 l0_1.length c0_1)) (fun _ hk => hk.2) (.int .i64 t186)) (fun _ hk => hk.2) (.bool t187)) (fun _ hk => hk.2) (.slice none 0 0)) (fun _ hk => hk.2) (.slice none 0 0)) (fun _ hk => hk.1.1.1.1.1.1), Kd.V_nil _ _ _ _ _, Kd.V_nil _ _ _ _ _, by repeat (first | (with_reducible first | exact HB.out | apply below_alloc | apply pw_below_drewN | apply below_drew1 | refine below_set ?_ GE170.out | refine below_set ?_ GE171.out | refine below_set ?_ GE172.out | refine below_set ?_ GE173.out) | exact HB.out)⟩
      · rw [if_neg c42] at H
        have c42b0 : (a2_0 == 2) = false := beq_eq_false_iff_ne.mpr c42
        have c42b1 : (a2_0 != 2) = true := bne_iff_ne.mpr c42
        by_cases c60 : a2_0 = 3
        · rw [if_pos c60] at H
          have c60b0 : (a2_0 == 3) = true := beq_iff_eq.mpr c60
          have c60b1 : (a2_0 != 3) = false := bne_eq_false_iff_eq.mpr c60
          clear c60
          simp only [Option.some.injEq, Prod.mk.injEq] at H
          obtain ⟨rfl, rfl, rfl, rfl, rfl, rfl⟩ := H
          go_enter Try.func48, Try.ntmps48
          try go_wp2_with (first | ((with_reducible refine gate_dst (N := 3) rfl ?_); refine box_event ?hg (N := 3) ?hd (cs := #[.slice A0_0 l0_0.length c0_0, .slice A0_1 l0_1.length c0_1]) (t := 26) ?hr ?_; (case hd => rfl); (case hg => rfl); (case hr => first | (go_simp; done) | (go_simp; rfl)); intro gb170 hg w61 hbox hb; have n0_ := Aside0.mk (Kd.V_below (Kd.V_elderB (by (with_reducible repeat (first | apply Kd.V_alloc | apply Kd.V_drewN | apply Kd.V_drew)); exact HO0_0.out) gb170 (Nat.le_of_eq hg.symm)) hb); have n1_ := Aside0.mk (Kd.V_below (Kd.V_elderB (by (with_reducible repeat (first | apply Kd.V_alloc | apply Kd.V_drewN | apply Kd.V_drew)); exact HO0_1.out) gb170 (Nat.le_of_eq hg.symm)) hb); have n2_ := Aside0.mk (below_step (by repeat (first | (with_reducible first | exact HB.out | apply below_alloc | apply pw_below_drewN | apply below_drew1) | exact HB.out)) hb); have n3_ := Aside0.mk (hbox); have n4_ := Aside0.mk ((by rw [hg]; exact (below_size (by repeat (first | (with_reducible first | exact HB.out | apply below_alloc | apply pw_below_drewN | apply below_drew1) | exact HB.out))) : w.heap.size ≤ gb170)); have n5_ := Aside0.mk ((by rw [hg]; exact (below_size (by repeat (first | (with_reducible first | exact HB.out | apply below_alloc | apply pw_below_drewN | apply below_drew1) | exact HB.out))) : w.heap.size ≤ gb170)); clear HO0_0; clear HO0_1; clear HB; have HO0_0 := n0_; have HO0_1 := n1_; have HB := n2_; have BK170 := n3_; have GW170 := n4_; have GE170 := n5_; clear n0_ n1_ n2_ n3_ n4_ n5_; clear hb hbox hg) | ((with_reducible refine gate_dst (N := 5) rfl ?_); refine box_event ?hg (N := 5) ?hd (cs := #[.int .i64 a2_0, .int .i64 a2_1, .int .i64 a2_2]) (t := 66) ?hr ?_; (case hd => rfl); (case hg => rfl); (case hr => first | (go_simp; done) | (go_simp; rfl)); intro gb171 hg w62 hbox hb; have n0_ := Aside0.mk (Kd.V_below (Kd.V_elderB (by (with_reducible repeat (first | apply Kd.V_alloc | apply Kd.V_drewN | apply Kd.V_drew)); exact HO0_0.out) gb171 (Nat.le_of_eq hg.symm)) hb); have n1_ := Aside0.mk (Kd.V_below (Kd.V_elderB (by (with_reducible repeat (first | apply Kd.V_alloc | apply Kd.V_drewN | apply Kd.V_drew)); exact HO0_1.out) gb171 (Nat.le_of_eq hg.symm)) hb); have n2_ := Aside0.mk (blk_below (g := gb170) (o := .cells #[.slice A0_0 l0_0.length c0_0, .slice A0_1 l0_1.length c0_1] 26 (0, 0)) (by (with_reducible repeat (first | refine blk_drewN ?_ _ | refine blk_drew ?_ | refine blk_alloc ?_ _)); exact BK170.out) hb); have n3_ := Aside0.mk (below_step (by repeat (first | (with_reducible first | exact HB.out | apply below_alloc | apply pw_below_drewN | apply below_drew1 | refine below_set ?_ GE170.out) | exact HB.out)) hb); have n4_ := Aside0.mk (hbox); have n5_ := Aside0.mk ((by rw [hg]; exact (below_size (by repeat (first | (with_reducible first | exact HB.out | apply below_alloc | apply pw_below_drewN | apply below_drew1 | refine below_set ?_ GE170.out) | exact HB.out))) : w.heap.size ≤ gb171)); have n6_ := Aside0.mk ((by rw [hg]; exact (below_size (by repeat (first | (with_reducible first | exact HB.out | apply below_alloc | apply pw_below_drewN | apply below_drew1 | refine below_set ?_ GE170.out) | exact HB.out))) : w.heap.size ≤ gb171)); have n7_ := Aside0.mk ((by rw [hg]; exact Nat.ne_of_lt (blk_lt (g := gb170) (o := .cells #[.slice A0_0 l0_0.length c0_0, .slice A0_1 l0_1.length c0_1] 26 (0, 0)) (by (with_reducible repeat (first | refine blk_drewN ?_ _ | refine blk_drew ?_ | refine blk_alloc ?_ _)); exact BK170.out)) : gb170 ≠ gb171)); have n8_ := Aside0.mk ((by rw [hg]; exact Nat.ne_of_gt (blk_lt (g := gb170) (o := .cells #[.slice A0_0 l0_0.length c0_0, .slice A0_1 l0_1.length c0_1] 26 (0, 0)) (by (with_reducible repeat (first | refine blk_drewN ?_ _ | refine blk_drew ?_ | refine blk_alloc ?_ _)); exact BK170.out)) : gb171 ≠ gb170)); clear HO0_0; clear HO0_1; clear BK170; clear HB; have HO0_0 := n0_; have HO0_1 := n1_; have BK170 := n2_; have HB := n3_; have BK171 := n4_; have GW171 := n5_; have GE171 := n6_; have NB170_171 := n7_; have NB171_170 := n8_; clear n0_ n1_ n2_ n3_ n4_ n5_ n6_ n7_ n8_; clear hb hbox hg) | ((with_reducible refine gate_dst (N := 6) rfl ?_); refine box_event ?hg (N := 6) ?hd (cs := #[.slice none 0 0, .slice none 0 0]) (t := 26) ?hr ?_; (case hd => rfl); (case hg => rfl); (case hr => first | (go_simp; done) | (go_simp; rfl)); intro gb172 hg w63 hbox hb; have n0_ := Aside0.mk (Kd.V_below (Kd.V_elderB (by (with_reducible repeat (first | apply Kd.V_alloc | apply Kd.V_drewN | apply Kd.V_drew)); exact HO0_0.out) gb172 (Nat.le_of_eq hg.symm)) hb); have n1_ := Aside0.mk (Kd.V_below (Kd.V_elderB (by (with_reducible repeat (first | apply Kd.V_alloc | apply Kd.V_drewN | apply Kd.V_drew)); exact HO0_1.out) gb172 (Nat.le_of_eq hg.symm)) hb); have n2_ := Aside0.mk (blk_below (g := gb170) (o := .cells #[.slice A0_0 l0_0.length c0_0, .slice A0_1 l0_1.length c0_1] 26 (0, 0)) (by (with_reducible repeat (first | refine blk_drewN ?_ _ | refine blk_drew ?_ | refine blk_alloc ?_ _)); exact BK170.out) hb); have n3_ := Aside0.mk (blk_below (g := gb171) (o := .cells #[.int .i64 a2_0, .int .i64 a2_1, .int .i64 a2_2] 66 (0, 0)) (by (with_reducible repeat (first | refine blk_drewN ?_ _ | refine blk_drew ?_ | refine blk_alloc ?_ _)); exact BK171.out) hb); have n4_ := Aside0.mk (below_step (by repeat (first | (with_reducible first | exact HB.out | apply below_alloc | apply pw_below_drewN | apply below_drew1 | refine below_set ?_ GE170.out | refine below_set ?_ GE171.out) | exact HB.out)) hb); have n5_ := Aside0.mk (hbox); have n6_ := Aside0.mk ((by rw [hg]; exact (below_size (by repeat (first | (with_reducible first | exact HB.out | apply below_alloc | apply pw_below_drewN | apply below_drew1 | refine below_set ?_ GE170.out | refine below_set ?_ GE171.out) | exact HB.out))) : w.heap.size ≤ gb172)); have n7_ := Aside0.mk ((by rw [hg]; exact (below_size (by repeat (first | (with_reducible first | exact HB.out | apply below_alloc | apply pw_below_drewN | apply below_drew1 | refine below_set ?_ GE170.out | refine below_set ?_ GE171.out) | exact HB.out))) : w.heap.size ≤ gb172)); have n8_ := Aside0.mk ((by rw [hg]; exact Nat.ne_of_lt (blk_lt (g := gb170) (o := .cells #[.slice A0_0 l0_0.length c0_0, .slice A0_1 l0_1.length c0_1] 26 (0, 0)) (by (with_reducible repeat (first | refine blk_drewN ?_ _ | refine blk_drew ?_ | refine blk_alloc ?_ _)); exact BK170.out)) : gb170 ≠ gb172)); have n9_ := Aside0.mk ((by rw [hg]; exact Nat.ne_of_gt (blk_lt (g := gb170) (o := .cells #[.slice A0_0 l0_0.length c0_0, .slice A0_1 l0_1.length c0_1] 26 (0, 0)) (by (with_reducible repeat (first | refine blk_drewN ?_ _ | refine blk_drew ?_ | refine blk_alloc ?_ _)); exact BK170.out)) : gb172 ≠ gb170)); have n10_ := Aside0.mk ((by rw [hg]; exact Nat.ne_of_lt (blk_lt (g := gb171) (o := .cells #[.int .i64 a2_0, .int .i64 a2_1, .int .i64 a2_2] 66 (0, 0)) (by (with_reducible repeat (first | refine blk_drewN ?_ _ | refine blk_drew ?_ | refine blk_alloc ?_ _)); exact BK171.out)) : gb171 ≠ gb172)); have n11_ := Aside0.mk ((by rw [hg]; exact Nat.ne_of_gt (blk_lt (g := gb171) (o := .cells #[.int .i64 a2_0, .int .i64 a2_1, .int .i64 a2_2] 66 (0, 0)) (by (with_reducible repeat (first | refine blk_drewN ?_ _ | refine blk_drew ?_ | refine blk_alloc ?_ _)); exact BK171.out)) : gb172 ≠ gb171)); clear HO0_0; clear HO0_1; clear BK170; clear BK171; clear HB; have HO0_0 := n0_; have HO0_1 := n1_; have BK170 := n2_; have BK171 := n3_; have HB := n4_; have BK172 := n5_; have GW172 := n6_; have GE172 := n7_; have NB170_172 := n8_; have NB172_170 := n9_; have NB171_172 := n10_; have NB172_171 := n11_; clear n0_ n1_ n2_ n3_ n4_ n5_ n6_ n7_ n8_ n9_ n10_ n11_; clear hb hbox hg) | ((with_reducible refine gate_dst (N := 7) rfl ?_); refine box_event ?hg (N := 7) ?hd (cs := #[.int .i64 0, .bool false, .slice none 0 0, .slice none 0 0]) (t := 46) ?hr ?_; (case hd => rfl); (case hg => rfl); (case hr => first | (go_simp; done) | (go_simp; rfl)); intro gb173 hg w64 hbox hb; have n0_ := Aside0.mk (Kd.V_below (Kd.V_elderB (by (with_reducible repeat (first | apply Kd.V_alloc | apply Kd.V_drewN | apply Kd.V_drew)); exact HO0_0.out) gb173 (Nat.le_of_eq hg.symm)) hb); have n1_ := Aside0.mk (Kd.V_below (Kd.V_elderB (by (with_reducible repeat (first | apply Kd.V_alloc | apply Kd.V_drewN | apply Kd.V_drew)); exact HO0_1.out) gb173 (Nat.le_of_eq hg.symm)) hb); have n2_ := Aside0.mk (blk_below (g := gb170) (o := .cells #[.slice A0_0 l0_0.length c0_0, .slice A0_1 l0_1.length c0_1] 26 (0, 0)) (by (with_reducible repeat (first | refine blk_drewN ?_ _ | refine blk_drew ?_ | refine blk_alloc ?_ _)); exact BK170.out) hb); have n3_ := Aside0.mk (blk_below (g := gb171) (o := .cells #[.int .i64 a2_0, .int .i64 a2_1, .int .i64 a2_2] 66 (0, 0)) (by (with_reducible repeat (first | refine blk_drewN ?_ _ | refine blk_drew ?_ | refine blk_alloc ?_ _)); exact BK171.out) hb); have n4_ := Aside0.mk (blk_below (g := gb172) (o := .cells #[.slice none 0 0, .slice none 0 0] 26 (0, 0)) (by (with_reducible repeat (first | refine blk_drewN ?_ _ | refine blk_drew ?_ | refine blk_alloc ?_ _)); exact BK172.out) hb); have n5_ := Aside0.mk (below_step (by repeat (first | (with_reducible first | exact HB.out | apply below_alloc | apply pw_below_drewN | apply below_drew1 | refine below_set ?_ GE170.out | refine below_set ?_ GE171.out | refine below_set ?_ GE172.out) | exact HB.out)) hb); have n6_ := Aside0.mk (hbox); have n7_ := Aside0.mk ((by rw [hg]; exact (below_size (by repeat (first | (with_reducible first | exact HB.out | apply below_alloc | apply pw_below_drewN | apply below_drew1 | refine below_set ?_ GE170.out | refine below_set ?_ GE171.out | refine below_set ?_ GE172.out) | exact HB.out))) : w.heap.size ≤ gb173)); have n8_ := Aside0.mk ((by rw [hg]; exact (below_size (by repeat (first | (with_reducible first | exact HB.out | apply below_alloc | apply pw_below_drewN | apply below_drew1 | refine below_set ?_ GE170.out | refine below_set ?_ GE171.out | refine below_set ?_ GE172.out) | exact HB.out))) : w.heap.size ≤ gb173)); have n9_ := Aside0.mk ((by rw [hg]; exact Nat.ne_of_lt (blk_lt (g := gb170) (o := .cells #[.slice A0_0 l0_0.length c0_0, .slice A0_1 l0_1.length c0_1] 26 (0, 0)) (by (with_reducible repeat (first | refine blk_drewN ?_ _ | refine blk_drew ?_ | refine blk_alloc ?_ _)); exact BK170.out)) : gb170 ≠ gb173)); have n10_ := Aside0.mk ((by rw [hg]; exact Nat.ne_of_gt (blk_lt (g := gb170) (o := .cells #[.slice A0_0 l0_0.length c0_0, .slice A0_1 l0_1.length c0_1] 26 (0, 0)) (by (with_reducible repeat (first | refine blk_drewN ?_ _ | refine blk_drew ?_ | refine blk_alloc ?_ _)); exact BK170.out)) : gb173 ≠ gb170)); have n11_ := Aside0.mk ((by rw [hg]; exact Nat.ne_of_lt (blk_lt (g := gb171) (o := .cells #[.int .i64 a2_0, .int .i64 a2_1, .int .i64 a2_2] 66 (0, 0)) (by (with_reducible repeat (first | refine blk_drewN ?_ _ | refine blk_drew ?_ | refine blk_alloc ?_ _)); exact BK171.out)) : gb171 ≠ gb173)); have n12_ := Aside0.mk ((by rw [hg]; exact Nat.ne_of_gt (blk_lt (g := gb171) (o := .cells #[.int .i64 a2_0, .int .i64 a2_1, .int .i64 a2_2] 66 (0, 0)) (by (with_reducible repeat (first | refine blk_drewN ?_ _ | refine blk_drew ?_ | refine blk_alloc ?_ _)); exact BK171.out)) : gb173 ≠ gb171)); have n13_ := Aside0.mk ((by rw [hg]; exact Nat.ne_of_lt (blk_lt (g := gb172) (o := .cells #[.slice none 0 0, .slice none 0 0] 26 (0, 0)) (by (with_reducible repeat (first | refine blk_drewN ?_ _ | refine blk_drew ?_ | refine blk_alloc ?_ _)); exact BK172.out)) : gb172 ≠ gb173)); have n14_ := Aside0.mk ((by rw [hg]; exact Nat.ne_of_gt (blk_lt (g := gb172) (o := .cells #[.slice none 0 0, .slice none 0 0] 26 (0, 0)) (by (with_reducible repeat (first | refine blk_drewN ?_ _ | refine blk_drew ?_ | refine blk_alloc ?_ _)); exact BK172.out)) : gb173 ≠ gb172)); clear HO0_0; clear HO0_1; clear BK170; clear BK171; clear BK172; clear HB; have HO0_0 := n0_; have HO0_1 := n1_; have BK170 := n2_; have BK171 := n3_; have BK172 := n4_; have HB := n5_; have BK173 := n6_; have GW173 := n7_; have GE173 := n8_; have NB170_173 := n9_; have NB173_170 := n10_; have NB171_173 := n11_; have NB173_171 := n12_; have NB172_173 := n13_; have NB173_172 := n14_; clear n0_ n1_ n2_ n3_ n4_ n5_ n6_ n7_ n8_ n9_ n10_ n11_ n12_ n13_ n14_; clear hb hbox hg; have hnb65 := NB171_170.out; have hnc65 := NB170_171.out; have hnb66 := NB171_172.out; have hnc66 := NB172_171.out; have hnb67 := NB171_173.out; have hnc67 := NB173_171.out; have hcz68_0 : w64.cell? ⟨gb171, 0, none⟩ = some (.int .i64 a2_0) := (blk_cell BK171.out 0).trans rfl; have hcz68_1 : w64.cell? ⟨gb171, 1, none⟩ = some (.int .i64 a2_1) := (blk_cell BK171.out 1).trans rfl; have hcz68_2 : w64.cell? ⟨gb171, 2, none⟩ = some (.int .i64 a2_2) := (blk_cell BK171.out 2).trans rfl; have hfz68_0 := blk_frozen BK171.out 0; have hfz68_1 := blk_frozen BK171.out 1; have hfz68_2 := blk_frozen BK171.out 2))
          have n0_ := Aside0.mk (Kd.V_drew HO0_0.out)
          have n1_ := Aside0.mk (Kd.V_drew HO0_1.out)
          have n2_ := Aside0.mk (blk_drew BK170.out)
          have n3_ := Aside0.mk (blk_drew BK171.out)
          have n4_ := Aside0.mk (blk_drew BK172.out)
          have n5_ := Aside0.mk (blk_drew BK173.out)
          have n6_ := Aside0.mk (below_drew1 HB.out)
          clear HO0_0
          clear HO0_1
          clear BK170
          clear BK171
          clear BK172
          clear BK173
          clear HB
          have HO0_0 := n0_
          have HO0_1 := n1_
          have BK170 := n2_
          have BK171 := n3_
          have BK172 := n4_
          have BK173 := n5_
          have HB := n6_
          clear n0_ n1_ n2_ n3_ n4_ n5_ n6_
          refine start_ (n := 7) (S := fun w' => w'.cell? ⟨gb170, 0, none⟩ = some (.slice A0_0 l0_0.length c0_0) ∧ w'.cell? ⟨gb170, 1, none⟩ = some (.slice A0_1 l0_1.length c0_1)) (ds := []) #[false, false, false, false, false, false, false] (by kernel_rfl) rfl rfl ⟨(blk_cell BK170.out 0).trans rfl, (blk_cell BK170.out 1).trans rfl⟩ (fun hHeld => ?_)
          generalize w64.drew = w69 at HO0_0 HO0_1 BK170 BK171 BK172 BK173 HB hHeld ⊢
          refine pure_ (i := 1) (N := some 47) (v := ?_) (a' := ?_) #[false, true, false, false, false, false, false] rfl rfl (by kernel_rfl) (fun _ _ _ h => h) (Or.inl ⟨by rfl, ?_⟩) ?_ ?_
          rotate_left
          · intro w'
            go_simp
            with_reducible rfl
          rotate_left
          · simp only [Act.put, List.setIfInBounds_toArray, List.set_cons_zero, List.set_cons_succ, i64_w, i32_w]
            rfl
          refine take_ (i := 0) (N := some 46) (v := ?_) (a' := ?_) #[true, true, false, false, false, false, false] rfl rfl (by kernel_rfl) (fun _ _ _ h => h) (Or.inl ⟨by rfl, ?_⟩) hHeld ?_ ?_
          rotate_left
          · rintro w' ⟨s0, s1⟩
            go_simp
            with_reducible rfl
          rotate_left
          · simp only [Act.put, List.setIfInBounds_toArray, List.set_cons_zero, List.set_cons_succ, i64_w, i32_w]
            rfl
          refine take_ (i := 2) (N := some 48) (v := ?_) (a' := ?_) #[true, true, true, false, false, false, false] rfl rfl (by kernel_rfl) (fun _ _ _ h => h) (Or.inl ⟨by rfl, ?_⟩) hHeld ?_ ?_
          rotate_left
          · rintro w' ⟨s0, s1⟩
            go_simp
            with_reducible rfl
          rotate_left
          · simp only [Act.put, List.setIfInBounds_toArray, List.set_cons_zero, List.set_cons_succ, i64_w, i32_w]
            rfl
          refine pure_ (i := 3) (N := some 49) (v := ?_) (a' := ?_) #[true, true, true, true, false, false, false] rfl rfl (by kernel_rfl) (fun _ _ _ h => h) (Or.inl ⟨by rfl, ?_⟩) ?_ ?_
          rotate_left
          · intro w'
            go_simp
            with_reducible rfl
          rotate_left
          · simp only [Act.put, List.setIfInBounds_toArray, List.set_cons_zero, List.set_cons_succ, i64_w, i32_w]
            rfl
          refine pure_ (i := 4) (N := some 50) (v := ?_) (a' := ?_) #[true, true, true, true, true, false, false] rfl rfl (by kernel_rfl) (fun _ _ _ h => h) (Or.inl ⟨by rfl, ?_⟩) ?_ ?_
          rotate_left
          · intro w'
            go_simp
            with_reducible rfl
          rotate_left
          · simp only [Act.put, List.setIfInBounds_toArray, List.set_cons_zero, List.set_cons_succ, i64_w, i32_w]
            rfl
          refine one_ (i := 5) (N := none) #[true, true, true, true, true, true, false] rfl rfl (by kernel_rfl) (by decide) (fun K hK => ?_)
          have hs70 : w69.cell? ⟨gb172, 0, none⟩ = some (.slice none 0 0) := (blk_cell BK172.out 0).trans rfl
          have hfs70 := blk_frozen BK172.out 0
          have hns70_0 := NB170_172.out
          have hns70_1 := NB171_172.out
          have hns70_3 := NB173_172.out
          have hms70_0 := NB172_170.out
          have hms70_1 := NB172_171.out
          have hms70_3 := NB172_173.out
          have hs71 : w69.cell? ⟨gb172, 1, none⟩ = some (.slice none 0 0) := (blk_cell BK172.out 1).trans rfl
          have hfs71 := blk_frozen BK172.out 1
          have hns71_0 := NB170_172.out
          have hns71_1 := NB171_172.out
          have hns71_3 := NB173_172.out
          have hms71_0 := NB172_170.out
          have hms71_1 := NB172_171.out
          have hms71_3 := NB172_173.out
          refine skip_ (w1 := ?_) (by rfl) rfl ?_ ?_
          rotate_left
          · go_simp
            rfl
          refine hK.out _ _ ⟨((cell_far (p := ⟨gb172, _, none⟩) NB170_172.out _).trans (((cell_far (p := ⟨gb172, _, none⟩) NB170_172.out _).trans (hHeld.1)))), ((cell_far (p := ⟨gb172, _, none⟩) NB170_172.out _).trans (((cell_far (p := ⟨gb172, _, none⟩) NB170_172.out _).trans (hHeld.2))))⟩ (fun hHeld => ?_)
          clear hK K
          refine one_ (i := 6) (N := none) #[true, true, true, true, true, true, true] rfl rfl (by kernel_rfl) (by decide) (fun K hK => ?_)
          have hs72 : w69.cell? ⟨gb173, 0, none⟩ = some (.int .i64 0) := (blk_cell BK173.out 0).trans rfl
          have hfs72 := blk_frozen BK173.out 0
          have hns72_0 := NB170_173.out
          have hns72_1 := NB171_173.out
          have hns72_2 := NB172_173.out
          have hms72_0 := NB173_170.out
          have hms72_1 := NB173_171.out
          have hms72_2 := NB173_172.out
          have hs73 : w69.cell? ⟨gb173, 1, none⟩ = some (.bool false) := (blk_cell BK173.out 1).trans rfl
          have hfs73 := blk_frozen BK173.out 1
          have hns73_0 := NB170_173.out
          have hns73_1 := NB171_173.out
          have hns73_2 := NB172_173.out
          have hms73_0 := NB173_170.out
          have hms73_1 := NB173_171.out
          have hms73_2 := NB173_172.out
          have hs74 : w69.cell? ⟨gb173, 2, none⟩ = some (.slice none 0 0) := (blk_cell BK173.out 2).trans rfl
          have hfs74 := blk_frozen BK173.out 2
          have hns74_0 := NB170_173.out
          have hns74_1 := NB171_173.out
          have hns74_2 := NB172_173.out
          have hms74_0 := NB173_170.out
          have hms74_1 := NB173_171.out
          have hms74_2 := NB173_172.out
          have hs75 : w69.cell? ⟨gb173, 3, none⟩ = some (.slice none 0 0) := (blk_cell BK173.out 3).trans rfl
          have hfs75 := blk_frozen BK173.out 3
          have hns75_0 := NB170_173.out
          have hns75_1 := NB171_173.out
          have hns75_2 := NB172_173.out
          have hms75_0 := NB173_170.out
          have hms75_1 := NB173_171.out
          have hms75_2 := NB173_172.out
          refine skip_ (w1 := ?_) (by rfl) rfl ?_ ?_
          rotate_left
          · go_simp
            rfl
          refine hK.out _ _ ⟨((cell_far (p := ⟨gb173, _, none⟩) NB170_173.out _).trans (((cell_far (p := ⟨gb173, _, none⟩) NB170_173.out _).trans (((cell_far (p := ⟨gb173, _, none⟩) NB170_173.out _).trans (((cell_far (p := ⟨gb173, _, none⟩) NB170_173.out _).trans (hHeld.1)))))))), ((cell_far (p := ⟨gb173, _, none⟩) NB170_173.out _).trans (((cell_far (p := ⟨gb173, _, none⟩) NB170_173.out _).trans (((cell_far (p := ⟨gb173, _, none⟩) NB170_173.out _).trans (((cell_far (p := ⟨gb173, _, none⟩) NB170_173.out _).trans (hHeld.2))))))))⟩ (fun hHeld => ?_)
          clear hK K
          refine done_ (by kernel_rfl) ?_
          try go_wp2
          refine bodyPost_ret (results_cc rfl _ _ gb172 gb173 26 46 #[.slice A0_0 l0_0.length c0_0, .slice A0_1 l0_1.length c0_1] #[.int .i64 (l0_0.length : Int), .bool false, .slice none 0 0, .slice none 0 0] (0, 0) (0, 0) _ _ rfl (by (with_reducible repeat (first | refine blk_drewN ?_ _ | refine blk_drew ?_ | refine blk_alloc ?_ _)); refine blk_far ?_ NB172_173.out _; (with_reducible repeat (first | refine blk_drewN ?_ _ | refine blk_drew ?_ | refine blk_alloc ?_ _)); refine blk_far ?_ NB172_173.out _; (with_reducible repeat (first | refine blk_drewN ?_ _ | refine blk_drew ?_ | refine blk_alloc ?_ _)); refine blk_far ?_ NB172_173.out _; (with_reducible repeat (first | refine blk_drewN ?_ _ | refine blk_drew ?_ | refine blk_alloc ?_ _)); refine blk_far ?_ NB172_173.out _; (with_reducible repeat (first | refine blk_drewN ?_ _ | refine blk_drew ?_ | refine blk_alloc ?_ _)); refine blk_put (cs := #[.slice A0_0 l0_0.length c0_0, .slice none 0 0]) ?_ 1 _ rfl; (with_reducible repeat (first | refine blk_drewN ?_ _ | refine blk_drew ?_ | refine blk_alloc ?_ _)); refine blk_put (cs := #[.slice none 0 0, .slice none 0 0]) ?_ 0 _ rfl; (with_reducible repeat (first | refine blk_drewN ?_ _ | refine blk_drew ?_ | refine blk_alloc ?_ _)); exact BK172.out) Try.underlying26 rfl (by kernel_rfl) rfl (by (with_reducible repeat (first | refine blk_drewN ?_ _ | refine blk_drew ?_ | refine blk_alloc ?_ _)); refine blk_put (cs := #[.int .i64 (l0_0.length : Int), .bool false, .slice none 0 0, .slice none 0 0]) ?_ 3 _ rfl; (with_reducible repeat (first | refine blk_drewN ?_ _ | refine blk_drew ?_ | refine blk_alloc ?_ _)); refine blk_put (cs := #[.int .i64 (l0_0.length : Int), .bool false, .slice none 0 0, .slice none 0 0]) ?_ 2 _ rfl; (with_reducible repeat (first | refine blk_drewN ?_ _ | refine blk_drew ?_ | refine blk_alloc ?_ _)); refine blk_put (cs := #[.int .i64 (l0_0.length : Int), .bool false, .slice none 0 0, .slice none 0 0]) ?_ 1 _ rfl; (with_reducible repeat (first | refine blk_drewN ?_ _ | refine blk_drew ?_ | refine blk_alloc ?_ _)); refine blk_put (cs := #[.int .i64 0, .bool false, .slice none 0 0, .slice none 0 0]) ?_ 0 _ rfl; (with_reducible repeat (first | refine blk_drewN ?_ _ | refine blk_drew ?_ | refine blk_alloc ?_ _)); refine blk_far ?_ NB173_172.out _; (with_reducible repeat (first | refine blk_drewN ?_ _ | refine blk_drew ?_ | refine blk_alloc ?_ _)); refine blk_far ?_ NB173_172.out _; (with_reducible repeat (first | refine blk_drewN ?_ _ | refine blk_drew ?_ | refine blk_alloc ?_ _)); exact BK173.out) Try.underlying46 rfl (by kernel_rfl)) rfl ?_
          exact ⟨_, _, _, _, by first | rfl | (simp [errW_none, errW_some] <;> rfl) | (simp [*, errW_none, errW_some] <;> rfl), by (with_reducible repeat (first | apply Kd.V_alloc | apply Kd.V_drewN | apply Kd.V_drew)); exact Kd.V_mono (Kd.V_far (p := ⟨gb173, 3, none⟩) (Kd.V_far (p := ⟨gb173, 2, none⟩) (Kd.V_far (p := ⟨gb173, 1, none⟩) (Kd.V_far (p := ⟨gb173, 0, none⟩) (Kd.V_far (p := ⟨gb172, 1, none⟩) (Kd.V_far (p := ⟨gb172, 0, none⟩) (Kd.V_mono (Kd.V_mono HO0_0.out (fun k_ hk => (⟨hk, hk.1.2⟩ : _ ∧ k_ ≠ gb172))) (fun k_ hk => (⟨hk, hk.1.2⟩ : _ ∧ k_ ≠ gb173))) (fun _ hk => hk.1.2) (.slice A0_0 l0_0.length c0_0)) (fun _ hk => hk.1.2) (.slice A0_1 l0_1.length c0_1)) (fun _ hk => hk.2) (.int .i64 (l0_0.length : Int))) (fun _ hk => hk.2) (.bool false)) (fun _ hk => hk.2) (.slice none 0 0)) (fun _ hk => hk.2) (.slice none 0 0)) (fun _ hk => hk.1.1.1.1.1.1), by (with_reducible repeat (first | apply Kd.V_alloc | apply Kd.V_drewN | apply Kd.V_drew)); exact Kd.V_mono (Kd.V_far (p := ⟨gb173, 3, none⟩) (Kd.V_far (p := ⟨gb173, 2, none⟩) (Kd.V_far (p := ⟨gb173, 1, none⟩) (Kd.V_far (p := ⟨gb173, 0, none⟩) (Kd.V_far (p := ⟨gb172, 1, none⟩) (Kd.V_far (p := ⟨gb172, 0, none⟩) (Kd.V_mono (Kd.V_mono HO0_1.out (fun k_ hk => (⟨hk, hk.1.2⟩ : _ ∧ k_ ≠ gb172))) (fun k_ hk => (⟨hk, hk.1.2⟩ : _ ∧ k_ ≠ gb173))) (fun _ hk => hk.1.2) (.slice A0_0 l0_0.length c0_0)) (fun _ hk => hk.1.2) (.slice A0_1 l0_1.length c0_1)) (fun _ hk => hk.2) (.int .i64 (l0_0.length : Int))) (fun _ hk => hk.2) (.bool false)) (fun _ hk => hk.2) (.slice none 0 0)) (fun _ hk => hk.2) (.slice none 0 0)) (fun _ hk => hk.1.1.1.1.1.1), Kd.V_nil _ _ _ _ _, Kd.V_nil _ _ _ _ _, by repeat (first | (with_reducible first | exact HB.out | apply below_alloc | apply pw_below_drewN | apply below_drew1 | refine below_set ?_ GE170.out | refine below_set ?_ GE171.out | refine below_set ?_ GE172.out | refine below_set ?_ GE173.out) | exact HB.out)⟩
        · rw [if_neg c60] at H
          have c60b0 : (a2_0 == 3) = false := beq_eq_false_iff_ne.mpr c60
          have c60b1 : (a2_0 != 3) = true := bne_iff_ne.mpr c60
          by_cases c76 : a2_0 = 4
          · rw [if_pos c76] at H
            have c76b0 : (a2_0 == 4) = true := beq_iff_eq.mpr c76
            have c76b1 : (a2_0 != 4) = false := bne_eq_false_iff_eq.mpr c76
            clear c76
            simp only [Option.some.injEq, Prod.mk.injEq] at H
            obtain ⟨rfl, rfl, rfl, rfl, rfl, rfl⟩ := H
            go_enter Try.func48, Try.ntmps48
            try go_wp2_with (first | ((with_reducible refine gate_dst (N := 3) rfl ?_); refine box_event ?hg (N := 3) ?hd (cs := #[.slice A0_0 l0_0.length c0_0, .slice A0_1 l0_1.length c0_1]) (t := 26) ?hr ?_; (case hd => rfl); (case hg => rfl); (case hr => first | (go_simp; done) | (go_simp; rfl)); intro gb170 hg w77 hbox hb; have n0_ := Aside0.mk (Kd.V_below (Kd.V_elderB (by (with_reducible repeat (first | apply Kd.V_alloc | apply Kd.V_drewN | apply Kd.V_drew)); exact HO0_0.out) gb170 (Nat.le_of_eq hg.symm)) hb); have n1_ := Aside0.mk (Kd.V_below (Kd.V_elderB (by (with_reducible repeat (first | apply Kd.V_alloc | apply Kd.V_drewN | apply Kd.V_drew)); exact HO0_1.out) gb170 (Nat.le_of_eq hg.symm)) hb); have n2_ := Aside0.mk (below_step (by repeat (first | (with_reducible first | exact HB.out | apply below_alloc | apply pw_below_drewN | apply below_drew1) | exact HB.out)) hb); have n3_ := Aside0.mk (hbox); have n4_ := Aside0.mk ((by rw [hg]; exact (below_size (by repeat (first | (with_reducible first | exact HB.out | apply below_alloc | apply pw_below_drewN | apply below_drew1) | exact HB.out))) : w.heap.size ≤ gb170)); have n5_ := Aside0.mk ((by rw [hg]; exact (below_size (by repeat (first | (with_reducible first | exact HB.out | apply below_alloc | apply pw_below_drewN | apply below_drew1) | exact HB.out))) : w.heap.size ≤ gb170)); clear HO0_0; clear HO0_1; clear HB; have HO0_0 := n0_; have HO0_1 := n1_; have HB := n2_; have BK170 := n3_; have GW170 := n4_; have GE170 := n5_; clear n0_ n1_ n2_ n3_ n4_ n5_; clear hb hbox hg) | ((with_reducible refine gate_dst (N := 5) rfl ?_); refine box_event ?hg (N := 5) ?hd (cs := #[.int .i64 a2_0, .int .i64 a2_1, .int .i64 a2_2]) (t := 66) ?hr ?_; (case hd => rfl); (case hg => rfl); (case hr => first | (go_simp; done) | (go_simp; rfl)); intro gb171 hg w78 hbox hb; have n0_ := Aside0.mk (Kd.V_below (Kd.V_elderB (by (with_reducible repeat (first | apply Kd.V_alloc | apply Kd.V_drewN | apply Kd.V_drew)); exact HO0_0.out) gb171 (Nat.le_of_eq hg.symm)) hb); have n1_ := Aside0.mk (Kd.V_below (Kd.V_elderB (by (with_reducible repeat (first | apply Kd.V_alloc | apply Kd.V_drewN | apply Kd.V_drew)); exact HO0_1.out) gb171 (Nat.le_of_eq hg.symm)) hb); have n2_ := Aside0.mk (blk_below (g := gb170) (o := .cells #[.slice A0_0 l0_0.length c0_0, .slice A0_1 l0_1.length c0_1] 26 (0, 0)) (by (with_reducible repeat (first | refine blk_drewN ?_ _ | refine blk_drew ?_ | refine blk_alloc ?_ _)); exact BK170.out) hb); have n3_ := Aside0.mk (below_step (by repeat (first | (with_reducible first | exact HB.out | apply below_alloc | apply pw_below_drewN | apply below_drew1 | refine below_set ?_ GE170.out) | exact HB.out)) hb); have n4_ := Aside0.mk (hbox); have n5_ := Aside0.mk ((by rw [hg]; exact (below_size (by repeat (first | (with_reducible first | exact HB.out | apply below_alloc | apply pw_below_drewN | apply below_drew1 | refine below_set ?_ GE170.out) | exact HB.out))) : w.heap.size ≤ gb171)); have n6_ := Aside0.mk ((by rw [hg]; exact (below_size (by repeat (first | (with_reducible first | exact HB.out | apply below_alloc | apply pw_below_drewN | apply below_drew1 | refine below_set ?_ GE170.out) | exact HB.out))) : w.heap.size ≤ gb171)); have n7_ := Aside0.mk ((by rw [hg]; exact Nat.ne_of_lt (blk_lt (g := gb170) (o := .cells #[.slice A0_0 l0_0.length c0_0, .slice A0_1 l0_1.length c0_1] 26 (0, 0)) (by (with_reducible repeat (first | refine blk_drewN ?_ _ | refine blk_drew ?_ | refine blk_alloc ?_ _)); exact BK170.out)) : gb170 ≠ gb171)); have n8_ := Aside0.mk ((by rw [hg]; exact Nat.ne_of_gt (blk_lt (g := gb170) (o := .cells #[.slice A0_0 l0_0.length c0_0, .slice A0_1 l0_1.length c0_1] 26 (0, 0)) (by (with_reducible repeat (first | refine blk_drewN ?_ _ | refine blk_drew ?_ | refine blk_alloc ?_ _)); exact BK170.out)) : gb171 ≠ gb170)); clear HO0_0; clear HO0_1; clear BK170; clear HB; have HO0_0 := n0_; have HO0_1 := n1_; have BK170 := n2_; have HB := n3_; have BK171 := n4_; have GW171 := n5_; have GE171 := n6_; have NB170_171 := n7_; have NB171_170 := n8_; clear n0_ n1_ n2_ n3_ n4_ n5_ n6_ n7_ n8_; clear hb hbox hg) | ((with_reducible refine gate_dst (N := 6) rfl ?_); refine box_event ?hg (N := 6) ?hd (cs := #[.slice none 0 0, .slice none 0 0]) (t := 26) ?hr ?_; (case hd => rfl); (case hg => rfl); (case hr => first | (go_simp; done) | (go_simp; rfl)); intro gb172 hg w79 hbox hb; have n0_ := Aside0.mk (Kd.V_below (Kd.V_elderB (by (with_reducible repeat (first | apply Kd.V_alloc | apply Kd.V_drewN | apply Kd.V_drew)); exact HO0_0.out) gb172 (Nat.le_of_eq hg.symm)) hb); have n1_ := Aside0.mk (Kd.V_below (Kd.V_elderB (by (with_reducible repeat (first | apply Kd.V_alloc | apply Kd.V_drewN | apply Kd.V_drew)); exact HO0_1.out) gb172 (Nat.le_of_eq hg.symm)) hb); have n2_ := Aside0.mk (blk_below (g := gb170) (o := .cells #[.slice A0_0 l0_0.length c0_0, .slice A0_1 l0_1.length c0_1] 26 (0, 0)) (by (with_reducible repeat (first | refine blk_drewN ?_ _ | refine blk_drew ?_ | refine blk_alloc ?_ _)); exact BK170.out) hb); have n3_ := Aside0.mk (blk_below (g := gb171) (o := .cells #[.int .i64 a2_0, .int .i64 a2_1, .int .i64 a2_2] 66 (0, 0)) (by (with_reducible repeat (first | refine blk_drewN ?_ _ | refine blk_drew ?_ | refine blk_alloc ?_ _)); exact BK171.out) hb); have n4_ := Aside0.mk (below_step (by repeat (first | (with_reducible first | exact HB.out | apply below_alloc | apply pw_below_drewN | apply below_drew1 | refine below_set ?_ GE170.out | refine below_set ?_ GE171.out) | exact HB.out)) hb); have n5_ := Aside0.mk (hbox); have n6_ := Aside0.mk ((by rw [hg]; exact (below_size (by repeat (first | (with_reducible first | exact HB.out | apply below_alloc | apply pw_below_drewN | apply below_drew1 | refine below_set ?_ GE170.out | refine below_set ?_ GE171.out) | exact HB.out))) : w.heap.size ≤ gb172)); have n7_ := Aside0.mk ((by rw [hg]; exact (below_size (by repeat (first | (with_reducible first | exact HB.out | apply below_alloc | apply pw_below_drewN | apply below_drew1 | refine below_set ?_ GE170.out | refine below_set ?_ GE171.out) | exact HB.out))) : w.heap.size ≤ gb172)); have n8_ := Aside0.mk ((by rw [hg]; exact Nat.ne_of_lt (blk_lt (g := gb170) (o := .cells #[.slice A0_0 l0_0.length c0_0, .slice A0_1 l0_1.length c0_1] 26 (0, 0)) (by (with_reducible repeat (first | refine blk_drewN ?_ _ | refine blk_drew ?_ | refine blk_alloc ?_ _)); exact BK170.out)) : gb170 ≠ gb172)); have n9_ := Aside0.mk ((by rw [hg]; exact Nat.ne_of_gt (blk_lt (g := gb170) (o := .cells #[.slice A0_0 l0_0.length c0_0, .slice A0_1 l0_1.length c0_1] 26 (0, 0)) (by (with_reducible repeat (first | refine blk_drewN ?_ _ | refine blk_drew ?_ | refine blk_alloc ?_ _)); exact BK170.out)) : gb172 ≠ gb170)); have n10_ := Aside0.mk ((by rw [hg]; exact Nat.ne_of_lt (blk_lt (g := gb171) (o := .cells #[.int .i64 a2_0, .int .i64 a2_1, .int .i64 a2_2] 66 (0, 0)) (by (with_reducible repeat (first | refine blk_drewN ?_ _ | refine blk_drew ?_ | refine blk_alloc ?_ _)); exact BK171.out)) : gb171 ≠ gb172)); have n11_ := Aside0.mk ((by rw [hg]; exact Nat.ne_of_gt (blk_lt (g := gb171) (o := .cells #[.int .i64 a2_0, .int .i64 a2_1, .int .i64 a2_2] 66 (0, 0)) (by (with_reducible repeat (first | refine blk_drewN ?_ _ | refine blk_drew ?_ | refine blk_alloc ?_ _)); exact BK171.out)) : gb172 ≠ gb171)); clear HO0_0; clear HO0_1; clear BK170; clear BK171; clear HB; have HO0_0 := n0_; have HO0_1 := n1_; have BK170 := n2_; have BK171 := n3_; have HB := n4_; have BK172 := n5_; have GW172 := n6_; have GE172 := n7_; have NB170_172 := n8_; have NB172_170 := n9_; have NB171_172 := n10_; have NB172_171 := n11_; clear n0_ n1_ n2_ n3_ n4_ n5_ n6_ n7_ n8_ n9_ n10_ n11_; clear hb hbox hg) | ((with_reducible refine gate_dst (N := 7) rfl ?_); refine box_event ?hg (N := 7) ?hd (cs := #[.int .i64 0, .bool false, .slice none 0 0, .slice none 0 0]) (t := 46) ?hr ?_; (case hd => rfl); (case hg => rfl); (case hr => first | (go_simp; done) | (go_simp; rfl)); intro gb173 hg w80 hbox hb; have n0_ := Aside0.mk (Kd.V_below (Kd.V_elderB (by (with_reducible repeat (first | apply Kd.V_alloc | apply Kd.V_drewN | apply Kd.V_drew)); exact HO0_0.out) gb173 (Nat.le_of_eq hg.symm)) hb); have n1_ := Aside0.mk (Kd.V_below (Kd.V_elderB (by (with_reducible repeat (first | apply Kd.V_alloc | apply Kd.V_drewN | apply Kd.V_drew)); exact HO0_1.out) gb173 (Nat.le_of_eq hg.symm)) hb); have n2_ := Aside0.mk (blk_below (g := gb170) (o := .cells #[.slice A0_0 l0_0.length c0_0, .slice A0_1 l0_1.length c0_1] 26 (0, 0)) (by (with_reducible repeat (first | refine blk_drewN ?_ _ | refine blk_drew ?_ | refine blk_alloc ?_ _)); exact BK170.out) hb); have n3_ := Aside0.mk (blk_below (g := gb171) (o := .cells #[.int .i64 a2_0, .int .i64 a2_1, .int .i64 a2_2] 66 (0, 0)) (by (with_reducible repeat (first | refine blk_drewN ?_ _ | refine blk_drew ?_ | refine blk_alloc ?_ _)); exact BK171.out) hb); have n4_ := Aside0.mk (blk_below (g := gb172) (o := .cells #[.slice none 0 0, .slice none 0 0] 26 (0, 0)) (by (with_reducible repeat (first | refine blk_drewN ?_ _ | refine blk_drew ?_ | refine blk_alloc ?_ _)); exact BK172.out) hb); have n5_ := Aside0.mk (below_step (by repeat (first | (with_reducible first | exact HB.out | apply below_alloc | apply pw_below_drewN | apply below_drew1 | refine below_set ?_ GE170.out | refine below_set ?_ GE171.out | refine below_set ?_ GE172.out) | exact HB.out)) hb); have n6_ := Aside0.mk (hbox); have n7_ := Aside0.mk ((by rw [hg]; exact (below_size (by repeat (first | (with_reducible first | exact HB.out | apply below_alloc | apply pw_below_drewN | apply below_drew1 | refine below_set ?_ GE170.out | refine below_set ?_ GE171.out | refine below_set ?_ GE172.out) | exact HB.out))) : w.heap.size ≤ gb173)); have n8_ := Aside0.mk ((by rw [hg]; exact (below_size (by repeat (first | (with_reducible first | exact HB.out | apply below_alloc | apply pw_below_drewN | apply below_drew1 | refine below_set ?_ GE170.out | refine below_set ?_ GE171.out | refine below_set ?_ GE172.out) | exact HB.out))) : w.heap.size ≤ gb173)); have n9_ := Aside0.mk ((by rw [hg]; exact Nat.ne_of_lt (blk_lt (g := gb170) (o := .cells #[.slice A0_0 l0_0.length c0_0, .slice A0_1 l0_1.length c0_1] 26 (0, 0)) (by (with_reducible repeat (first | refine blk_drewN ?_ _ | refine blk_drew ?_ | refine blk_alloc ?_ _)); exact BK170.out)) : gb170 ≠ gb173)); have n10_ := Aside0.mk ((by rw [hg]; exact Nat.ne_of_gt (blk_lt (g := gb170) (o := .cells #[.slice A0_0 l0_0.length c0_0, .slice A0_1 l0_1.length c0_1] 26 (0, 0)) (by (with_reducible repeat (first | refine blk_drewN ?_ _ | refine blk_drew ?_ | refine blk_alloc ?_ _)); exact BK170.out)) : gb173 ≠ gb170)); have n11_ := Aside0.mk ((by rw [hg]; exact Nat.ne_of_lt (blk_lt (g := gb171) (o := .cells #[.int .i64 a2_0, .int .i64 a2_1, .int .i64 a2_2] 66 (0, 0)) (by (with_reducible repeat (first | refine blk_drewN ?_ _ | refine blk_drew ?_ | refine blk_alloc ?_ _)); exact BK171.out)) : gb171 ≠ gb173)); have n12_ := Aside0.mk ((by rw [hg]; exact Nat.ne_of_gt (blk_lt (g := gb171) (o := .cells #[.int .i64 a2_0, .int .i64 a2_1, .int .i64 a2_2] 66 (0, 0)) (by (with_reducible repeat (first | refine blk_drewN ?_ _ | refine blk_drew ?_ | refine blk_alloc ?_ _)); exact BK171.out)) : gb173 ≠ gb171)); have n13_ := Aside0.mk ((by rw [hg]; exact Nat.ne_of_lt (blk_lt (g := gb172) (o := .cells #[.slice none 0 0, .slice none 0 0] 26 (0, 0)) (by (with_reducible repeat (first | refine blk_drewN ?_ _ | refine blk_drew ?_ | refine blk_alloc ?_ _)); exact BK172.out)) : gb172 ≠ gb173)); have n14_ := Aside0.mk ((by rw [hg]; exact Nat.ne_of_gt (blk_lt (g := gb172) (o := .cells #[.slice none 0 0, .slice none 0 0] 26 (0, 0)) (by (with_reducible repeat (first | refine blk_drewN ?_ _ | refine blk_drew ?_ | refine blk_alloc ?_ _)); exact BK172.out)) : gb173 ≠ gb172)); clear HO0_0; clear HO0_1; clear BK170; clear BK171; clear BK172; clear HB; have HO0_0 := n0_; have HO0_1 := n1_; have BK170 := n2_; have BK171 := n3_; have BK172 := n4_; have HB := n5_; have BK173 := n6_; have GW173 := n7_; have GE173 := n8_; have NB170_173 := n9_; have NB173_170 := n10_; have NB171_173 := n11_; have NB173_171 := n12_; have NB172_173 := n13_; have NB173_172 := n14_; clear n0_ n1_ n2_ n3_ n4_ n5_ n6_ n7_ n8_ n9_ n10_ n11_ n12_ n13_ n14_; clear hb hbox hg; have hnb81 := NB171_170.out; have hnc81 := NB170_171.out; have hnb82 := NB171_172.out; have hnc82 := NB172_171.out; have hnb83 := NB171_173.out; have hnc83 := NB173_171.out; have hcz84_0 : w80.cell? ⟨gb171, 0, none⟩ = some (.int .i64 a2_0) := (blk_cell BK171.out 0).trans rfl; have hcz84_1 : w80.cell? ⟨gb171, 1, none⟩ = some (.int .i64 a2_1) := (blk_cell BK171.out 1).trans rfl; have hcz84_2 : w80.cell? ⟨gb171, 2, none⟩ = some (.int .i64 a2_2) := (blk_cell BK171.out 2).trans rfl; have hfz84_0 := blk_frozen BK171.out 0; have hfz84_1 := blk_frozen BK171.out 1; have hfz84_2 := blk_frozen BK171.out 2))
            have n0_ := Aside0.mk (Kd.V_drew HO0_0.out)
            have n1_ := Aside0.mk (Kd.V_drew HO0_1.out)
            have n2_ := Aside0.mk (blk_drew BK170.out)
            have n3_ := Aside0.mk (blk_drew BK171.out)
            have n4_ := Aside0.mk (blk_drew BK172.out)
            have n5_ := Aside0.mk (blk_drew BK173.out)
            have n6_ := Aside0.mk (below_drew1 HB.out)
            clear HO0_0
            clear HO0_1
            clear BK170
            clear BK171
            clear BK172
            clear BK173
            clear HB
            have HO0_0 := n0_
            have HO0_1 := n1_
            have BK170 := n2_
            have BK171 := n3_
            have BK172 := n4_
            have BK173 := n5_
            have HB := n6_
            clear n0_ n1_ n2_ n3_ n4_ n5_ n6_
            refine start_ (n := 8) (S := fun w' => w'.cell? ⟨gb170, 0, none⟩ = some (.slice A0_0 l0_0.length c0_0) ∧ w'.cell? ⟨gb170, 1, none⟩ = some (.slice A0_1 l0_1.length c0_1)) (ds := []) #[false, false, false, false, false, false, false, false] (by kernel_rfl) rfl rfl ⟨(blk_cell BK170.out 0).trans rfl, (blk_cell BK170.out 1).trans rfl⟩ (fun hHeld => ?_); refine with_tabW spec_Tree_Step.tab12 spec_Tree_Step.bits12 (fun HT_ HW_ => ?_)
            generalize w80.drew = w85 at HO0_0 HO0_1 BK170 BK171 BK172 BK173 HB hHeld ⊢
            refine pure_ (i := 1) (N := some 54) (v := ?_) (a' := ?_) #[false, true, false, false, false, false, false, false] rfl rfl (any_of HT_.out (by kernel_rfl)) (fun _ _ _ h => h) (Or.inl ⟨by rfl, ?_⟩) ?_ ?_
            rotate_left
            · intro w'
              go_simp
              with_reducible rfl
            rotate_left
            · simp only [Act.put, List.setIfInBounds_toArray, List.set_cons_zero, List.set_cons_succ, i64_w, i32_w]
              rfl
            refine pure_ (i := 3) (N := some 56) (v := ?_) (a' := ?_) #[false, true, false, true, false, false, false, false] rfl rfl (any_of HT_.out (by kernel_rfl)) (fun _ _ _ h => h) (Or.inl ⟨by rfl, ?_⟩) ?_ ?_
            rotate_left
            · intro w'
              go_simp
              with_reducible rfl
            rotate_left
            · simp only [Act.put, List.setIfInBounds_toArray, List.set_cons_zero, List.set_cons_succ, i64_w, i32_w]
              rfl
            refine take_ (i := 0) (N := some 53) (v := ?_) (a' := ?_) #[true, true, false, true, false, false, false, false] rfl rfl (take_ofW HT_.out HW_.out (by kernel_rfl)) (fun _ _ _ h => h) (Or.inl ⟨by rfl, ?_⟩) hHeld ?_ ?_
            rotate_left
            · rintro w' ⟨s0, s1⟩
              go_simp
              with_reducible rfl
            rotate_left
            · simp only [Act.put, List.setIfInBounds_toArray, List.set_cons_zero, List.set_cons_succ, i64_w, i32_w]
              rfl
            refine take_ (i := 2) (N := some 55) (v := ?_) (a' := ?_) #[true, true, true, true, false, false, false, false] rfl rfl (take_ofW HT_.out HW_.out (by kernel_rfl)) (fun _ _ _ h => h) (Or.inl ⟨by rfl, ?_⟩) hHeld ?_ ?_
            rotate_left
            · rintro w' ⟨s0, s1⟩
              go_simp
              with_reducible rfl
            rotate_left
            · simp only [Act.put, List.setIfInBounds_toArray, List.set_cons_zero, List.set_cons_succ, i64_w, i32_w]
              rfl
            refine take_ (i := 4) (N := some 57) (v := ?_) (a' := ?_) #[true, true, true, true, true, false, false, false] rfl rfl (take_ofW HT_.out HW_.out (by kernel_rfl)) (fun _ _ _ h => h) (Or.inl ⟨by rfl, ?_⟩) hHeld ?_ ?_
            rotate_left
            · rintro w' ⟨s0, s1⟩
              go_simp
              with_reducible rfl
            rotate_left
            · simp only [Act.put, List.setIfInBounds_toArray, List.set_cons_zero, List.set_cons_succ, i64_w, i32_w]
              rfl
            refine pure_ (i := 5) (N := some 58) (v := ?_) (a' := ?_) #[true, true, true, true, true, true, false, false] rfl rfl (any_of HT_.out (by kernel_rfl)) (fun _ _ _ h => h) (Or.inl ⟨by rfl, ?_⟩) ?_ ?_
            rotate_left
            · intro w'
              go_simp
              with_reducible rfl
            rotate_left
            · simp only [Act.put, List.setIfInBounds_toArray, List.set_cons_zero, List.set_cons_succ, i64_w, i32_w]
              rfl
            refine one_ (i := 6) (N := none) #[true, true, true, true, true, true, true, false] rfl rfl (one_of HT_.out (by kernel_rfl)) (by decide) (fun K hK => ?_)
            have hs86 : w85.cell? ⟨gb172, 0, none⟩ = some (.slice none 0 0) := (blk_cell BK172.out 0).trans rfl
            have hfs86 := blk_frozen BK172.out 0
            have hns86_0 := NB170_172.out
            have hns86_1 := NB171_172.out
            have hns86_3 := NB173_172.out
            have hms86_0 := NB172_170.out
            have hms86_1 := NB172_171.out
            have hms86_3 := NB172_173.out
            have hs87 : w85.cell? ⟨gb172, 1, none⟩ = some (.slice none 0 0) := (blk_cell BK172.out 1).trans rfl
            have hfs87 := blk_frozen BK172.out 1
            have hns87_0 := NB170_172.out
            have hns87_1 := NB171_172.out
            have hns87_3 := NB173_172.out
            have hms87_0 := NB172_170.out
            have hms87_1 := NB172_171.out
            have hms87_3 := NB172_173.out
            refine skip_ (w1 := ?_) (by rfl) rfl ?_ ?_
            rotate_left
            · go_simp
              rfl
            refine hK.out _ _ ⟨((cell_far (p := ⟨gb172, _, none⟩) NB170_172.out _).trans (((cell_far (p := ⟨gb172, _, none⟩) NB170_172.out _).trans (hHeld.1)))), ((cell_far (p := ⟨gb172, _, none⟩) NB170_172.out _).trans (((cell_far (p := ⟨gb172, _, none⟩) NB170_172.out _).trans (hHeld.2))))⟩ (fun hHeld => ?_)
            clear hK K
            refine one_ (i := 7) (N := none) #[true, true, true, true, true, true, true, true] rfl rfl (one_of HT_.out (by kernel_rfl)) (by decide) (fun K hK => ?_)
            have hs88 : w85.cell? ⟨gb173, 0, none⟩ = some (.int .i64 0) := (blk_cell BK173.out 0).trans rfl
            have hfs88 := blk_frozen BK173.out 0
            have hns88_0 := NB170_173.out
            have hns88_1 := NB171_173.out
            have hns88_2 := NB172_173.out
            have hms88_0 := NB173_170.out
            have hms88_1 := NB173_171.out
            have hms88_2 := NB173_172.out
            have hs89 : w85.cell? ⟨gb173, 1, none⟩ = some (.bool false) := (blk_cell BK173.out 1).trans rfl
            have hfs89 := blk_frozen BK173.out 1
            have hns89_0 := NB170_173.out
            have hns89_1 := NB171_173.out
            have hns89_2 := NB172_173.out
            have hms89_0 := NB173_170.out
            have hms89_1 := NB173_171.out
            have hms89_2 := NB173_172.out
            have hs90 : w85.cell? ⟨gb173, 2, none⟩ = some (.slice none 0 0) := (blk_cell BK173.out 2).trans rfl
            have hfs90 := blk_frozen BK173.out 2
            have hns90_0 := NB170_173.out
            have hns90_1 := NB171_173.out
            have hns90_2 := NB172_173.out
            have hms90_0 := NB173_170.out
            have hms90_1 := NB173_171.out
            have hms90_2 := NB173_172.out
            have hs91 : w85.cell? ⟨gb173, 3, none⟩ = some (.slice none 0 0) := (blk_cell BK173.out 3).trans rfl
            have hfs91 := blk_frozen BK173.out 3
            have hns91_0 := NB170_173.out
            have hns91_1 := NB171_173.out
            have hns91_2 := NB172_173.out
            have hms91_0 := NB173_170.out
            have hms91_1 := NB173_171.out
            have hms91_2 := NB173_172.out
            refine skip_ (w1 := ?_) (by rfl) rfl ?_ ?_
            rotate_left
            · go_simp
              rfl
            refine hK.out _ _ ⟨((cell_far (p := ⟨gb173, _, none⟩) NB170_173.out _).trans (((cell_far (p := ⟨gb173, _, none⟩) NB170_173.out _).trans (((cell_far (p := ⟨gb173, _, none⟩) NB170_173.out _).trans (((cell_far (p := ⟨gb173, _, none⟩) NB170_173.out _).trans (hHeld.1)))))))), ((cell_far (p := ⟨gb173, _, none⟩) NB170_173.out _).trans (((cell_far (p := ⟨gb173, _, none⟩) NB170_173.out _).trans (((cell_far (p := ⟨gb173, _, none⟩) NB170_173.out _).trans (((cell_far (p := ⟨gb173, _, none⟩) NB170_173.out _).trans (hHeld.2))))))))⟩ (fun hHeld => ?_)
            clear hK K
            refine done_ (done_of HT_.out (by kernel_rfl)) ?_
            try go_wp2
            refine bodyPost_ret (results_cc rfl _ _ gb172 gb173 26 46 #[.slice A0_0 l0_0.length c0_0, .slice A0_1 l0_1.length c0_1] #[.int .i64 0, .bool false, .slice A0_0 l0_0.length c0_0, .slice A0_1 l0_1.length c0_1] (0, 0) (0, 0) _ _ rfl (by (with_reducible repeat (first | refine blk_drewN ?_ _ | refine blk_drew ?_ | refine blk_alloc ?_ _)); refine blk_far ?_ NB172_173.out _; (with_reducible repeat (first | refine blk_drewN ?_ _ | refine blk_drew ?_ | refine blk_alloc ?_ _)); refine blk_far ?_ NB172_173.out _; (with_reducible repeat (first | refine blk_drewN ?_ _ | refine blk_drew ?_ | refine blk_alloc ?_ _)); refine blk_far ?_ NB172_173.out _; (with_reducible repeat (first | refine blk_drewN ?_ _ | refine blk_drew ?_ | refine blk_alloc ?_ _)); refine blk_far ?_ NB172_173.out _; (with_reducible repeat (first | refine blk_drewN ?_ _ | refine blk_drew ?_ | refine blk_alloc ?_ _)); refine blk_put (cs := #[.slice A0_0 l0_0.length c0_0, .slice none 0 0]) ?_ 1 _ rfl; (with_reducible repeat (first | refine blk_drewN ?_ _ | refine blk_drew ?_ | refine blk_alloc ?_ _)); refine blk_put (cs := #[.slice none 0 0, .slice none 0 0]) ?_ 0 _ rfl; (with_reducible repeat (first | refine blk_drewN ?_ _ | refine blk_drew ?_ | refine blk_alloc ?_ _)); exact BK172.out) Try.underlying26 rfl (by kernel_rfl) rfl (by (with_reducible repeat (first | refine blk_drewN ?_ _ | refine blk_drew ?_ | refine blk_alloc ?_ _)); refine blk_put (cs := #[.int .i64 0, .bool false, .slice A0_0 l0_0.length c0_0, .slice none 0 0]) ?_ 3 _ rfl; (with_reducible repeat (first | refine blk_drewN ?_ _ | refine blk_drew ?_ | refine blk_alloc ?_ _)); refine blk_put (cs := #[.int .i64 0, .bool false, .slice none 0 0, .slice none 0 0]) ?_ 2 _ rfl; (with_reducible repeat (first | refine blk_drewN ?_ _ | refine blk_drew ?_ | refine blk_alloc ?_ _)); refine blk_put (cs := #[.int .i64 0, .bool false, .slice none 0 0, .slice none 0 0]) ?_ 1 _ rfl; (with_reducible repeat (first | refine blk_drewN ?_ _ | refine blk_drew ?_ | refine blk_alloc ?_ _)); refine blk_put (cs := #[.int .i64 0, .bool false, .slice none 0 0, .slice none 0 0]) ?_ 0 _ rfl; (with_reducible repeat (first | refine blk_drewN ?_ _ | refine blk_drew ?_ | refine blk_alloc ?_ _)); refine blk_far ?_ NB173_172.out _; (with_reducible repeat (first | refine blk_drewN ?_ _ | refine blk_drew ?_ | refine blk_alloc ?_ _)); refine blk_far ?_ NB173_172.out _; (with_reducible repeat (first | refine blk_drewN ?_ _ | refine blk_drew ?_ | refine blk_alloc ?_ _)); exact BK173.out) Try.underlying46 rfl (by kernel_rfl)) rfl ?_
            exact ⟨_, _, _, _, by first | rfl | (simp [errW_none, errW_some] <;> rfl) | (simp [*, errW_none, errW_some] <;> rfl), by (with_reducible repeat (first | apply Kd.V_alloc | apply Kd.V_drewN | apply Kd.V_drew)); exact Kd.V_mono (Kd.V_far (p := ⟨gb173, 3, none⟩) (Kd.V_far (p := ⟨gb173, 2, none⟩) (Kd.V_far (p := ⟨gb173, 1, none⟩) (Kd.V_far (p := ⟨gb173, 0, none⟩) (Kd.V_far (p := ⟨gb172, 1, none⟩) (Kd.V_far (p := ⟨gb172, 0, none⟩) (Kd.V_mono (Kd.V_mono HO0_0.out (fun k_ hk => (⟨hk, hk.1.2⟩ : _ ∧ k_ ≠ gb172))) (fun k_ hk => (⟨hk, hk.1.2⟩ : _ ∧ k_ ≠ gb173))) (fun _ hk => hk.1.2) (.slice A0_0 l0_0.length c0_0)) (fun _ hk => hk.1.2) (.slice A0_1 l0_1.length c0_1)) (fun _ hk => hk.2) (.int .i64 0)) (fun _ hk => hk.2) (.bool false)) (fun _ hk => hk.2) (.slice A0_0 l0_0.length c0_0)) (fun _ hk => hk.2) (.slice A0_1 l0_1.length c0_1)) (fun _ hk => hk.1.1.1.1.1.1), by (with_reducible repeat (first | apply Kd.V_alloc | apply Kd.V_drewN | apply Kd.V_drew)); exact Kd.V_mono (Kd.V_far (p := ⟨gb173, 3, none⟩) (Kd.V_far (p := ⟨gb173, 2, none⟩) (Kd.V_far (p := ⟨gb173, 1, none⟩) (Kd.V_far (p := ⟨gb173, 0, none⟩) (Kd.V_far (p := ⟨gb172, 1, none⟩) (Kd.V_far (p := ⟨gb172, 0, none⟩) (Kd.V_mono (Kd.V_mono HO0_1.out (fun k_ hk => (⟨hk, hk.1.2⟩ : _ ∧ k_ ≠ gb172))) (fun k_ hk => (⟨hk, hk.1.2⟩ : _ ∧ k_ ≠ gb173))) (fun _ hk => hk.1.2) (.slice A0_0 l0_0.length c0_0)) (fun _ hk => hk.1.2) (.slice A0_1 l0_1.length c0_1)) (fun _ hk => hk.2) (.int .i64 0)) (fun _ hk => hk.2) (.bool false)) (fun _ hk => hk.2) (.slice A0_0 l0_0.length c0_0)) (fun _ hk => hk.2) (.slice A0_1 l0_1.length c0_1)) (fun _ hk => hk.1.1.1.1.1.1), by (with_reducible repeat (first | apply Kd.V_alloc | apply Kd.V_drewN | apply Kd.V_drew)); exact Kd.V_mono (Kd.V_far (p := ⟨gb173, 3, none⟩) (Kd.V_far (p := ⟨gb173, 2, none⟩) (Kd.V_far (p := ⟨gb173, 1, none⟩) (Kd.V_far (p := ⟨gb173, 0, none⟩) (Kd.V_far (p := ⟨gb172, 1, none⟩) (Kd.V_far (p := ⟨gb172, 0, none⟩) (Kd.V_mono (Kd.V_mono HO0_0.out (fun k_ hk => (⟨hk, hk.1.2⟩ : _ ∧ k_ ≠ gb172))) (fun k_ hk => (⟨hk, hk.1.2⟩ : _ ∧ k_ ≠ gb173))) (fun _ hk => hk.1.2) (.slice A0_0 l0_0.length c0_0)) (fun _ hk => hk.1.2) (.slice A0_1 l0_1.length c0_1)) (fun _ hk => hk.2) (.int .i64 0)) (fun _ hk => hk.2) (.bool false)) (fun _ hk => hk.2) (.slice A0_0 l0_0.length c0_0)) (fun _ hk => hk.2) (.slice A0_1 l0_1.length c0_1)) (fun _ hk => hk.1.1.1.1.1.1), by (with_reducible repeat (first | apply Kd.V_alloc | apply Kd.V_drewN | apply Kd.V_drew)); exact Kd.V_mono (Kd.V_far (p := ⟨gb173, 3, none⟩) (Kd.V_far (p := ⟨gb173, 2, none⟩) (Kd.V_far (p := ⟨gb173, 1, none⟩) (Kd.V_far (p := ⟨gb173, 0, none⟩) (Kd.V_far (p := ⟨gb172, 1, none⟩) (Kd.V_far (p := ⟨gb172, 0, none⟩) (Kd.V_mono (Kd.V_mono HO0_1.out (fun k_ hk => (⟨hk, hk.1.2⟩ : _ ∧ k_ ≠ gb172))) (fun k_ hk => (⟨hk, hk.1.2⟩ : _ ∧ k_ ≠ gb173))) (fun _ hk => hk.1.2) (.slice A0_0 l0_0.length c0_0)) (fun _ hk => hk.1.2) (.slice A0_1 l0_1.length c0_1)) (fun _ hk => hk.2) (.int .i64 0)) (fun _ hk => hk.2) (.bool false)) (fun _ hk => hk.2) (.slice A0_0 l0_0.length c0_0)) (fun _ hk => hk.2) (.slice A0_1 l0_1.length c0_1)) (fun _ hk => hk.1.1.1.1.1.1), by repeat (first | (with_reducible first | exact HB.out | apply below_alloc | apply pw_below_drewN | apply below_drew1 | refine below_set ?_ GE170.out | refine below_set ?_ GE171.out | refine below_set ?_ GE172.out | refine below_set ?_ GE173.out) | exact HB.out)⟩
          · rw [if_neg c76] at H
            have c76b0 : (a2_0 == 4) = false := beq_eq_false_iff_ne.mpr c76
            have c76b1 : (a2_0 != 4) = true := bne_iff_ne.mpr c76
            simp only [Option.some.injEq, Prod.mk.injEq] at H
            obtain ⟨rfl, rfl, rfl, rfl, rfl, rfl⟩ := H
            go_enter Try.func48, Try.ntmps48
            go_wp2_with (first | ((with_reducible refine gate_dst (N := 3) rfl ?_); refine box_event ?hg (N := 3) ?hd (cs := #[.slice A0_0 l0_0.length c0_0, .slice A0_1 l0_1.length c0_1]) (t := 26) ?hr ?_; (case hd => rfl); (case hg => rfl); (case hr => first | (go_simp; done) | (go_simp; rfl)); intro gb170 hg w92 hbox hb; have n0_ := Aside0.mk (Kd.V_below (Kd.V_elderB (by (with_reducible repeat (first | apply Kd.V_alloc | apply Kd.V_drewN | apply Kd.V_drew)); exact HO0_0.out) gb170 (Nat.le_of_eq hg.symm)) hb); have n1_ := Aside0.mk (Kd.V_below (Kd.V_elderB (by (with_reducible repeat (first | apply Kd.V_alloc | apply Kd.V_drewN | apply Kd.V_drew)); exact HO0_1.out) gb170 (Nat.le_of_eq hg.symm)) hb); have n2_ := Aside0.mk (below_step (by repeat (first | (with_reducible first | exact HB.out | apply below_alloc | apply pw_below_drewN | apply below_drew1) | exact HB.out)) hb); have n3_ := Aside0.mk (hbox); have n4_ := Aside0.mk ((by rw [hg]; exact (below_size (by repeat (first | (with_reducible first | exact HB.out | apply below_alloc | apply pw_below_drewN | apply below_drew1) | exact HB.out))) : w.heap.size ≤ gb170)); have n5_ := Aside0.mk ((by rw [hg]; exact (below_size (by repeat (first | (with_reducible first | exact HB.out | apply below_alloc | apply pw_below_drewN | apply below_drew1) | exact HB.out))) : w.heap.size ≤ gb170)); clear HO0_0; clear HO0_1; clear HB; have HO0_0 := n0_; have HO0_1 := n1_; have HB := n2_; have BK170 := n3_; have GW170 := n4_; have GE170 := n5_; clear n0_ n1_ n2_ n3_ n4_ n5_; clear hb hbox hg) | ((with_reducible refine gate_dst (N := 5) rfl ?_); refine box_event ?hg (N := 5) ?hd (cs := #[.int .i64 a2_0, .int .i64 a2_1, .int .i64 a2_2]) (t := 66) ?hr ?_; (case hd => rfl); (case hg => rfl); (case hr => first | (go_simp; done) | (go_simp; rfl)); intro gb171 hg w93 hbox hb; have n0_ := Aside0.mk (Kd.V_below (Kd.V_elderB (by (with_reducible repeat (first | apply Kd.V_alloc | apply Kd.V_drewN | apply Kd.V_drew)); exact HO0_0.out) gb171 (Nat.le_of_eq hg.symm)) hb); have n1_ := Aside0.mk (Kd.V_below (Kd.V_elderB (by (with_reducible repeat (first | apply Kd.V_alloc | apply Kd.V_drewN | apply Kd.V_drew)); exact HO0_1.out) gb171 (Nat.le_of_eq hg.symm)) hb); have n2_ := Aside0.mk (blk_below (g := gb170) (o := .cells #[.slice A0_0 l0_0.length c0_0, .slice A0_1 l0_1.length c0_1] 26 (0, 0)) (by (with_reducible repeat (first | refine blk_drewN ?_ _ | refine blk_drew ?_ | refine blk_alloc ?_ _)); exact BK170.out) hb); have n3_ := Aside0.mk (below_step (by repeat (first | (with_reducible first | exact HB.out | apply below_alloc | apply pw_below_drewN | apply below_drew1 | refine below_set ?_ GE170.out) | exact HB.out)) hb); have n4_ := Aside0.mk (hbox); have n5_ := Aside0.mk ((by rw [hg]; exact (below_size (by repeat (first | (with_reducible first | exact HB.out | apply below_alloc | apply pw_below_drewN | apply below_drew1 | refine below_set ?_ GE170.out) | exact HB.out))) : w.heap.size ≤ gb171)); have n6_ := Aside0.mk ((by rw [hg]; exact (below_size (by repeat (first | (with_reducible first | exact HB.out | apply below_alloc | apply pw_below_drewN | apply below_drew1 | refine below_set ?_ GE170.out) | exact HB.out))) : w.heap.size ≤ gb171)); have n7_ := Aside0.mk ((by rw [hg]; exact Nat.ne_of_lt (blk_lt (g := gb170) (o := .cells #[.slice A0_0 l0_0.length c0_0, .slice A0_1 l0_1.length c0_1] 26 (0, 0)) (by (with_reducible repeat (first | refine blk_drewN ?_ _ | refine blk_drew ?_ | refine blk_alloc ?_ _)); exact BK170.out)) : gb170 ≠ gb171)); have n8_ := Aside0.mk ((by rw [hg]; exact Nat.ne_of_gt (blk_lt (g := gb170) (o := .cells #[.slice A0_0 l0_0.length c0_0, .slice A0_1 l0_1.length c0_1] 26 (0, 0)) (by (with_reducible repeat (first | refine blk_drewN ?_ _ | refine blk_drew ?_ | refine blk_alloc ?_ _)); exact BK170.out)) : gb171 ≠ gb170)); clear HO0_0; clear HO0_1; clear BK170; clear HB; have HO0_0 := n0_; have HO0_1 := n1_; have BK170 := n2_; have HB := n3_; have BK171 := n4_; have GW171 := n5_; have GE171 := n6_; have NB170_171 := n7_; have NB171_170 := n8_; clear n0_ n1_ n2_ n3_ n4_ n5_ n6_ n7_ n8_; clear hb hbox hg) | ((with_reducible refine gate_dst (N := 6) rfl ?_); refine box_event ?hg (N := 6) ?hd (cs := #[.slice none 0 0, .slice none 0 0]) (t := 26) ?hr ?_; (case hd => rfl); (case hg => rfl); (case hr => first | (go_simp; done) | (go_simp; rfl)); intro gb172 hg w94 hbox hb; have n0_ := Aside0.mk (Kd.V_below (Kd.V_elderB (by (with_reducible repeat (first | apply Kd.V_alloc | apply Kd.V_drewN | apply Kd.V_drew)); exact HO0_0.out) gb172 (Nat.le_of_eq hg.symm)) hb); have n1_ := Aside0.mk (Kd.V_below (Kd.V_elderB (by (with_reducible repeat (first | apply Kd.V_alloc | apply Kd.V_drewN | apply Kd.V_drew)); exact HO0_1.out) gb172 (Nat.le_of_eq hg.symm)) hb); have n2_ := Aside0.mk (blk_below (g := gb170) (o := .cells #[.slice A0_0 l0_0.length c0_0, .slice A0_1 l0_1.length c0_1] 26 (0, 0)) (by (with_reducible repeat (first | refine blk_drewN ?_ _ | refine blk_drew ?_ | refine blk_alloc ?_ _)); exact BK170.out) hb); have n3_ := Aside0.mk (blk_below (g := gb171) (o := .cells #[.int .i64 a2_0, .int .i64 a2_1, .int .i64 a2_2] 66 (0, 0)) (by (with_reducible repeat (first | refine blk_drewN ?_ _ | refine blk_drew ?_ | refine blk_alloc ?_ _)); exact BK171.out) hb); have n4_ := Aside0.mk (below_step (by repeat (first | (with_reducible first | exact HB.out | apply below_alloc | apply pw_below_drewN | apply below_drew1 | refine below_set ?_ GE170.out | refine below_set ?_ GE171.out) | exact HB.out)) hb); have n5_ := Aside0.mk (hbox); have n6_ := Aside0.mk ((by rw [hg]; exact (below_size (by repeat (first | (with_reducible first | exact HB.out | apply below_alloc | apply pw_below_drewN | apply below_drew1 | refine below_set ?_ GE170.out | refine below_set ?_ GE171.out) | exact HB.out))) : w.heap.size ≤ gb172)); have n7_ := Aside0.mk ((by rw [hg]; exact (below_size (by repeat (first | (with_reducible first | exact HB.out | apply below_alloc | apply pw_below_drewN | apply below_drew1 | refine below_set ?_ GE170.out | refine below_set ?_ GE171.out) | exact HB.out))) : w.heap.size ≤ gb172)); have n8_ := Aside0.mk ((by rw [hg]; exact Nat.ne_of_lt (blk_lt (g := gb170) (o := .cells #[.slice A0_0 l0_0.length c0_0, .slice A0_1 l0_1.length c0_1] 26 (0, 0)) (by (with_reducible repeat (first | refine blk_drewN ?_ _ | refine blk_drew ?_ | refine blk_alloc ?_ _)); exact BK170.out)) : gb170 ≠ gb172)); have n9_ := Aside0.mk ((by rw [hg]; exact Nat.ne_of_gt (blk_lt (g := gb170) (o := .cells #[.slice A0_0 l0_0.length c0_0, .slice A0_1 l0_1.length c0_1] 26 (0, 0)) (by (with_reducible repeat (first | refine blk_drewN ?_ _ | refine blk_drew ?_ | refine blk_alloc ?_ _)); exact BK170.out)) : gb172 ≠ gb170)); have n10_ := Aside0.mk ((by rw [hg]; exact Nat.ne_of_lt (blk_lt (g := gb171) (o := .cells #[.int .i64 a2_0, .int .i64 a2_1, .int .i64 a2_2] 66 (0, 0)) (by (with_reducible repeat (first | refine blk_drewN ?_ _ | refine blk_drew ?_ | refine blk_alloc ?_ _)); exact BK171.out)) : gb171 ≠ gb172)); have n11_ := Aside0.mk ((by rw [hg]; exact Nat.ne_of_gt (blk_lt (g := gb171) (o := .cells #[.int .i64 a2_0, .int .i64 a2_1, .int .i64 a2_2] 66 (0, 0)) (by (with_reducible repeat (first | refine blk_drewN ?_ _ | refine blk_drew ?_ | refine blk_alloc ?_ _)); exact BK171.out)) : gb172 ≠ gb171)); clear HO0_0; clear HO0_1; clear BK170; clear BK171; clear HB; have HO0_0 := n0_; have HO0_1 := n1_; have BK170 := n2_; have BK171 := n3_; have HB := n4_; have BK172 := n5_; have GW172 := n6_; have GE172 := n7_; have NB170_172 := n8_; have NB172_170 := n9_; have NB171_172 := n10_; have NB172_171 := n11_; clear n0_ n1_ n2_ n3_ n4_ n5_ n6_ n7_ n8_ n9_ n10_ n11_; clear hb hbox hg) | ((with_reducible refine gate_dst (N := 7) rfl ?_); refine box_event ?hg (N := 7) ?hd (cs := #[.int .i64 0, .bool false, .slice none 0 0, .slice none 0 0]) (t := 46) ?hr ?_; (case hd => rfl); (case hg => rfl); (case hr => first | (go_simp; done) | (go_simp; rfl)); intro gb173 hg w95 hbox hb; have n0_ := Aside0.mk (Kd.V_below (Kd.V_elderB (by (with_reducible repeat (first | apply Kd.V_alloc | apply Kd.V_drewN | apply Kd.V_drew)); exact HO0_0.out) gb173 (Nat.le_of_eq hg.symm)) hb); have n1_ := Aside0.mk (Kd.V_below (Kd.V_elderB (by (with_reducible repeat (first | apply Kd.V_alloc | apply Kd.V_drewN | apply Kd.V_drew)); exact HO0_1.out) gb173 (Nat.le_of_eq hg.symm)) hb); have n2_ := Aside0.mk (blk_below (g := gb170) (o := .cells #[.slice A0_0 l0_0.length c0_0, .slice A0_1 l0_1.length c0_1] 26 (0, 0)) (by (with_reducible repeat (first | refine blk_drewN ?_ _ | refine blk_drew ?_ | refine blk_alloc ?_ _)); exact BK170.out) hb); have n3_ := Aside0.mk (blk_below (g := gb171) (o := .cells #[.int .i64 a2_0, .int .i64 a2_1, .int .i64 a2_2] 66 (0, 0)) (by (with_reducible repeat (first | refine blk_drewN ?_ _ | refine blk_drew ?_ | refine blk_alloc ?_ _)); exact BK171.out) hb); have n4_ := Aside0.mk (blk_below (g := gb172) (o := .cells #[.slice none 0 0, .slice none 0 0] 26 (0, 0)) (by (with_reducible repeat (first | refine blk_drewN ?_ _ | refine blk_drew ?_ | refine blk_alloc ?_ _)); exact BK172.out) hb); have n5_ := Aside0.mk (below_step (by repeat (first | (with_reducible first | exact HB.out | apply below_alloc | apply pw_below_drewN | apply below_drew1 | refine below_set ?_ GE170.out | refine below_set ?_ GE171.out | refine below_set ?_ GE172.out) | exact HB.out)) hb); have n6_ := Aside0.mk (hbox); have n7_ := Aside0.mk ((by rw [hg]; exact (below_size (by repeat (first | (with_reducible first | exact HB.out | apply below_alloc | apply pw_below_drewN | apply below_drew1 | refine below_set ?_ GE170.out | refine below_set ?_ GE171.out | refine below_set ?_ GE172.out) | exact HB.out))) : w.heap.size ≤ gb173)); have n8_ := Aside0.mk ((by rw [hg]; exact (below_size (by repeat (first | (with_reducible first | exact HB.out | apply below_alloc | apply pw_below_drewN | apply below_drew1 | refine below_set ?_ GE170.out | refine below_set ?_ GE171.out | refine below_set ?_ GE172.out) | exact HB.out))) : w.heap.size ≤ gb173)); have n9_ := Aside0.mk ((by rw [hg]; exact Nat.ne_of_lt (blk_lt (g := gb170) (o := .cells #[.slice A0_0 l0_0.length c0_0, .slice A0_1 l0_1.length c0_1] 26 (0, 0)) (by (with_reducible repeat (first | refine blk_drewN ?_ _ | refine blk_drew ?_ | refine blk_alloc ?_ _)); exact BK170.out)) : gb170 ≠ gb173)); have n10_ := Aside0.mk ((by rw [hg]; exact Nat.ne_of_gt (blk_lt (g := gb170) (o := .cells #[.slice A0_0 l0_0.length c0_0, .slice A0_1 l0_1.length c0_1] 26 (0, 0)) (by (with_reducible repeat (first | refine blk_drewN ?_ _ | refine blk_drew ?_ | refine blk_alloc ?_ _)); exact BK170.out)) : gb173 ≠ gb170)); have n11_ := Aside0.mk ((by rw [hg]; exact Nat.ne_of_lt (blk_lt (g := gb171) (o := .cells #[.int .i64 a2_0, .int .i64 a2_1, .int .i64 a2_2] 66 (0, 0)) (by (with_reducible repeat (first | refine blk_drewN ?_ _ | refine blk_drew ?_ | refine blk_alloc ?_ _)); exact BK171.out)) : gb171 ≠ gb173)); have n12_ := Aside0.mk ((by rw [hg]; exact Nat.ne_of_gt (blk_lt (g := gb171) (o := .cells #[.int .i64 a2_0, .int .i64 a2_1, .int .i64 a2_2] 66 (0, 0)) (by (with_reducible repeat (first | refine blk_drewN ?_ _ | refine blk_drew ?_ | refine blk_alloc ?_ _)); exact BK171.out)) : gb173 ≠ gb171)); have n13_ := Aside0.mk ((by rw [hg]; exact Nat.ne_of_lt (blk_lt (g := gb172) (o := .cells #[.slice none 0 0, .slice none 0 0] 26 (0, 0)) (by (with_reducible repeat (first | refine blk_drewN ?_ _ | refine blk_drew ?_ | refine blk_alloc ?_ _)); exact BK172.out)) : gb172 ≠ gb173)); have n14_ := Aside0.mk ((by rw [hg]; exact Nat.ne_of_gt (blk_lt (g := gb172) (o := .cells #[.slice none 0 0, .slice none 0 0] 26 (0, 0)) (by (with_reducible repeat (first | refine blk_drewN ?_ _ | refine blk_drew ?_ | refine blk_alloc ?_ _)); exact BK172.out)) : gb173 ≠ gb172)); clear HO0_0; clear HO0_1; clear BK170; clear BK171; clear BK172; clear HB; have HO0_0 := n0_; have HO0_1 := n1_; have BK170 := n2_; have BK171 := n3_; have BK172 := n4_; have HB := n5_; have BK173 := n6_; have GW173 := n7_; have GE173 := n8_; have NB170_173 := n9_; have NB173_170 := n10_; have NB171_173 := n11_; have NB173_171 := n12_; have NB172_173 := n13_; have NB173_172 := n14_; clear n0_ n1_ n2_ n3_ n4_ n5_ n6_ n7_ n8_ n9_ n10_ n11_ n12_ n13_ n14_; clear hb hbox hg; have hnb96 := NB171_170.out; have hnc96 := NB170_171.out; have hnb97 := NB171_172.out; have hnc97 := NB172_171.out; have hnb98 := NB171_173.out; have hnc98 := NB173_171.out; have hcz99_0 : w95.cell? ⟨gb171, 0, none⟩ = some (.int .i64 a2_0) := (blk_cell BK171.out 0).trans rfl; have hcz99_1 : w95.cell? ⟨gb171, 1, none⟩ = some (.int .i64 a2_1) := (blk_cell BK171.out 1).trans rfl; have hcz99_2 : w95.cell? ⟨gb171, 2, none⟩ = some (.int .i64 a2_2) := (blk_cell BK171.out 2).trans rfl; have hfz99_0 := blk_frozen BK171.out 0; have hfz99_1 := blk_frozen BK171.out 1; have hfz99_2 := blk_frozen BK171.out 2; have hnb100 := NB170_172.out; have hnc100 := NB172_170.out; have hnb101 := NB170_173.out; have hnc101 := NB173_170.out; have hcz102_0 : w95.cell? ⟨gb170, 0, none⟩ = some (.slice A0_0 l0_0.length c0_0) := (blk_cell BK170.out 0).trans rfl; have hcz102_1 : w95.cell? ⟨gb170, 1, none⟩ = some (.slice A0_1 l0_1.length c0_1) := (blk_cell BK170.out 1).trans rfl; have hfz102_0 := blk_frozen BK170.out 0; have hfz102_1 := blk_frozen BK170.out 1; have hnb103 := NB172_173.out; have hnc103 := NB173_172.out; have hcz104_0 : w95.cell? ⟨gb172, 0, none⟩ = some (.slice none 0 0) := (blk_cell BK172.out 0).trans rfl; have hcz104_1 : w95.cell? ⟨gb172, 1, none⟩ = some (.slice none 0 0) := (blk_cell BK172.out 1).trans rfl; have hfz104_0 := blk_frozen BK172.out 0; have hfz104_1 := blk_frozen BK172.out 1; have hcz105_0 : w95.cell? ⟨gb173, 0, none⟩ = some (.int .i64 0) := (blk_cell BK173.out 0).trans rfl; have hcz105_1 : w95.cell? ⟨gb173, 1, none⟩ = some (.bool false) := (blk_cell BK173.out 1).trans rfl; have hcz105_2 : w95.cell? ⟨gb173, 2, none⟩ = some (.slice none 0 0) := (blk_cell BK173.out 2).trans rfl; have hcz105_3 : w95.cell? ⟨gb173, 3, none⟩ = some (.slice none 0 0) := (blk_cell BK173.out 3).trans rfl; have hfz105_0 := blk_frozen BK173.out 0; have hfz105_1 := blk_frozen BK173.out 1; have hfz105_2 := blk_frozen BK173.out 2; have hfz105_3 := blk_frozen BK173.out 3))
            refine bodyPost_ret (results_cc rfl _ _ gb172 gb173 26 46 #[.slice A0_0 l0_0.length c0_0, .slice A0_1 l0_1.length c0_1] #[.int .i64 0, .bool false, .slice none 0 0, .slice none 0 0] (0, 0) (0, 0) _ _ rfl (by (with_reducible repeat (first | refine blk_drewN ?_ _ | refine blk_drew ?_ | refine blk_alloc ?_ _)); refine blk_far ?_ NB172_173.out _; (with_reducible repeat (first | refine blk_drewN ?_ _ | refine blk_drew ?_ | refine blk_alloc ?_ _)); refine blk_far ?_ NB172_173.out _; (with_reducible repeat (first | refine blk_drewN ?_ _ | refine blk_drew ?_ | refine blk_alloc ?_ _)); refine blk_far ?_ NB172_173.out _; (with_reducible repeat (first | refine blk_drewN ?_ _ | refine blk_drew ?_ | refine blk_alloc ?_ _)); refine blk_far ?_ NB172_173.out _; (with_reducible repeat (first | refine blk_drewN ?_ _ | refine blk_drew ?_ | refine blk_alloc ?_ _)); refine blk_put (cs := #[.slice A0_0 l0_0.length c0_0, .slice none 0 0]) ?_ 1 _ rfl; (with_reducible repeat (first | refine blk_drewN ?_ _ | refine blk_drew ?_ | refine blk_alloc ?_ _)); refine blk_put (cs := #[.slice none 0 0, .slice none 0 0]) ?_ 0 _ rfl; (with_reducible repeat (first | refine blk_drewN ?_ _ | refine blk_drew ?_ | refine blk_alloc ?_ _)); exact BK172.out) Try.underlying26 rfl (by kernel_rfl) rfl (by (with_reducible repeat (first | refine blk_drewN ?_ _ | refine blk_drew ?_ | refine blk_alloc ?_ _)); refine blk_put (cs := #[.int .i64 0, .bool false, .slice none 0 0, .slice none 0 0]) ?_ 3 _ rfl; (with_reducible repeat (first | refine blk_drewN ?_ _ | refine blk_drew ?_ | refine blk_alloc ?_ _)); refine blk_put (cs := #[.int .i64 0, .bool false, .slice none 0 0, .slice none 0 0]) ?_ 2 _ rfl; (with_reducible repeat (first | refine blk_drewN ?_ _ | refine blk_drew ?_ | refine blk_alloc ?_ _)); refine blk_put (cs := #[.int .i64 0, .bool false, .slice none 0 0, .slice none 0 0]) ?_ 1 _ rfl; (with_reducible repeat (first | refine blk_drewN ?_ _ | refine blk_drew ?_ | refine blk_alloc ?_ _)); refine blk_put (cs := #[.int .i64 0, .bool false, .slice none 0 0, .slice none 0 0]) ?_ 0 _ rfl; (with_reducible repeat (first | refine blk_drewN ?_ _ | refine blk_drew ?_ | refine blk_alloc ?_ _)); refine blk_far ?_ NB173_172.out _; (with_reducible repeat (first | refine blk_drewN ?_ _ | refine blk_drew ?_ | refine blk_alloc ?_ _)); refine blk_far ?_ NB173_172.out _; (with_reducible repeat (first | refine blk_drewN ?_ _ | refine blk_drew ?_ | refine blk_alloc ?_ _)); exact BK173.out) Try.underlying46 rfl (by kernel_rfl)) rfl ?_
            exact ⟨_, _, _, _, by first | rfl | (simp [errW_none, errW_some] <;> rfl) | (simp [*, errW_none, errW_some] <;> rfl), by (with_reducible repeat (first | apply Kd.V_alloc | apply Kd.V_drewN | apply Kd.V_drew)); exact Kd.V_mono (Kd.V_far (p := ⟨gb173, 3, none⟩) (Kd.V_far (p := ⟨gb173, 2, none⟩) (Kd.V_far (p := ⟨gb173, 1, none⟩) (Kd.V_far (p := ⟨gb173, 0, none⟩) (Kd.V_far (p := ⟨gb172, 1, none⟩) (Kd.V_far (p := ⟨gb172, 0, none⟩) (Kd.V_mono (Kd.V_mono HO0_0.out (fun k_ hk => (⟨hk, hk.1.2⟩ : _ ∧ k_ ≠ gb172))) (fun k_ hk => (⟨hk, hk.1.2⟩ : _ ∧ k_ ≠ gb173))) (fun _ hk => hk.1.2) (.slice A0_0 l0_0.length c0_0)) (fun _ hk => hk.1.2) (.slice A0_1 l0_1.length c0_1)) (fun _ hk => hk.2) (.int .i64 0)) (fun _ hk => hk.2) (.bool false)) (fun _ hk => hk.2) (.slice none 0 0)) (fun _ hk => hk.2) (.slice none 0 0)) (fun _ hk => hk.1.1.1.1.1.1), by (with_reducible repeat (first | apply Kd.V_alloc | apply Kd.V_drewN | apply Kd.V_drew)); exact Kd.V_mono (Kd.V_far (p := ⟨gb173, 3, none⟩) (Kd.V_far (p := ⟨gb173, 2, none⟩) (Kd.V_far (p := ⟨gb173, 1, none⟩) (Kd.V_far (p := ⟨gb173, 0, none⟩) (Kd.V_far (p := ⟨gb172, 1, none⟩) (Kd.V_far (p := ⟨gb172, 0, none⟩) (Kd.V_mono (Kd.V_mono HO0_1.out (fun k_ hk => (⟨hk, hk.1.2⟩ : _ ∧ k_ ≠ gb172))) (fun k_ hk => (⟨hk, hk.1.2⟩ : _ ∧ k_ ≠ gb173))) (fun _ hk => hk.1.2) (.slice A0_0 l0_0.length c0_0)) (fun _ hk => hk.1.2) (.slice A0_1 l0_1.length c0_1)) (fun _ hk => hk.2) (.int .i64 0)) (fun _ hk => hk.2) (.bool false)) (fun _ hk => hk.2) (.slice none 0 0)) (fun _ hk => hk.2) (.slice none 0 0)) (fun _ hk => hk.1.1.1.1.1.1), Kd.V_nil _ _ _ _ _, Kd.V_nil _ _ _ _ _, by repeat (first | (with_reducible first | exact HB.out | apply below_alloc | apply pw_below_drewN | apply below_drew1 | refine below_set ?_ GE170.out | refine below_set ?_ GE171.out | refine below_set ?_ GE172.out | refine below_set ?_ GE173.out) | exact HB.out)⟩

/-! ### spec_Trees: function 24 -/
section
open Go.IntWalk Less AvlPure.T
theorem rank_some (tb : List Int) (ht : tb.length ≤ 2147483647) (k : Int) : spec_Rank.f tb k = some (rankOf tb k) := by
  unfold spec_Rank.f rankOf
  by_cases h : tb = []
  · subst h; rfl
  · have hp : 0 < tb.length := List.length_pos_iff.2 h
    have b := tmod_bd k tb.length (by omega)
    have ea : wrap64 (k.tmod tb.length + tb.length) = k.tmod tb.length + tb.length := wrap64_in _ (by omega)
    have et : (k.tmod tb.length + tb.length).tmod tb.length = k % tb.length := by rw [Int.tmod_eq_emod_of_nonneg (by omega)]; exact b.2.2
    have a0 := Int.emod_nonneg k (show (tb.length : Int) ≠ 0 by omega)
    have a1 := Int.emod_lt_of_pos k (show (0 : Int) < tb.length by omega)
    rw [if_neg (by omega), if_neg h, ea, et, if_pos a0, if_pos a1]
theorem alike_some (tb : List Int) (ht : tb.length ≤ 2147483647) (a b : Int) : spec_Alike.f tb a b = some (rankOf tb a == rankOf tb b) := by
  unfold spec_Alike.f
  rw [rank_some tb ht, rank_some tb ht]; rfl

def preL (rk : Int → Int) (key : Int) : List (Int × Int) → List (Int × Int)
  | [] => []
  | x :: r => if rk x.1 < rk key then x :: preL rk key r else []
def sufL (rk : Int → Int) (key : Int) : List (Int × Int) → List (Int × Int)
  | [] => []
  | x :: r => if rk x.1 < rk key then sufL rk key r else x :: r
theorem pre_suf (rk : Int → Int) (key : Int) : ∀ l, preL rk key l ++ sufL rk key l = l
  | [] => rfl
  | x :: r => by
    unfold preL sufL
    by_cases h : rk x.1 < rk key
    · rw [if_pos h, if_pos h, List.cons_append, pre_suf rk key r]
    · rw [if_neg h, if_neg h]; rfl
theorem pre_low (rk : Int → Int) (key : Int) : ∀ l, ∀ x ∈ preL rk key l, rk x.1 < rk key
  | [], x, h => by simp [preL] at h
  | y :: r, x, h => by
    unfold preL at h
    by_cases c : rk y.1 < rk key
    · rw [if_pos c] at h
      rcases List.mem_cons.1 h with rfl | h
      · exact c
      · exact pre_low rk key r x h
    · rw [if_neg c] at h; simp at h
theorem suf_head (rk : Int → Int) (key : Int) : ∀ l x r, sufL rk key l = x :: r → ¬ rk x.1 < rk key
  | [], x, r, h => by simp [sufL] at h
  | y :: l, x, r, h => by
    unfold sufL at h
    by_cases c : rk y.1 < rk key
    · rw [if_pos c] at h; exact suf_head rk key l x r h
    · rw [if_neg c] at h; injection h with h1 h2; rw [← h1]; exact c
/-- Whether a key that is alike stands where this one would. -/
def hdL (rk : Int → Int) (key : Int) : List (Int × Int) → Bool
  | [] => false
  | x :: _ => rk x.1 == rk key
def isL (rk : Int → Int) (key : Int) (l : List (Int × Int)) : Bool := hdL rk key (sufL rk key l)

theorem find_ev (tb : List Int) (ht : tb.length ≤ 2147483647) (key : Int) : ∀ (B A : List (Int × Int)), (A ++ B).length ≤ 2147483647 →
    Ev (fun k => spec_Tree_find.l0 k tb key A.length ((A ++ B).map (·.1)) ((A ++ B).map (·.2))) (((A.length + (preL (rankOf tb) key B).length : Nat) : Int), isL (rankOf tb) key B)
  | [], A, _ => by
    refine Ev.step (f := fun _ => some ((A.length : Int), false)) (fun k => ?_) (Ev.now _)
    simp only [spec_Tree_find.l0]
    rw [if_neg (by simp)]
  | x :: B, A, hl => by
    have hlt : (A.length : Int) < (((A ++ x :: B).map (·.1)).length : Int) := by simp; omega
    have hx : rd ((A ++ x :: B).map (·.1)) A.length = x.1 := by simp [rd, List.getD_eq_getElem?_getD]
    simp only [List.length_append, List.length_cons] at hl
    by_cases h : rankOf tb x.1 < rankOf tb key
    · have e : A ++ x :: B = (A ++ [x]) ++ B := by simp
      have ih := find_ev tb ht key B (A ++ [x]) (by simp; omega)
      have e2 : (A.length + (preL (rankOf tb) key (x :: B)).length : Nat) = (A ++ [x]).length + (preL (rankOf tb) key B).length := by rw [show preL (rankOf tb) key (x :: B) = x :: preL (rankOf tb) key B from if_pos h]; simp; omega
      have e3 : isL (rankOf tb) key (x :: B) = isL (rankOf tb) key B := by unfold isL; rw [show sufL (rankOf tb) key (x :: B) = sufL (rankOf tb) key B from if_pos h]
      rw [e2, e3]
      refine Ev.step (fun k => ?_) (by rw [← e] at ih; exact ih)
      simp only [spec_Tree_find.l0]
      rw [if_pos hlt, if_pos (by omega), hx, rank_some tb ht, rank_some tb ht, Option.bind_some, Option.bind_some, if_pos h, wrap64_in _ (by omega)]
      simp
    · have e2 : preL (rankOf tb) key (x :: B) = [] := if_neg h
      have e3 : isL (rankOf tb) key (x :: B) = (rankOf tb x.1 == rankOf tb key) := by unfold isL; rw [show sufL (rankOf tb) key (x :: B) = x :: B from if_neg h]; rfl
      rw [e2, e3]
      refine Ev.step (f := fun _ => some ((A.length : Int), rankOf tb x.1 == rankOf tb key)) (fun k => ?_) (Ev.now _)
      simp only [spec_Tree_find.l0]
      rw [if_pos hlt, if_pos (by omega), hx, rank_some tb ht, rank_some tb ht, Option.bind_some, Option.bind_some, if_neg h, alike_some tb ht]; rfl

theorem put_some (A B : List Int) (x : Int) (h : (A ++ B).length ≤ 2147483647) : spec_put.f (A ++ B) A.length x = some (A ++ x :: B) := by
  simp only [List.length_append] at h
  unfold spec_put.f
  rw [Option.bind_some, if_pos (by omega), if_pos (by simp; omega), Int.toNat_natCast, List.take_left, List.drop_left, if_pos (by simp; omega), List.nil_append, Option.bind_some, if_pos (by omega), Option.bind_some, if_pos (by simp; omega)]
  simp
theorem cut_some (A B : List Int) (x : Int) (h : (A ++ x :: B).length ≤ 2147483647) : spec_cut.f (A ++ x :: B) A.length = some (A ++ B) := by
  simp only [List.length_append, List.length_cons] at h
  unfold spec_cut.f
  have e : wrap64 ((A.length : Int) + 1) = A.length + 1 := wrap64_in _ (by omega)
  have e2 : ((A.length : Int) + 1).toNat = A.length + 1 := by omega
  rw [Option.bind_some, if_pos (by omega), if_pos (by simp; omega), Int.toNat_natCast, List.take_left, if_pos (by simp; omega), List.nil_append, Option.bind_some, e, e2, if_pos (by omega), if_pos (by simp; omega)]
  have e3 : (A ++ x :: B).drop (A.length + 1) = B := by rw [List.drop_append]; simp
  rw [e3, if_pos (by omega)]

theorem put_at (f : Int × Int → Int) (A B : List (Int × Int)) (x : Int) (h : (A ++ B).length ≤ 2147483647) : spec_put.f ((A ++ B).map f) A.length x = some (A.map f ++ x :: B.map f) := by
  have := put_some (A.map f) (B.map f) x (by simpa using h)
  rw [List.length_map] at this
  rw [List.map_append]; exact this
theorem cut_at (f : Int × Int → Int) (A B : List (Int × Int)) (y : Int × Int) (h : (A ++ y :: B).length ≤ 2147483647) : spec_cut.f ((A ++ y :: B).map f) A.length = some ((A ++ B).map f) := by
  have := cut_some (A.map f) (B.map f) (f y) (by simpa using h)
  rw [List.length_map] at this
  rw [List.map_append, List.map_cons, List.map_append]; exact this

/-- What the plain map does at a step, and tells. -/
def stepS (tb : List Int) (L : List (Int × Int)) (a : Avl.Act3) : List (Int × Int) := if a.1 = 0 then putL (rankOf tb) a.2.1 a.2.2 L else if a.1 = 1 then remL (rankOf tb) a.2.1 L else L
def gotS (tb : List Int) (L : List (Int × Int)) (key : Int) : Int × Bool := match getL (rankOf tb) key L with | none => (0, false) | some p => (p.2, true)
def tellS (tb : List Int) (L : List (Int × Int)) (a : Avl.Act3) : Avl.Told4 :=
  if a.1 = 2 then ((gotS tb L a.2.1).1, (gotS tb L a.2.1).2, [], []) else if a.1 = 3 then (L.length, false, [], []) else if a.1 = 4 then (0, false, L.map (·.1), L.map (·.2)) else (0, false, [], [])
def toldS (tb : List Int) : List (Int × Int) → List Avl.Act3 → List Avl.Told4
  | _, [] => []
  | L, a :: l => tellS tb L a :: toldS tb (stepS tb L a) l

theorem put_ev (tb : List Int) (A B : List (Int × Int)) (key val : Int) (hl : (A ++ B).length < 2147483647) (hlow : ∀ x ∈ A, rankOf tb x.1 < rankOf tb key) (hB : ∀ x r, B = x :: r → ¬ rankOf tb x.1 < rankOf tb key)
    (hf : Ev (fun k => spec_Tree_find.f k ((A ++ B).map (·.1)) ((A ++ B).map (·.2)) tb key) ((A.length : Int), hdL (rankOf tb) key B)) :
    Ev (fun k => spec_Tree_Put.f k ((A ++ B).map (·.1)) ((A ++ B).map (·.2)) tb key val) ((putL (rankOf tb) key val (A ++ B)).map (·.1), (putL (rankOf tb) key val (A ++ B)).map (·.2)) := by
  rw [putL_high A hlow]
  unfold spec_Tree_Put.f
  refine Ev.bind hf ⟨0, fun _ _ => ?_⟩
  cases B with
  | nil =>
    simp only [hdL, Bool.false_eq_true, if_false]
    rw [put_at _ A [] key (by omega), Option.bind_some, put_at _ A [] val (by omega), Option.bind_some]
    simp [putL]
  | cons x B =>
    have hx := hB x B rfl
    by_cases h : rankOf tb key < rankOf tb x.1
    · have hb : (rankOf tb x.1 == rankOf tb key) = false := beq_eq_false_iff_ne.2 (by omega)
      simp only [hdL, hb, Bool.false_eq_true, if_false]
      rw [put_at _ A (x :: B) key (by omega), Option.bind_some, put_at _ A (x :: B) val (by omega), Option.bind_some]
      obtain ⟨k, v⟩ := x
      simp only [putL]
      rw [if_neg hx, if_pos h]
      simp
    · have hb : (rankOf tb x.1 == rankOf tb key) = true := beq_iff_eq.2 (by omega)
      simp only [hdL, hb, if_true]
      rw [cut_at _ A B x (by omega), Option.bind_some, put_at _ A B val (by simp only [List.length_append, List.length_cons] at hl ⊢; omega), Option.bind_some]
      obtain ⟨k, v⟩ := x
      simp only [putL]
      rw [if_neg hx, if_neg h]
      simp

theorem remL_high' {rk : Int → Int} {key : Int} {R : List (Int × Int)} (A : List (Int × Int)) (h : ∀ x ∈ A, rk x.1 < rk key) : remL rk key (A ++ R) = A ++ remL rk key R := remL_high A h

theorem rem_ev (tb : List Int) (A B : List (Int × Int)) (key : Int) (hl : (A ++ B).length ≤ 2147483647) (hlow : ∀ x ∈ A, rankOf tb x.1 < rankOf tb key) (hB : ∀ x r, B = x :: r → ¬ rankOf tb x.1 < rankOf tb key)
    (hf : Ev (fun k => spec_Tree_find.f k ((A ++ B).map (·.1)) ((A ++ B).map (·.2)) tb key) ((A.length : Int), hdL (rankOf tb) key B)) :
    Ev (fun k => spec_Tree_Remove.f k ((A ++ B).map (·.1)) ((A ++ B).map (·.2)) tb key) ((remL (rankOf tb) key (A ++ B)).map (·.1), (remL (rankOf tb) key (A ++ B)).map (·.2)) := by
  rw [remL_high A hlow]
  unfold spec_Tree_Remove.f
  refine Ev.bind hf ⟨0, fun _ _ => ?_⟩
  cases B with
  | nil =>
    simp only [hdL, Bool.false_eq_true, if_false]
    simp [remL]
  | cons x B =>
    have hx := hB x B rfl
    by_cases h : rankOf tb key < rankOf tb x.1
    · have hb : (rankOf tb x.1 == rankOf tb key) = false := beq_eq_false_iff_ne.2 (by omega)
      simp only [hdL, hb, Bool.false_eq_true, if_false]
      obtain ⟨k, v⟩ := x
      simp only [remL]
      rw [if_neg hx, if_pos h]
    · have hb : (rankOf tb x.1 == rankOf tb key) = true := beq_iff_eq.2 (by omega)
      simp only [hdL, hb, if_true]
      rw [cut_at _ A B x hl, Option.bind_some, cut_at _ A B x hl, Option.bind_some]
      obtain ⟨k, v⟩ := x
      simp only [remL]
      rw [if_neg hx, if_neg h]

theorem get_ev (tb : List Int) (A B : List (Int × Int)) (key : Int) (hlow : ∀ x ∈ A, rankOf tb x.1 < rankOf tb key) (hB : ∀ x r, B = x :: r → ¬ rankOf tb x.1 < rankOf tb key)
    (hf : Ev (fun k => spec_Tree_find.f k ((A ++ B).map (·.1)) ((A ++ B).map (·.2)) tb key) ((A.length : Int), hdL (rankOf tb) key B)) :
    Ev (fun k => spec_Tree_Get.f k ((A ++ B).map (·.1)) ((A ++ B).map (·.2)) tb key) (gotS tb (A ++ B) key) := by
  unfold gotS
  rw [getL_high A hlow]
  unfold spec_Tree_Get.f
  refine Ev.bind hf ⟨0, fun _ _ => ?_⟩
  cases B with
  | nil =>
    simp only [hdL, Bool.false_eq_true, if_false]
    simp [getL]
  | cons x B =>
    have hx := hB x B rfl
    by_cases h : rankOf tb key < rankOf tb x.1
    · have hb : (rankOf tb x.1 == rankOf tb key) = false := beq_eq_false_iff_ne.2 (by omega)
      simp only [hdL, hb, Bool.false_eq_true, if_false]
      obtain ⟨k, v⟩ := x
      simp only [getL]
      rw [if_neg hx, if_pos h]
    · have hb : (rankOf tb x.1 == rankOf tb key) = true := beq_iff_eq.2 (by omega)
      simp only [hdL, hb, if_true]
      rw [if_pos (by omega), if_pos (by simp; omega)]
      obtain ⟨k, v⟩ := x
      simp only [getL]
      rw [if_neg hx, if_neg h]
      simp [rd, List.getD_eq_getElem?_getD]

theorem step_ev (tb : List Int) (ht : tb.length ≤ 2147483647) (L : List (Int × Int)) (hL : L.length < 2147483647) (a : Avl.Act3) :
    Ev (fun k => spec_Tree_Step.f k (L.map (·.1)) (L.map (·.2)) tb a.1 a.2.1 a.2.2) ((stepS tb L a).map (·.1), (stepS tb L a).map (·.2), (tellS tb L a).1, (tellS tb L a).2.1, (tellS tb L a).2.2.1, (tellS tb L a).2.2.2) := by
  obtain ⟨d, key, val⟩ := a
  have hf : Ev (fun k => spec_Tree_find.f k (L.map (·.1)) (L.map (·.2)) tb key) (((preL (rankOf tb) key L).length : Int), isL (rankOf tb) key L) := by
    have := find_ev tb ht key L [] (by simp; omega)
    simp only [List.nil_append, List.length_nil, Nat.zero_add] at this
    exact this
  have hps := pre_suf (rankOf tb) key L
  have hlow := pre_low (rankOf tb) key L
  have hsh := suf_head (rankOf tb) key L
  unfold isL at hf
  generalize preL (rankOf tb) key L = A at hf hps hlow
  generalize sufL (rankOf tb) key L = B at hf hps hsh
  subst hps
  unfold spec_Tree_Step.f
  by_cases h0 : d = 0
  · subst h0
    simp only [if_true]
    exact Ev.bind (put_ev tb A B key val hL hlow hsh hf) (Ev.now _)
  · by_cases h1 : d = 1
    · subst h1
      simp only [show ¬ (1 : Int) = 0 by decide, if_true, if_false]
      exact Ev.bind (rem_ev tb A B key (by omega) hlow hsh hf) (Ev.now _)
    · have es : stepS tb (A ++ B) (d, key, val) = A ++ B := (if_neg h0).trans (if_neg h1)
      rw [es]
      by_cases h2 : d = 2
      · subst h2
        simp only [show ¬ (2 : Int) = 0 by decide, show ¬ (2 : Int) = 1 by decide, if_true, if_false]
        exact Ev.bind (get_ev tb A B key hlow hsh hf) (Ev.now _)
      · by_cases h3 : d = 3
        · subst h3
          simp only [show ¬ (3 : Int) = 0 by decide, show ¬ (3 : Int) = 1 by decide, show ¬ (3 : Int) = 2 by decide, if_true, if_false]
          have e : tellS tb (A ++ B) (3, key, val) = (((A ++ B).length : Int), false, [], []) := rfl
          rw [e]
          simp only [List.length_map]
          exact Ev.now _
        · by_cases h4 : d = 4
          · subst h4
            simp only [show ¬ (4 : Int) = 0 by decide, show ¬ (4 : Int) = 1 by decide, show ¬ (4 : Int) = 2 by decide, show ¬ (4 : Int) = 3 by decide, if_true, if_false]
            exact Ev.now _
          · simp only [h0, h1, h2, h3, h4, if_false]
            have e : tellS tb (A ++ B) (d, key, val) = (0, false, [], []) := (if_neg h2).trans ((if_neg h3).trans (if_neg h4))
            rw [e]
            exact Ev.now _
end

/-! The rows that a script's plain map hands on: what is only read. -/
def okT (w : World) (g5 : Nat) (out : Value) (k : Nat) : Prop := (w.heap.size ≤ k ∧ k ≠ g5) ∧ some k ≠ out.ownBlock
structure Pt (w : World) (g5 : Nat) (out : Value) (rs : List S46) (ks vs : List Int) (K V : Value) (W : World) : Prop where
  blk : W.heap[g5]? = some (.cells #[K, V] 26 (0, 0))
  row : Kd.N k46 46 W w.heap.size (fun k => w.heap.size ≤ k ∧ k ≠ g5) out rs
  ks : Kd.V (Kd.int .i64) 3 W w.heap.size (okT w g5 out) K ks
  vs : Kd.V (Kd.int .i64) 3 W w.heap.size (okT w g5 out) V vs
  bel : Below w.heap.size w W
  ge : w.heap.size ≤ g5
section
variable {w W0 W W' : World} {g5 : Nat} {out K V : Value} {rs : List S46} {ks vs r1 r2 r5 r6 : List Int}
theorem Pt.below (h : Pt w g5 out rs ks vs K V W) (hb : Below W.heap.size W W') : Pt w g5 out rs ks vs K V W' :=
  ⟨(hb.block g5 (lt_of_block h.blk)).trans h.blk, Kd.N_below h.row hb, Kd.V_below h.ks hb, Kd.V_below h.vs hb, below_then h.bel h.bel.size hb, h.ge⟩

/-- In the midst of a step: which of the two variables have been laid, whether the step's call has told. -/
structure St (w W0 : World) (g5 : Nat) (out : Value) (rs : List S46) (ks vs : List Int) (K V : Value) (r1 r2 r5 r6 : List Int) (g8 g9 : Option Nat) (c : Option (Value × Value × Value × Value)) (W : World) : Prop where
  pt : Pt w g5 out rs ks vs K V W
  ks : Kd.V (Kd.int .i64) 3 W w.heap.size (fun k => okT w g5 out k ∧ k < W0.heap.size) K ks
  vs : Kd.V (Kd.int .i64) 3 W w.heap.size (fun k => okT w g5 out k ∧ k < W0.heap.size) V vs
  sz : W0.heap.size ≤ W.heap.size
  row : Kd.N k46 46 W w.heap.size (fun k => (w.heap.size ≤ k ∧ k ≠ g5) ∧ k < W0.heap.size) out rs
  old : g5 < W0.heap.size ∧ ∀ k, out.ownBlock = some k → k < W0.heap.size
  b8 : ∀ g, g8 = some g → W0.heap.size ≤ g ∧ W.heap[g]? = some (.cells #[.slice none 0 0, .slice none 0 0] 26 (0, 0))
  b9 : ∀ g, g9 = some g → W0.heap.size ≤ g ∧ W.heap[g]? = some (.cells #[.int .i64 0, .bool false, .slice none 0 0, .slice none 0 0] 46 (0, 0))
  ne : ∀ a b, g8 = some a → g9 = some b → a ≠ b
  res : ∀ v, c = some v → Kd.V (Kd.int .i64) 3 W w.heap.size (fun k => okT w g5 out k ∧ some k ≠ g8 ∧ some k ≠ g9) v.1 r1 ∧ Kd.V (Kd.int .i64) 3 W w.heap.size (fun k => okT w g5 out k ∧ some k ≠ g8 ∧ some k ≠ g9) v.2.1 r2 ∧
    Kd.V (Kd.int .i64) 3 W w.heap.size (fun k => okT w g5 out k ∧ some k ≠ g8 ∧ some k ≠ g9) v.2.2.1 r5 ∧ Kd.V (Kd.int .i64) 3 W w.heap.size (fun k => okT w g5 out k ∧ some k ≠ g8 ∧ some k ≠ g9) v.2.2.2 r6

theorem st_start (h : Pt w g5 out rs ks vs K V W) : St w W g5 out rs ks vs K V r1 r2 r5 r6 none none none W :=
  ⟨h, Kd.V_mono (Kd.V_bound h.ks) (fun _ hk => hk), Kd.V_mono (Kd.V_bound h.vs) (fun _ hk => hk), Nat.le_refl _, Kd.N_bound h.row, ⟨lt_of_block h.blk, Kd.N_lt h.row⟩, fun _ h => (nomatch h), fun _ h => (nomatch h), fun _ _ h => (nomatch h), fun _ h => (nomatch h)⟩

variable {g8 g9 : Option Nat} {c : Option (Value × Value × Value × Value)}
theorem St.alloc8 (h : St w W0 g5 out rs ks vs K V r1 r2 r5 r6 none g9 c W) : St w W0 g5 out rs ks vs K V r1 r2 r5 r6 (some W.heap.size) g9 c (W.alloc (.cells #[.slice none 0 0, .slice none 0 0] 26)) := by
  have hb := below_alloc (Below.refl W.heap.size W) (.cells #[.slice none 0 0, .slice none 0 0] 26)
  refine ⟨h.pt.below hb, Kd.V_below h.ks hb, Kd.V_below h.vs hb, Nat.le_trans h.sz hb.size, Kd.N_below h.row hb, h.old, fun g e => ?_, fun g e => ?_, fun a b e1 e2 => ?_, fun v e => ?_⟩
  · cases e; exact ⟨h.sz, heap_alloc_new W _⟩
  · have := h.b9 g e; exact ⟨this.1, (hb.block g (lt_of_block this.2)).trans this.2⟩
  · cases e1
    have := lt_of_block (h.b9 b e2).2; omega
  · obtain ⟨a1, a2, a3, a4⟩ := h.res v e
    have go : ∀ {u : Value} {xs : List Int}, Kd.V (Kd.int .i64) 3 W w.heap.size (fun k => okT w g5 out k ∧ some k ≠ none ∧ some k ≠ g9) u xs → Kd.V (Kd.int .i64) 3 (W.alloc (.cells #[.slice none 0 0, .slice none 0 0] 26)) w.heap.size (fun k => okT w g5 out k ∧ some k ≠ some W.heap.size ∧ some k ≠ g9) u xs := fun q =>
      Kd.V_below (Kd.V_mono (Kd.V_bound q) (fun k hk => ⟨hk.1.1, fun e => by injection e with e; have := hk.2; omega, hk.1.2.2⟩)) hb
    exact ⟨go a1, go a2, go a3, go a4⟩
theorem St.alloc9 (h : St w W0 g5 out rs ks vs K V r1 r2 r5 r6 g8 none c W) : St w W0 g5 out rs ks vs K V r1 r2 r5 r6 g8 (some W.heap.size) c (W.alloc (.cells #[.int .i64 0, .bool false, .slice none 0 0, .slice none 0 0] 46)) := by
  have hb := below_alloc (Below.refl W.heap.size W) (.cells #[.int .i64 0, .bool false, .slice none 0 0, .slice none 0 0] 46)
  refine ⟨h.pt.below hb, Kd.V_below h.ks hb, Kd.V_below h.vs hb, Nat.le_trans h.sz hb.size, Kd.N_below h.row hb, h.old, fun g e => ?_, fun g e => ?_, fun a b e1 e2 => ?_, fun v e => ?_⟩
  · have := h.b8 g e; exact ⟨this.1, (hb.block g (lt_of_block this.2)).trans this.2⟩
  · cases e; exact ⟨h.sz, heap_alloc_new W _⟩
  · cases e2
    have := lt_of_block (h.b8 a e1).2; omega
  · obtain ⟨a1, a2, a3, a4⟩ := h.res v e
    have go : ∀ {u : Value} {xs : List Int}, Kd.V (Kd.int .i64) 3 W w.heap.size (fun k => okT w g5 out k ∧ some k ≠ g8 ∧ some k ≠ none) u xs → Kd.V (Kd.int .i64) 3 (W.alloc (.cells #[.int .i64 0, .bool false, .slice none 0 0, .slice none 0 0] 46)) w.heap.size (fun k => okT w g5 out k ∧ some k ≠ g8 ∧ some k ≠ some W.heap.size) u xs := fun q =>
      Kd.V_below (Kd.V_mono (Kd.V_bound q) (fun k hk => ⟨hk.1.1, hk.1.2.1, fun e => by injection e with e; have := hk.2; omega⟩)) hb
    exact ⟨go a1, go a2, go a3, go a4⟩
theorem St.call (h : St w W0 g5 out rs ks vs K V r1 r2 r5 r6 g8 g9 none W) (hb : Below W.heap.size W W') {v0 v1 v4 v5 : Value}
    (q0 : Kd.V (Kd.int .i64) 3 W' W.heap.size (fun k => ((okT w g5 out k ∧ k < W0.heap.size) ∨ (okT w g5 out k ∧ k < W0.heap.size)) ∨ W.heap.size ≤ k) v0 r1) (q1 : Kd.V (Kd.int .i64) 3 W' W.heap.size (fun k => ((okT w g5 out k ∧ k < W0.heap.size) ∨ (okT w g5 out k ∧ k < W0.heap.size)) ∨ W.heap.size ≤ k) v1 r2)
    (q4 : Kd.V (Kd.int .i64) 3 W' W.heap.size (fun k => ((okT w g5 out k ∧ k < W0.heap.size) ∨ (okT w g5 out k ∧ k < W0.heap.size)) ∨ W.heap.size ≤ k) v4 r5) (q5 : Kd.V (Kd.int .i64) 3 W' W.heap.size (fun k => ((okT w g5 out k ∧ k < W0.heap.size) ∨ (okT w g5 out k ∧ k < W0.heap.size)) ∨ W.heap.size ≤ k) v5 r6) :
    St w W0 g5 out rs ks vs K V r1 r2 r5 r6 g8 g9 (some (v0, v1, v4, v5)) W' := by
  have hw := h.pt.bel.size
  have hs := h.sz
  refine ⟨h.pt.below hb, Kd.V_below h.ks hb, Kd.V_below h.vs hb, Nat.le_trans h.sz hb.size, Kd.N_below h.row hb, h.old, fun g e => ?_, fun g e => ?_, h.ne, fun v e => ?_⟩
  · have := h.b8 g e; exact ⟨this.1, (hb.block g (lt_of_block this.2)).trans this.2⟩
  · have := h.b9 g e; exact ⟨this.1, (hb.block g (lt_of_block this.2)).trans this.2⟩
  · cases e
    have go : ∀ {u : Value} {xs : List Int}, Kd.V (Kd.int .i64) 3 W' W.heap.size (fun k => ((okT w g5 out k ∧ k < W0.heap.size) ∨ (okT w g5 out k ∧ k < W0.heap.size)) ∨ W.heap.size ≤ k) u xs → Kd.V (Kd.int .i64) 3 W' w.heap.size (fun k => okT w g5 out k ∧ some k ≠ g8 ∧ some k ≠ g9) u xs := fun q => by
      obtain ⟨A, cc, e, hl, hf⟩ := q
      refine ⟨A, cc, e, hl, Kd.F_mono hf (fun k hk => ?_)⟩
      rcases hk with hk | hk
      · have hk' : okT w g5 out k ∧ k < W0.heap.size := hk.elim id id
        exact ⟨hk'.1, fun e => by have := (h.b8 k e.symm).1; omega, fun e => by have := (h.b9 k e.symm).1; omega⟩
      · refine ⟨⟨⟨by omega, fun e => by have := h.old.1; omega⟩, fun e => by have := h.old.2 k e.symm; omega⟩, fun e => by have := lt_of_block (h.b8 k e.symm).2; omega, fun e => by have := lt_of_block (h.b9 k e.symm).2; omega⟩
    exact ⟨go q0, go q1, go q4, go q5⟩
end

/-- Behind the stores into both variables. -/
theorem St.ended {w W0 W W2 : World} {g5 a b : Nat} {out K V v0 v1 v4 v5 : Value} {rs : List S46} {ks vs r1 r2 r5 r6 : List Int} (h : St w W0 g5 out rs ks vs K V r1 r2 r5 r6 (some a) (some b) (some (v0, v1, v4, v5)) W)
    (hf : ∀ k, k ≠ a → k ≠ b → W2.heap[k]? = W.heap[k]?) (hb : Below w.heap.size w W2) :
    W2.heap[g5]? = some (.cells #[K, V] 26 (0, 0)) ∧ Kd.N k46 46 W2 w.heap.size (fun k => w.heap.size ≤ k ∧ k ≠ g5) out rs ∧ Kd.V (Kd.int .i64) 3 W2 w.heap.size (okT w g5 out) v0 r1 ∧ Kd.V (Kd.int .i64) 3 W2 w.heap.size (okT w g5 out) v1 r2 ∧
      Kd.V (Kd.int .i64) 3 W2 w.heap.size (okT w g5 out) v4 r5 ∧ Kd.V (Kd.int .i64) 3 W2 w.heap.size (okT w g5 out) v5 r6 ∧ Below w.heap.size w W2 := by
  have ha := (h.b8 a rfl).1
  have hb' := (h.b9 b rfl).1
  have h5 := h.old.1
  obtain ⟨q0, q1, q4, q5⟩ := h.res _ rfl
  have go : ∀ {u : Value} {xs : List Int}, Kd.V (Kd.int .i64) 3 W w.heap.size (fun k => okT w g5 out k ∧ some k ≠ some a ∧ some k ≠ some b) u xs → Kd.V (Kd.int .i64) 3 W2 w.heap.size (okT w g5 out) u xs := fun q =>
    Kd.V_mono (Kd.V_step q (fun k hk _ => hf k (fun e => hk.2.1 (by rw [e])) (fun e => hk.2.2 (by rw [e])))) (fun _ hk => hk.1)
  exact ⟨(hf g5 (by omega) (by omega)).trans h.pt.blk, Kd.N_mono (Kd.N_step h.row (fun k hk _ => hf k (by have := hk.2; omega) (by have := hk.2; omega))) (fun _ hk => hk.1), go q0, go q1, go q4, go q5, hb⟩

/-- Behind the stores into both variables, and into the map's own. -/
structure Mid (w : World) (g5 : Nat) (out : Value) (rs : List S46) (r1 r2 r5 r6 : List Int) (b : Nat) (v0 v1 v4 v5 : Value) (R3 : Int) (R4 : Bool) (W : World) : Prop where
  pt : Pt w g5 out rs r1 r2 v0 v1 W
  q5 : Kd.V (Kd.int .i64) 3 W w.heap.size (okT w g5 out) v4 r5
  q6 : Kd.V (Kd.int .i64) 3 W w.heap.size (okT w g5 out) v5 r6
  b9 : W.heap[b]? = some (.cells #[.int .i64 R3, .bool R4, v4, v5] 46 (0, 0))
theorem St.two {w W0 W : World} {g5 a b : Nat} {out K V v0 v1 v4 v5 : Value} {rs : List S46} {ks vs r1 r2 r5 r6 : List Int} (R3 : Int) (R4 : Bool) (h : St w W0 g5 out rs ks vs K V r1 r2 r5 r6 (some a) (some b) (some (v0, v1, v4, v5)) W) {W2 : World}
    (e : W2 = (((((W.setCell ⟨a, 0, none⟩ v0).setCell ⟨a, 1, none⟩ v1).setCell ⟨b, 0, none⟩ (.int .i64 R3)).setCell ⟨b, 1, none⟩ (.bool R4)).setCell ⟨b, 2, none⟩ v4).setCell ⟨b, 3, none⟩ v5) :
    W2.heap[a]? = some (.cells #[v0, v1] 26 (0, 0)) ∧ W2.heap[b]? = some (.cells #[.int .i64 R3, .bool R4, v4, v5] 46 (0, 0)) ∧ W2.heap[g5]? = some (.cells #[K, V] 26 (0, 0)) ∧
      Mid w g5 out rs r1 r2 r5 r6 b v0 v1 v4 v5 R3 R4 ((W2.setCell ⟨g5, 0, none⟩ v0).setCell ⟨g5, 1, none⟩ v1) := by
  have b8 := (h.b8 a rfl).2
  have b9 := (h.b9 b rfl).2
  have ha := (h.b8 a rfl).1
  have hb := (h.b9 b rfl).1
  have h5 := h.old.1
  have hw := h.pt.bel.size
  have hg := h.pt.ge
  have hne : a ≠ b := h.ne _ _ rfl rfl
  have hne' : b ≠ a := fun e => hne e.symm
  have e1 : W2.heap[a]? = some (.cells #[v0, v1] 26 (0, 0)) := by
    rw [e]; exact blk_far (blk_far (blk_far (blk_far (blk_set (blk_set b8 0 v0) 1 v1) hne _) hne _) hne _) hne _
  have e2 : W2.heap[b]? = some (.cells #[.int .i64 R3, .bool R4, v4, v5] 46 (0, 0)) := by
    rw [e]; exact blk_set (blk_set (blk_set (blk_set (blk_far (blk_far b9 hne' _) hne' _) 0 _) 1 _) 2 _) 3 _
  have hf : ∀ k, k ≠ a → k ≠ b → W2.heap[k]? = W.heap[k]? := fun k ka kb => by
    rw [e, Below.heap_setCell _ _ _ _ kb, Below.heap_setCell _ _ _ _ kb, Below.heap_setCell _ _ _ _ kb, Below.heap_setCell _ _ _ _ kb, Below.heap_setCell _ _ _ _ ka, Below.heap_setCell _ _ _ _ ka]
  have ha2 : w.heap.size ≤ a := Nat.le_trans (Nat.le_trans (Nat.le_trans hg (Nat.le_of_lt h5)) (Nat.le_refl _)) ha
  have hb2 : w.heap.size ≤ b := Nat.le_trans (Nat.le_trans (Nat.le_trans hg (Nat.le_of_lt h5)) (Nat.le_refl _)) hb
  have hB : Below w.heap.size w W2 := by
    rw [e]; exact (((((h.pt.bel.setCell ha2 _).setCell ha2 _).setCell hb2 _).setCell hb2 _).setCell hb2 _).setCell hb2 _
  obtain ⟨q1, q2, q3, q4, q5, q6, q7⟩ := h.ended hf hB
  have ok5 : ∀ k, okT w g5 out k → k ≠ g5 := fun k hk => hk.1.2
  refine ⟨e1, e2, q1, ⟨?_, Kd.N_far (Kd.N_far q2 (fun k hk => hk.2) _) (fun k hk => hk.2) _, Kd.V_far (Kd.V_far q3 ok5 _) ok5 _, Kd.V_far (Kd.V_far q4 ok5 _) ok5 _, (q7.setCell hg _).setCell hg _, hg⟩, Kd.V_far (Kd.V_far q5 ok5 _) ok5 _, Kd.V_far (Kd.V_far q6 ok5 _) ok5 _, ?_⟩
  · exact blk_set (blk_set q1 0 v0) 1 v1
  · exact blk_far (blk_far e2 (by intro e; subst e; omega) _) (by intro e; subst e; omega) _
theorem Pt.push {w W W1 : World} {g5 : Nat} {out out1 K V : Value} {rs rs1 : List S46} {ks vs : List Int} (h : Pt w g5 out rs ks vs K V W) (hN : Kd.N k46 46 W1 w.heap.size (fun k => w.heap.size ≤ k ∧ k ≠ g5) out1 rs1)
    (hB : Below w.heap.size w W1) (hg : W.grownBy W1 out.ownBlock) (hat : out1.ownBlock = out.ownBlock ∨ ∃ b, out1.ownBlock = some b ∧ W.heap.size ≤ b) : Pt w g5 out1 rs1 ks vs K V W1 :=
  ⟨blk_grown h.blk hg (Kd.N_away h.row (fun k hk => hk.2)), hN, Kd.V_after h.ks hg hat, Kd.V_after h.vs hg hat, hB, h.ge⟩
theorem V_sl {α : Type} {d : Kd α} {e : Nat} {W : World} {base : Nat} {ok : Nat → Prop} {A : Option Addr} {n c : Nat} {xs : List α} (h : Kd.V d e W base ok (.slice A n c) xs) : n = xs.length ∧ xs.length ≤ c ∧ Kd.F d W ok A xs.length xs := by
  obtain ⟨A', c', e, hl, hf⟩ := h
  injection e with e1 e2 e3
  subst e1 e3
  exact ⟨e2, hl, hf⟩
theorem putL_len (rk : Int → Int) (key val : Int) : ∀ l, (AvlPure.T.putL rk key val l).length ≤ l.length + 1
  | [] => by simp [AvlPure.T.putL]
  | (_, _) :: r => by
    have ih := putL_len rk key val r
    unfold AvlPure.T.putL
    split
    · simp only [List.length_cons]; omega
    · split <;> simp
theorem remL_len (rk : Int → Int) (key : Int) : ∀ l, (AvlPure.T.remL rk key l).length ≤ l.length
  | [] => by simp [AvlPure.T.remL]
  | (_, _) :: r => by
    have ih := remL_len rk key r
    unfold AvlPure.T.remL
    split
    · simp only [List.length_cons]; omega
    · split <;> simp
theorem stepS_len (tb : List Int) (L : List (Int × Int)) (a : Avl.Act3) : (stepS tb L a).length ≤ L.length + 1 := by
  unfold stepS
  split
  · exact putL_len _ _ _ _
  · split
    · have := remL_len (Less.rankOf tb) a.2.1 L; omega
    · omega

theorem Pt.cells {w W : World} {g5 : Nat} {out K V : Value} {rs : List S46} {ks vs : List Int} (h : Pt w g5 out rs ks vs K V W) : W.cell? ⟨g5, 0, none⟩ = some K ∧ W.cell? ⟨g5, 1, none⟩ = some V := ⟨(blk_cell h.blk 0).trans rfl, (blk_cell h.blk 1).trans rfl⟩
theorem St.ksW {w W0 W : World} {g5 : Nat} {out K V : Value} {rs : List S46} {ks vs r1 r2 r5 r6 : List Int} {g8 g9 : Option Nat} {c : Option (Value × Value × Value × Value)} (h : St w W0 g5 out rs ks vs K V r1 r2 r5 r6 g8 g9 c W) :
    Kd.V (Kd.int .i64) 3 W W.heap.size (fun k => okT w g5 out k ∧ k < W0.heap.size) K ks := h.ks
theorem St.vsW {w W0 W : World} {g5 : Nat} {out K V : Value} {rs : List S46} {ks vs r1 r2 r5 r6 : List Int} {g8 g9 : Option Nat} {c : Option (Value × Value × Value × Value)} (h : St w W0 g5 out rs ks vs K V r1 r2 r5 r6 g8 g9 c W) :
    Kd.V (Kd.int .i64) 3 W W.heap.size (fun k => okT w g5 out k ∧ k < W0.heap.size) V vs := h.vs

def trees.T : Bool × List (List Nat × List Nat) := (true, [([], []), ([], []), ([], []), ([], []), ([2, 3], [2, 3]), ([4], [4]), ([0, 1, 5], [0, 1, 5]), ([6], [6]), ([7], [7]), ([7], [7]), ([], []), ([], []), ([10, 8, 6, 0, 1, 2, 3, 4, 5, 6, 7, 8, 10, 11], [8, 10]), ([11, 9, 12, 0, 1, 2, 3, 4, 5, 6, 7, 8, 9, 10, 11, 12], [9, 11])])
def trees.B : List Nat := [0, 0, 0, 0, 12, 28, 63, 127, 255, 255, 0, 0, 3583, 8191]
theorem trees.tab : rtab .any (opsOf Try.f24 6) = trees.T := by kernel_rfl
theorem trees.bits : waitsOk trees.T.2 trees.B = true := by kernel_rfl

def spec_Trees.f (l0 : List Int) (l1 : List (S66)) : Option (List (S46)) :=
  if l0.length ≤ 2147483647 then (if l1.length ≤ 2147483647 then some ((toldS l0 [] (l1.map fun x => (x.f0, x.f1, x.f2))).map told_of) else none) else none
set_option maxHeartbeats 8000000 in
set_option maxRecDepth 100000 in
theorem spec_Trees.calls (A0 : Option Addr) (c0 : Nat) (l0 : List Int) (A1 : Option Addr) (c1 : Nat) (l1 : List (S66)) (r : List (S46)) (w : World) (hr0 : Kd.C (Kd.int .i64) w A0 l0.length l0) (hc0 : l0.length ≤ c0) (hr1 : Kd.C k66 w A1 l1.length l1) (hc1 : l1.length ≤ c1) (h : spec_Trees.f l0 l1 = some r) :
    Calls Try.prog 24 #[.slice A0 l0.length c0, .slice A1 l1.length c1] w fun e w' => ∃ v0_ : Value, e = .returned (v0_) ∧ Kd.V k46 46 w' w.heap.size (fun k_ => (w.heap.size ≤ k_)) v0_ r ∧ Below w.heap.size w w' := by
  unfold spec_Trees.f at h
  by_cases p1 : l0.length ≤ 2147483647
  · rw [if_pos p1] at h
    by_cases p2 : l1.length ≤ 2147483647
    · rw [if_pos p2] at h
      have HQ := Row.hid (Option.some.inj h)
      have HR0 := Aside0.mk hr0
      have HC0 := Aside0.mk hc0
      have HR1 := Aside0.mk hr1
      clear h hr0 hc0 hr1 hc1
      go_enter Try.func24, Try.ntmps24
      go_wp2_with fail
      go_loopg [6, 7] l1.length (fun g v6 v7 wr => ∃ (i : Nat) (L : List (Int × Int)) (rs : List S46) (K V : Value), v7 = .int .i64 i ∧ i ≤ l1.length ∧ Hid (g + i = l1.length) ∧ Hid (Pt w w.heap.size v6 rs (L.map (·.1)) (L.map (·.2)) K V wr ∧ rs.length = i ∧ rs ++ (toldS l0 L ((l1.drop i).map fun x => (x.f0, x.f1, x.f2))).map told_of = r ∧ L.length ≤ i))
      case atStart => exact ⟨0, [], [], .slice none 0 0, .slice none 0 0, rfl, Nat.zero_le _, Nat.add_zero _, ⟨heap_alloc_new w _, Kd.N_nil .., Kd.V_nil .., Kd.V_nil .., below_alloc (Below.refl _ _) _, Nat.le_refl _⟩, rfl, HQ.out, Nat.le_refl _⟩
      case round =>
        obtain ⟨i, L, rs, K, V, rfl, hi, HG, HI⟩ := hrel
        by_cases hlt : i < l1.length
        · obtain ⟨k1, rfl⟩ : ∃ k1, gk = k1 + 1 := ⟨gk - 1, by have := HG.out; omega⟩
          obtain ⟨AK, cK, hq⟩ := Kd.V_slice HI.out.1.ks
          subst hq
          obtain ⟨AV, cV, hq⟩ := Kd.V_slice HI.out.1.vs
          subst hq
          obtain ⟨ad, rfl, x0, x1, x2⟩ := at_T66 (Kd.C_below HR1.out HI.out.1.bel) i (by omega) (by omega)
          have HX : Hid (l1.drop i = rd_T66 l1 i :: l1.drop (i + 1)) := by
            show _ = _
            rw [List.drop_eq_getElem_cons hlt]
            simp [rd_T66, List.getD_eq_getElem?_getD, hlt]
          have HA : Hid (∀ W, Below w.heap.size w W → W.cell? (ad.add (i * 3)) = some (.int .i64 (rd_T66 l1 i).f0) ∧ W.cell? ⟨(ad.add (i * 3)).block, (ad.add (i * 3)).off + 1, none⟩ = some (.int .i64 (rd_T66 l1 i).f1) ∧ W.cell? ⟨(ad.add (i * 3)).block, (ad.add (i * 3)).off + 2, none⟩ = some (.int .i64 (rd_T66 l1 i).f2)) := fun W hW => by
            obtain ⟨ad', e, y0, y1, y2⟩ := at_T66 (Kd.C_below HR1.out hW) i (by omega) (by omega)
            cases e
            simp only [Int.toNat_natCast] at y0 y1 y2
            exact ⟨y0, y1, y2⟩
          clear x0 x1 x2
          generalize rd_T66 l1 i = x at HA HX
          obtain ⟨d, key, val⟩ := x
          obtain ⟨kk, hkk⟩ := (step_ev l0 p1 L (by have := HI.out.2.2.2; omega) (d, key, val)).rounds
          have HK0 := Row.hid hkk
          clear hkk
          obtain ⟨R1, hR1⟩ : ∃ R1, R1 = (stepS l0 L (d, key, val)).map (·.1) := ⟨_, rfl⟩
          obtain ⟨R2, hR2⟩ : ∃ R2, R2 = (stepS l0 L (d, key, val)).map (·.2) := ⟨_, rfl⟩
          obtain ⟨R3, hR3⟩ : ∃ R3, R3 = (tellS l0 L (d, key, val)).1 := ⟨_, rfl⟩
          obtain ⟨R4, hR4⟩ : ∃ R4, R4 = (tellS l0 L (d, key, val)).2.1 := ⟨_, rfl⟩
          obtain ⟨R5, hR5⟩ : ∃ R5, R5 = (tellS l0 L (d, key, val)).2.2.1 := ⟨_, rfl⟩
          obtain ⟨R6, hR6⟩ : ∃ R6, R6 = (tellS l0 L (d, key, val)).2.2.2 := ⟨_, rfl⟩
          have HK : Hid (spec_Tree_Step.f kk (L.map (·.1)) (L.map (·.2)) l0 d key val = some (R1, R2, R3, R4, R5, R6)) := by rw [hR1, hR2, hR3, hR4, hR5, hR6]; exact HK0.out
          have HRs : Hid (R1 = (stepS l0 L (d, key, val)).map (·.1) ∧ R2 = (stepS l0 L (d, key, val)).map (·.2) ∧ (R3, R4, R5, R6) = tellS l0 L (d, key, val)) := ⟨hR1, hR2, by rw [hR3, hR4, hR5, hR6]⟩
          clear hR1 hR2 hR3 hR4 hR5 hR6 HK0
          go_upto_region 6 with fail
          have HS : Hid (St w wr.drew w.heap.size u6 rs (L.map (·.1)) (L.map (·.2)) (.slice AK (L.map (·.1)).length cK) (.slice AV (L.map (·.2)).length cV) R1 R2 R5 R6 none none none wr.drew) := st_start (HI.out.1.below (below_drew (Below.refl _ _)))
          refine start_ (n := 14) (S := fun w' => w'.cell? ⟨w.heap.size, 0, none⟩ = some (.slice AK (L.map (·.1)).length cK) ∧ w'.cell? ⟨w.heap.size, 1, none⟩ = some (.slice AV (L.map (·.2)).length cV) ∧ w'.cell? (ad.add (i * 3)) = some (.int .i64 d) ∧ w'.cell? ⟨(ad.add (i * 3)).block, (ad.add (i * 3)).off + 1, none⟩ = some (.int .i64 key) ∧ w'.cell? ⟨(ad.add (i * 3)).block, (ad.add (i * 3)).off + 2, none⟩ = some (.int .i64 val)) (ds := [12, 13]) #[false, false, false, false, false, false, false, false, false, false, false, false, false, false] (by kernel_rfl) rfl rfl ⟨HS.out.pt.cells.1, HS.out.pt.cells.2, (HA.out _ HS.out.pt.bel).1, (HA.out _ HS.out.pt.bel).2.1, (HA.out _ HS.out.pt.bel).2.2⟩ (fun hHeld => ?_)
          refine with_tabW trees.tab trees.bits (fun HT_ HW_ => ?_)
          generalize wr.drew = W0 at HS hHeld ⊢
          refine pure_ (i := 1) (N := some 18) (v := ?_) (a' := ?_) #[false, true, false, false, false, false, false, false, false, false, false, false, false, false] rfl rfl (any_of HT_.out (by kernel_rfl)) (fun _ _ _ h => h) (Or.inl ⟨by rfl, ?_⟩) ?_ ?_
          rotate_left
          · intro w'
            go_simp
            with_reducible rfl
          rotate_left
          · simp only [Act.put, List.setIfInBounds_toArray, List.set_cons_zero, List.set_cons_succ]
            rfl
          refine pure_ (i := 2) (N := some 19) (v := ?_) (a' := ?_) #[false, true, true, false, false, false, false, false, false, false, false, false, false, false] rfl rfl (any_of HT_.out (by kernel_rfl)) (fun _ _ _ h => h) (Or.inl ⟨by rfl, ?_⟩) ?_ ?_
          rotate_left
          · intro w'
            go_simp
            with_reducible rfl
          rotate_left
          · simp only [Act.put, List.setIfInBounds_toArray, List.set_cons_zero, List.set_cons_succ]
            rfl
          refine pure_ (i := 3) (N := some 20) (v := ?_) (a' := ?_) #[false, true, true, true, false, false, false, false, false, false, false, false, false, false] rfl rfl (any_of HT_.out (by kernel_rfl)) (fun _ _ _ h => h) (Or.inl ⟨by rfl, ?_⟩) ?_ ?_
          rotate_left
          · intro w'
            go_simp
            with_reducible rfl
          rotate_left
          · simp only [Act.put, List.setIfInBounds_toArray, List.set_cons_zero, List.set_cons_succ]
            rfl
          refine take_ (i := 0) (N := some 17) (v := ?_) (a' := ?_) #[true, true, true, true, false, false, false, false, false, false, false, false, false, false] rfl rfl (take_ofW HT_.out HW_.out (by kernel_rfl)) (fun _ _ _ h => h) (Or.inl ⟨by rfl, ?_⟩) hHeld ?_ ?_
          rotate_left
          · intro w' s0
            obtain ⟨s1, s2, s3, s4, s5⟩ := s0
            go_simp
            with_reducible rfl
          rotate_left
          · simp only [Act.put, List.setIfInBounds_toArray, List.set_cons_zero, List.set_cons_succ]
            rfl
          refine pure_ (i := 4) (N := some 21) (v := ?_) (a' := ?_) #[true, true, true, true, true, false, false, false, false, false, false, false, false, false] rfl rfl (any_of HT_.out (by kernel_rfl)) (fun _ _ _ h => h) (Or.inl ⟨by rfl, ?_⟩) ?_ ?_
          rotate_left
          · intro w'
            go_simp
            with_reducible rfl
          rotate_left
          · simp only [Act.put, List.setIfInBounds_toArray, List.set_cons_zero, List.set_cons_succ]
            rfl
          refine take_ (i := 5) (N := some 22) (v := ?_) (a' := ?_) #[true, true, true, true, true, true, false, false, false, false, false, false, false, false] rfl rfl (take_ofW HT_.out HW_.out (by kernel_rfl)) (fun _ _ _ h => h) (Or.inl ⟨by rfl, ?_⟩) hHeld ?_ ?_
          rotate_left
          · intro w' s0
            obtain ⟨s1, s2, s3, s4, s5⟩ := s0
            go_simp
            with_reducible rfl
          rotate_left
          · simp only [Act.put, List.setIfInBounds_toArray, List.set_cons_zero, List.set_cons_succ]
            rfl
          refine join_ (σ := (Value × Value × Value × Value) × Nat × Nat) 2 #[true, true, true, true, true, true, true, true, true, true, true, true, false, false] (fun s => [(23, .tuple #[.agg #[s.1.1, s.1.2.1], .agg #[.int .i64 R3, .bool R4, s.1.2.2.1, s.1.2.2.2]]), (16, .tuple #[.agg #[s.1.1, s.1.2.1], .agg #[.int .i64 R3, .bool R4, s.1.2.2.1, s.1.2.2.2]]), (24, .agg #[s.1.1, s.1.2.1]), (25, .agg #[.int .i64 R3, .bool R4, s.1.2.2.1, s.1.2.2.2]), (8, .pointer (some ⟨s.2.1, 0, none⟩)), (9, .pointer (some ⟨s.2.2, 0, none⟩))])
            (fun s W => St w W0 w.heap.size u6 rs (L.map (·.1)) (L.map (·.2)) (.slice AK (L.map (·.1)).length cK) (.slice AV (L.map (·.2)).length cV) R1 R2 R5 R6 (some s.2.1) (some s.2.2) (some s.1) W) ?hcont ?hord
          case hord =>
            intro hcont
            refine three_ (i := 6) (Ni := some 23) (j := 10) (Nj := some 8) (k := 11) (Nk := some 9) #[true, true, true, true, true, true, true, false, false, false, false, false, false, false] #[true, true, true, true, true, true, false, false, false, false, true, false, false, false] #[true, true, true, true, true, true, false, false, false, false, false, true, false, false] rfl rfl rfl rfl rfl rfl (three_of HT_.out (by kernel_rfl)) (by decide) (by decide) (by decide) (fun K_ hK => ?_) (fun K_ hK => ?_) (fun K_ hK => ?_)
            · refine call_ (N := some 23) 48 #[.agg #[.slice AK (L.map (·.1)).length cK, .slice AV (L.map (·.2)).length cV], .slice A0 l0.length c0, .agg #[.int .i64 d, .int .i64 key, .int .i64 val]] (by rfl) rfl (by go_simp) ?_
              have HKs := HS.out.ksW
              have HVs := HS.out.vsW
              have HCs := Kd.C_below HR0.out HS.out.pt.bel
              have HCall := spec_Tree_Step.calls kk (fun k => okT w w.heap.size u6 k ∧ k < W0.heap.size) AK cK (L.map (·.1)) (fun k => okT w w.heap.size u6 k ∧ k < W0.heap.size) AV cV (L.map (·.2)) A0 c0 l0 d key val R1 R2 R3 R4 R5 R6 _ HKs HVs HCs HC0.out HK.out
              clear HKs HVs HCs
              refine HCall.mono ?_
              clear HCall
              rintro e w2 ⟨v0, v1, v4, v5, rfl, q0, q1, q4, q5, hb⟩
              have HS2 := Row.hid (HS.out.call hb q0 q1 q4 q5)
              clear q0 q1 q4 q5 hb HS
              have HS := HS2
              clear HS2
              refine ⟨_, rfl, ?_⟩
              refine hK.out _ _ ⟨HS.out.pt.cells.1, HS.out.pt.cells.2, (HA.out _ HS.out.pt.bel).1, (HA.out _ HS.out.pt.bel).2.1, (HA.out _ HS.out.pt.bel).2.2⟩ (fun hHeld => ?_)
              clear hK K_
              refine norm_ (a' := ?_) ?_ ?_
              rotate_left
              · show Act.put _ (some 23) _ = _
                simp only [Act.put, List.setIfInBounds_toArray, List.set_cons_zero, List.set_cons_succ]
                rfl
              refine pure_ (i := 7) (N := some 16) (v := ?_) (a' := ?_) #[true, true, true, true, true, true, true, true, false, false, false, false, false, false] rfl rfl (any_of HT_.out (by kernel_rfl)) (fun _ _ _ h => h) (Or.inl ⟨by rfl, ?_⟩) ?_ ?_
              rotate_left
              · intro w'
                go_simp
                with_reducible rfl
              rotate_left
              · simp only [Act.put, List.setIfInBounds_toArray, List.set_cons_zero, List.set_cons_succ]
                rfl
              refine pure_ (i := 8) (N := some 24) (v := ?_) (a' := ?_) #[true, true, true, true, true, true, true, true, true, false, false, false, false, false] rfl rfl (any_of HT_.out (by kernel_rfl)) (fun _ _ _ h => h) (Or.inl ⟨by rfl, ?_⟩) ?_ ?_
              rotate_left
              · intro w'
                go_simp
                with_reducible rfl
              rotate_left
              · simp only [Act.put, List.setIfInBounds_toArray, List.set_cons_zero, List.set_cons_succ]
                rfl
              refine pure_ (i := 9) (N := some 25) (v := ?_) (a' := ?_) #[true, true, true, true, true, true, true, true, true, true, false, false, false, false] rfl rfl (any_of HT_.out (by kernel_rfl)) (fun _ _ _ h => h) (Or.inl ⟨by rfl, ?_⟩) ?_ ?_
              rotate_left
              · intro w'
                go_simp
                with_reducible rfl
              rotate_left
              · simp only [Act.put, List.setIfInBounds_toArray, List.set_cons_zero, List.set_cons_succ]
                rfl
              refine two_ (i := 10) (Ni := some 8) (j := 11) (Nj := some 9) #[true, true, true, true, true, true, true, true, true, true, true, false, false, false] #[true, true, true, true, true, true, true, true, true, true, false, true, false, false] rfl rfl rfl rfl (two_of HT_.out (by kernel_rfl)) (by decide) (by decide) (fun K_ hK => ?_) (fun K_ hK => ?_)
              · refine value_ (w1 := ?_) (v := ?_) (by rfl) rfl ?_ ?_
                rotate_left 2
                · go_simp
                  constructor
                  · rfl
                  · rfl
                have HS2 := Row.hid HS.out.alloc8
                try rw [Row.alloc_size] at HS2
                clear HS
                have HS := HS2
                clear HS2
                refine hK.out _ _ ⟨HS.out.pt.cells.1, HS.out.pt.cells.2, (HA.out _ HS.out.pt.bel).1, (HA.out _ HS.out.pt.bel).2.1, (HA.out _ HS.out.pt.bel).2.2⟩ (fun hHeld => ?_)
                clear hK K_
                refine norm_ (a' := ?_) ?_ ?_
                rotate_left
                · show Act.put _ (some 8) _ = _
                  simp only [Act.put, List.setIfInBounds_toArray, List.set_cons_zero, List.set_cons_succ]
                  rfl
                refine one_ (i := 11) (N := some 9) #[true, true, true, true, true, true, true, true, true, true, true, true, false, false] rfl rfl (one_of HT_.out (by kernel_rfl)) (by decide) (fun K_ hK => ?_)
                refine value_ (w1 := ?_) (v := ?_) (by rfl) rfl ?_ ?_
                rotate_left 2
                · go_simp
                  constructor
                  · rfl
                  · rfl
                have HS2 := Row.hid HS.out.alloc9
                try rw [Row.alloc_size] at HS2
                clear HS
                have HS := HS2
                clear HS2
                refine hK.out _ _ ⟨HS.out.pt.cells.1, HS.out.pt.cells.2, (HA.out _ HS.out.pt.bel).1, (HA.out _ HS.out.pt.bel).2.1, (HA.out _ HS.out.pt.bel).2.2⟩ (fun hHeld => ?_)
                clear hK K_
                refine norm_ (a' := ?_) ?_ ?_
                rotate_left
                · show Act.put _ (some 9) _ = _
                  simp only [Act.put, List.setIfInBounds_toArray, List.set_cons_zero, List.set_cons_succ]
                  rfl
                exact norm_ rfl (hcont ⟨(v0, v1, v4, v5), _, _⟩ _ HS.out)
              · refine value_ (w1 := ?_) (v := ?_) (by rfl) rfl ?_ ?_
                rotate_left 2
                · go_simp
                  constructor
                  · rfl
                  · rfl
                have HS2 := Row.hid HS.out.alloc9
                try rw [Row.alloc_size] at HS2
                clear HS
                have HS := HS2
                clear HS2
                refine hK.out _ _ ⟨HS.out.pt.cells.1, HS.out.pt.cells.2, (HA.out _ HS.out.pt.bel).1, (HA.out _ HS.out.pt.bel).2.1, (HA.out _ HS.out.pt.bel).2.2⟩ (fun hHeld => ?_)
                clear hK K_
                refine norm_ (a' := ?_) ?_ ?_
                rotate_left
                · show Act.put _ (some 9) _ = _
                  simp only [Act.put, List.setIfInBounds_toArray, List.set_cons_zero, List.set_cons_succ]
                  rfl
                refine one_ (i := 10) (N := some 8) #[true, true, true, true, true, true, true, true, true, true, true, true, false, false] rfl rfl (one_of HT_.out (by kernel_rfl)) (by decide) (fun K_ hK => ?_)
                refine value_ (w1 := ?_) (v := ?_) (by rfl) rfl ?_ ?_
                rotate_left 2
                · go_simp
                  constructor
                  · rfl
                  · rfl
                have HS2 := Row.hid HS.out.alloc8
                try rw [Row.alloc_size] at HS2
                clear HS
                have HS := HS2
                clear HS2
                refine hK.out _ _ ⟨HS.out.pt.cells.1, HS.out.pt.cells.2, (HA.out _ HS.out.pt.bel).1, (HA.out _ HS.out.pt.bel).2.1, (HA.out _ HS.out.pt.bel).2.2⟩ (fun hHeld => ?_)
                clear hK K_
                refine norm_ (a' := ?_) ?_ ?_
                rotate_left
                · show Act.put _ (some 8) _ = _
                  simp only [Act.put, List.setIfInBounds_toArray, List.set_cons_zero, List.set_cons_succ]
                  rfl
                exact norm_ rfl (hcont ⟨(v0, v1, v4, v5), _, _⟩ _ HS.out)
            · refine value_ (w1 := ?_) (v := ?_) (by rfl) rfl ?_ ?_
              rotate_left 2
              · go_simp
                constructor
                · rfl
                · rfl
              have HS2 := Row.hid HS.out.alloc8
              try rw [Row.alloc_size] at HS2
              clear HS
              have HS := HS2
              clear HS2
              refine hK.out _ _ ⟨HS.out.pt.cells.1, HS.out.pt.cells.2, (HA.out _ HS.out.pt.bel).1, (HA.out _ HS.out.pt.bel).2.1, (HA.out _ HS.out.pt.bel).2.2⟩ (fun hHeld => ?_)
              clear hK K_
              refine norm_ (a' := ?_) ?_ ?_
              rotate_left
              · show Act.put _ (some 8) _ = _
                simp only [Act.put, List.setIfInBounds_toArray, List.set_cons_zero, List.set_cons_succ]
                rfl
              refine two_ (i := 6) (Ni := some 23) (j := 11) (Nj := some 9) #[true, true, true, true, true, true, true, false, false, false, true, false, false, false] #[true, true, true, true, true, true, false, false, false, false, true, true, false, false] rfl rfl rfl rfl (two_of HT_.out (by kernel_rfl)) (by decide) (by decide) (fun K_ hK => ?_) (fun K_ hK => ?_)
              · refine call_ (N := some 23) 48 #[.agg #[.slice AK (L.map (·.1)).length cK, .slice AV (L.map (·.2)).length cV], .slice A0 l0.length c0, .agg #[.int .i64 d, .int .i64 key, .int .i64 val]] (by rfl) rfl (by go_simp) ?_
                have HKs := HS.out.ksW
                have HVs := HS.out.vsW
                have HCs := Kd.C_below HR0.out HS.out.pt.bel
                have HCall := spec_Tree_Step.calls kk (fun k => okT w w.heap.size u6 k ∧ k < W0.heap.size) AK cK (L.map (·.1)) (fun k => okT w w.heap.size u6 k ∧ k < W0.heap.size) AV cV (L.map (·.2)) A0 c0 l0 d key val R1 R2 R3 R4 R5 R6 _ HKs HVs HCs HC0.out HK.out
                clear HKs HVs HCs
                refine HCall.mono ?_
                clear HCall
                rintro e w2 ⟨v0, v1, v4, v5, rfl, q0, q1, q4, q5, hb⟩
                have HS2 := Row.hid (HS.out.call hb q0 q1 q4 q5)
                clear q0 q1 q4 q5 hb HS
                have HS := HS2
                clear HS2
                refine ⟨_, rfl, ?_⟩
                refine hK.out _ _ ⟨HS.out.pt.cells.1, HS.out.pt.cells.2, (HA.out _ HS.out.pt.bel).1, (HA.out _ HS.out.pt.bel).2.1, (HA.out _ HS.out.pt.bel).2.2⟩ (fun hHeld => ?_)
                clear hK K_
                refine norm_ (a' := ?_) ?_ ?_
                rotate_left
                · show Act.put _ (some 23) _ = _
                  simp only [Act.put, List.setIfInBounds_toArray, List.set_cons_zero, List.set_cons_succ]
                  rfl
                refine pure_ (i := 7) (N := some 16) (v := ?_) (a' := ?_) #[true, true, true, true, true, true, true, true, false, false, true, false, false, false] rfl rfl (any_of HT_.out (by kernel_rfl)) (fun _ _ _ h => h) (Or.inl ⟨by rfl, ?_⟩) ?_ ?_
                rotate_left
                · intro w'
                  go_simp
                  with_reducible rfl
                rotate_left
                · simp only [Act.put, List.setIfInBounds_toArray, List.set_cons_zero, List.set_cons_succ]
                  rfl
                refine pure_ (i := 8) (N := some 24) (v := ?_) (a' := ?_) #[true, true, true, true, true, true, true, true, true, false, true, false, false, false] rfl rfl (any_of HT_.out (by kernel_rfl)) (fun _ _ _ h => h) (Or.inl ⟨by rfl, ?_⟩) ?_ ?_
                rotate_left
                · intro w'
                  go_simp
                  with_reducible rfl
                rotate_left
                · simp only [Act.put, List.setIfInBounds_toArray, List.set_cons_zero, List.set_cons_succ]
                  rfl
                refine pure_ (i := 9) (N := some 25) (v := ?_) (a' := ?_) #[true, true, true, true, true, true, true, true, true, true, true, false, false, false] rfl rfl (any_of HT_.out (by kernel_rfl)) (fun _ _ _ h => h) (Or.inl ⟨by rfl, ?_⟩) ?_ ?_
                rotate_left
                · intro w'
                  go_simp
                  with_reducible rfl
                rotate_left
                · simp only [Act.put, List.setIfInBounds_toArray, List.set_cons_zero, List.set_cons_succ]
                  rfl
                refine one_ (i := 11) (N := some 9) #[true, true, true, true, true, true, true, true, true, true, true, true, false, false] rfl rfl (one_of HT_.out (by kernel_rfl)) (by decide) (fun K_ hK => ?_)
                refine value_ (w1 := ?_) (v := ?_) (by rfl) rfl ?_ ?_
                rotate_left 2
                · go_simp
                  constructor
                  · rfl
                  · rfl
                have HS2 := Row.hid HS.out.alloc9
                try rw [Row.alloc_size] at HS2
                clear HS
                have HS := HS2
                clear HS2
                refine hK.out _ _ ⟨HS.out.pt.cells.1, HS.out.pt.cells.2, (HA.out _ HS.out.pt.bel).1, (HA.out _ HS.out.pt.bel).2.1, (HA.out _ HS.out.pt.bel).2.2⟩ (fun hHeld => ?_)
                clear hK K_
                refine norm_ (a' := ?_) ?_ ?_
                rotate_left
                · show Act.put _ (some 9) _ = _
                  simp only [Act.put, List.setIfInBounds_toArray, List.set_cons_zero, List.set_cons_succ]
                  rfl
                exact norm_ rfl (hcont ⟨(v0, v1, v4, v5), _, _⟩ _ HS.out)
              · refine value_ (w1 := ?_) (v := ?_) (by rfl) rfl ?_ ?_
                rotate_left 2
                · go_simp
                  constructor
                  · rfl
                  · rfl
                have HS2 := Row.hid HS.out.alloc9
                try rw [Row.alloc_size] at HS2
                clear HS
                have HS := HS2
                clear HS2
                refine hK.out _ _ ⟨HS.out.pt.cells.1, HS.out.pt.cells.2, (HA.out _ HS.out.pt.bel).1, (HA.out _ HS.out.pt.bel).2.1, (HA.out _ HS.out.pt.bel).2.2⟩ (fun hHeld => ?_)
                clear hK K_
                refine norm_ (a' := ?_) ?_ ?_
                rotate_left
                · show Act.put _ (some 9) _ = _
                  simp only [Act.put, List.setIfInBounds_toArray, List.set_cons_zero, List.set_cons_succ]
                  rfl
                refine one_ (i := 6) (N := some 23) #[true, true, true, true, true, true, true, false, false, false, true, true, false, false] rfl rfl (one_of HT_.out (by kernel_rfl)) (by decide) (fun K_ hK => ?_)
                refine call_ (N := some 23) 48 #[.agg #[.slice AK (L.map (·.1)).length cK, .slice AV (L.map (·.2)).length cV], .slice A0 l0.length c0, .agg #[.int .i64 d, .int .i64 key, .int .i64 val]] (by rfl) rfl (by go_simp) ?_
                have HKs := HS.out.ksW
                have HVs := HS.out.vsW
                have HCs := Kd.C_below HR0.out HS.out.pt.bel
                have HCall := spec_Tree_Step.calls kk (fun k => okT w w.heap.size u6 k ∧ k < W0.heap.size) AK cK (L.map (·.1)) (fun k => okT w w.heap.size u6 k ∧ k < W0.heap.size) AV cV (L.map (·.2)) A0 c0 l0 d key val R1 R2 R3 R4 R5 R6 _ HKs HVs HCs HC0.out HK.out
                clear HKs HVs HCs
                refine HCall.mono ?_
                clear HCall
                rintro e w2 ⟨v0, v1, v4, v5, rfl, q0, q1, q4, q5, hb⟩
                have HS2 := Row.hid (HS.out.call hb q0 q1 q4 q5)
                clear q0 q1 q4 q5 hb HS
                have HS := HS2
                clear HS2
                refine ⟨_, rfl, ?_⟩
                refine hK.out _ _ ⟨HS.out.pt.cells.1, HS.out.pt.cells.2, (HA.out _ HS.out.pt.bel).1, (HA.out _ HS.out.pt.bel).2.1, (HA.out _ HS.out.pt.bel).2.2⟩ (fun hHeld => ?_)
                clear hK K_
                refine norm_ (a' := ?_) ?_ ?_
                rotate_left
                · show Act.put _ (some 23) _ = _
                  simp only [Act.put, List.setIfInBounds_toArray, List.set_cons_zero, List.set_cons_succ]
                  rfl
                refine pure_ (i := 7) (N := some 16) (v := ?_) (a' := ?_) #[true, true, true, true, true, true, true, true, false, false, true, true, false, false] rfl rfl (any_of HT_.out (by kernel_rfl)) (fun _ _ _ h => h) (Or.inl ⟨by rfl, ?_⟩) ?_ ?_
                rotate_left
                · intro w'
                  go_simp
                  with_reducible rfl
                rotate_left
                · simp only [Act.put, List.setIfInBounds_toArray, List.set_cons_zero, List.set_cons_succ]
                  rfl
                refine pure_ (i := 8) (N := some 24) (v := ?_) (a' := ?_) #[true, true, true, true, true, true, true, true, true, false, true, true, false, false] rfl rfl (any_of HT_.out (by kernel_rfl)) (fun _ _ _ h => h) (Or.inl ⟨by rfl, ?_⟩) ?_ ?_
                rotate_left
                · intro w'
                  go_simp
                  with_reducible rfl
                rotate_left
                · simp only [Act.put, List.setIfInBounds_toArray, List.set_cons_zero, List.set_cons_succ]
                  rfl
                refine pure_ (i := 9) (N := some 25) (v := ?_) (a' := ?_) #[true, true, true, true, true, true, true, true, true, true, true, true, false, false] rfl rfl (any_of HT_.out (by kernel_rfl)) (fun _ _ _ h => h) (Or.inl ⟨by rfl, ?_⟩) ?_ ?_
                rotate_left
                · intro w'
                  go_simp
                  with_reducible rfl
                rotate_left
                · simp only [Act.put, List.setIfInBounds_toArray, List.set_cons_zero, List.set_cons_succ]
                  rfl
                exact norm_ rfl (hcont ⟨(v0, v1, v4, v5), _, _⟩ _ HS.out)
            · refine value_ (w1 := ?_) (v := ?_) (by rfl) rfl ?_ ?_
              rotate_left 2
              · go_simp
                constructor
                · rfl
                · rfl
              have HS2 := Row.hid HS.out.alloc9
              try rw [Row.alloc_size] at HS2
              clear HS
              have HS := HS2
              clear HS2
              refine hK.out _ _ ⟨HS.out.pt.cells.1, HS.out.pt.cells.2, (HA.out _ HS.out.pt.bel).1, (HA.out _ HS.out.pt.bel).2.1, (HA.out _ HS.out.pt.bel).2.2⟩ (fun hHeld => ?_)
              clear hK K_
              refine norm_ (a' := ?_) ?_ ?_
              rotate_left
              · show Act.put _ (some 9) _ = _
                simp only [Act.put, List.setIfInBounds_toArray, List.set_cons_zero, List.set_cons_succ]
                rfl
              refine two_ (i := 6) (Ni := some 23) (j := 10) (Nj := some 8) #[true, true, true, true, true, true, true, false, false, false, false, true, false, false] #[true, true, true, true, true, true, false, false, false, false, true, true, false, false] rfl rfl rfl rfl (two_of HT_.out (by kernel_rfl)) (by decide) (by decide) (fun K_ hK => ?_) (fun K_ hK => ?_)
              · refine call_ (N := some 23) 48 #[.agg #[.slice AK (L.map (·.1)).length cK, .slice AV (L.map (·.2)).length cV], .slice A0 l0.length c0, .agg #[.int .i64 d, .int .i64 key, .int .i64 val]] (by rfl) rfl (by go_simp) ?_
                have HKs := HS.out.ksW
                have HVs := HS.out.vsW
                have HCs := Kd.C_below HR0.out HS.out.pt.bel
                have HCall := spec_Tree_Step.calls kk (fun k => okT w w.heap.size u6 k ∧ k < W0.heap.size) AK cK (L.map (·.1)) (fun k => okT w w.heap.size u6 k ∧ k < W0.heap.size) AV cV (L.map (·.2)) A0 c0 l0 d key val R1 R2 R3 R4 R5 R6 _ HKs HVs HCs HC0.out HK.out
                clear HKs HVs HCs
                refine HCall.mono ?_
                clear HCall
                rintro e w2 ⟨v0, v1, v4, v5, rfl, q0, q1, q4, q5, hb⟩
                have HS2 := Row.hid (HS.out.call hb q0 q1 q4 q5)
                clear q0 q1 q4 q5 hb HS
                have HS := HS2
                clear HS2
                refine ⟨_, rfl, ?_⟩
                refine hK.out _ _ ⟨HS.out.pt.cells.1, HS.out.pt.cells.2, (HA.out _ HS.out.pt.bel).1, (HA.out _ HS.out.pt.bel).2.1, (HA.out _ HS.out.pt.bel).2.2⟩ (fun hHeld => ?_)
                clear hK K_
                refine norm_ (a' := ?_) ?_ ?_
                rotate_left
                · show Act.put _ (some 23) _ = _
                  simp only [Act.put, List.setIfInBounds_toArray, List.set_cons_zero, List.set_cons_succ]
                  rfl
                refine pure_ (i := 7) (N := some 16) (v := ?_) (a' := ?_) #[true, true, true, true, true, true, true, true, false, false, false, true, false, false] rfl rfl (any_of HT_.out (by kernel_rfl)) (fun _ _ _ h => h) (Or.inl ⟨by rfl, ?_⟩) ?_ ?_
                rotate_left
                · intro w'
                  go_simp
                  with_reducible rfl
                rotate_left
                · simp only [Act.put, List.setIfInBounds_toArray, List.set_cons_zero, List.set_cons_succ]
                  rfl
                refine pure_ (i := 8) (N := some 24) (v := ?_) (a' := ?_) #[true, true, true, true, true, true, true, true, true, false, false, true, false, false] rfl rfl (any_of HT_.out (by kernel_rfl)) (fun _ _ _ h => h) (Or.inl ⟨by rfl, ?_⟩) ?_ ?_
                rotate_left
                · intro w'
                  go_simp
                  with_reducible rfl
                rotate_left
                · simp only [Act.put, List.setIfInBounds_toArray, List.set_cons_zero, List.set_cons_succ]
                  rfl
                refine pure_ (i := 9) (N := some 25) (v := ?_) (a' := ?_) #[true, true, true, true, true, true, true, true, true, true, false, true, false, false] rfl rfl (any_of HT_.out (by kernel_rfl)) (fun _ _ _ h => h) (Or.inl ⟨by rfl, ?_⟩) ?_ ?_
                rotate_left
                · intro w'
                  go_simp
                  with_reducible rfl
                rotate_left
                · simp only [Act.put, List.setIfInBounds_toArray, List.set_cons_zero, List.set_cons_succ]
                  rfl
                refine one_ (i := 10) (N := some 8) #[true, true, true, true, true, true, true, true, true, true, true, true, false, false] rfl rfl (one_of HT_.out (by kernel_rfl)) (by decide) (fun K_ hK => ?_)
                refine value_ (w1 := ?_) (v := ?_) (by rfl) rfl ?_ ?_
                rotate_left 2
                · go_simp
                  constructor
                  · rfl
                  · rfl
                have HS2 := Row.hid HS.out.alloc8
                try rw [Row.alloc_size] at HS2
                clear HS
                have HS := HS2
                clear HS2
                refine hK.out _ _ ⟨HS.out.pt.cells.1, HS.out.pt.cells.2, (HA.out _ HS.out.pt.bel).1, (HA.out _ HS.out.pt.bel).2.1, (HA.out _ HS.out.pt.bel).2.2⟩ (fun hHeld => ?_)
                clear hK K_
                refine norm_ (a' := ?_) ?_ ?_
                rotate_left
                · show Act.put _ (some 8) _ = _
                  simp only [Act.put, List.setIfInBounds_toArray, List.set_cons_zero, List.set_cons_succ]
                  rfl
                exact norm_ rfl (hcont ⟨(v0, v1, v4, v5), _, _⟩ _ HS.out)
              · refine value_ (w1 := ?_) (v := ?_) (by rfl) rfl ?_ ?_
                rotate_left 2
                · go_simp
                  constructor
                  · rfl
                  · rfl
                have HS2 := Row.hid HS.out.alloc8
                try rw [Row.alloc_size] at HS2
                clear HS
                have HS := HS2
                clear HS2
                refine hK.out _ _ ⟨HS.out.pt.cells.1, HS.out.pt.cells.2, (HA.out _ HS.out.pt.bel).1, (HA.out _ HS.out.pt.bel).2.1, (HA.out _ HS.out.pt.bel).2.2⟩ (fun hHeld => ?_)
                clear hK K_
                refine norm_ (a' := ?_) ?_ ?_
                rotate_left
                · show Act.put _ (some 8) _ = _
                  simp only [Act.put, List.setIfInBounds_toArray, List.set_cons_zero, List.set_cons_succ]
                  rfl
                refine one_ (i := 6) (N := some 23) #[true, true, true, true, true, true, true, false, false, false, true, true, false, false] rfl rfl (one_of HT_.out (by kernel_rfl)) (by decide) (fun K_ hK => ?_)
                refine call_ (N := some 23) 48 #[.agg #[.slice AK (L.map (·.1)).length cK, .slice AV (L.map (·.2)).length cV], .slice A0 l0.length c0, .agg #[.int .i64 d, .int .i64 key, .int .i64 val]] (by rfl) rfl (by go_simp) ?_
                have HKs := HS.out.ksW
                have HVs := HS.out.vsW
                have HCs := Kd.C_below HR0.out HS.out.pt.bel
                have HCall := spec_Tree_Step.calls kk (fun k => okT w w.heap.size u6 k ∧ k < W0.heap.size) AK cK (L.map (·.1)) (fun k => okT w w.heap.size u6 k ∧ k < W0.heap.size) AV cV (L.map (·.2)) A0 c0 l0 d key val R1 R2 R3 R4 R5 R6 _ HKs HVs HCs HC0.out HK.out
                clear HKs HVs HCs
                refine HCall.mono ?_
                clear HCall
                rintro e w2 ⟨v0, v1, v4, v5, rfl, q0, q1, q4, q5, hb⟩
                have HS2 := Row.hid (HS.out.call hb q0 q1 q4 q5)
                clear q0 q1 q4 q5 hb HS
                have HS := HS2
                clear HS2
                refine ⟨_, rfl, ?_⟩
                refine hK.out _ _ ⟨HS.out.pt.cells.1, HS.out.pt.cells.2, (HA.out _ HS.out.pt.bel).1, (HA.out _ HS.out.pt.bel).2.1, (HA.out _ HS.out.pt.bel).2.2⟩ (fun hHeld => ?_)
                clear hK K_
                refine norm_ (a' := ?_) ?_ ?_
                rotate_left
                · show Act.put _ (some 23) _ = _
                  simp only [Act.put, List.setIfInBounds_toArray, List.set_cons_zero, List.set_cons_succ]
                  rfl
                refine pure_ (i := 7) (N := some 16) (v := ?_) (a' := ?_) #[true, true, true, true, true, true, true, true, false, false, true, true, false, false] rfl rfl (any_of HT_.out (by kernel_rfl)) (fun _ _ _ h => h) (Or.inl ⟨by rfl, ?_⟩) ?_ ?_
                rotate_left
                · intro w'
                  go_simp
                  with_reducible rfl
                rotate_left
                · simp only [Act.put, List.setIfInBounds_toArray, List.set_cons_zero, List.set_cons_succ]
                  rfl
                refine pure_ (i := 8) (N := some 24) (v := ?_) (a' := ?_) #[true, true, true, true, true, true, true, true, true, false, true, true, false, false] rfl rfl (any_of HT_.out (by kernel_rfl)) (fun _ _ _ h => h) (Or.inl ⟨by rfl, ?_⟩) ?_ ?_
                rotate_left
                · intro w'
                  go_simp
                  with_reducible rfl
                rotate_left
                · simp only [Act.put, List.setIfInBounds_toArray, List.set_cons_zero, List.set_cons_succ]
                  rfl
                refine pure_ (i := 9) (N := some 25) (v := ?_) (a' := ?_) #[true, true, true, true, true, true, true, true, true, true, true, true, false, false] rfl rfl (any_of HT_.out (by kernel_rfl)) (fun _ _ _ h => h) (Or.inl ⟨by rfl, ?_⟩) ?_ ?_
                rotate_left
                · intro w'
                  go_simp
                  with_reducible rfl
                rotate_left
                · simp only [Act.put, List.setIfInBounds_toArray, List.set_cons_zero, List.set_cons_succ]
                  rfl
                exact norm_ rfl (hcont ⟨(v0, v1, v4, v5), _, _⟩ _ HS.out)
          case hcont =>
            rintro ⟨⟨v0, v1, v4, v5⟩, g8, g9⟩ W hS
            obtain ⟨q0, q1, q4, q5⟩ := hS.res _ rfl
            obtain ⟨B0, m0, e⟩ := Kd.V_slice q0
            replace e : v0 = _ := e
            subst e
            obtain ⟨B1, m1, e⟩ := Kd.V_slice q1
            replace e : v1 = _ := e
            subst e
            obtain ⟨B4, m4, e⟩ := Kd.V_slice q4
            replace e : v4 = _ := e
            subst e
            obtain ⟨B5, m5, e⟩ := Kd.V_slice q5
            replace e : v5 = _ := e
            subst e
            clear q0 q1 q4 q5 HS
            have b8 := (hS.b8 g8 rfl).2
            have b9 := (hS.b9 g9 rfl).2
            have hne : g8 ≠ g9 := hS.ne _ _ rfl rfl
            have hne' : g9 ≠ g8 := fun e => hne e.symm
            have HS := Row.hid hS
            clear hS
            have t80 : W.cell? ⟨g8, 0, none⟩ = some (.slice none 0 0) := (blk_cell b8 0).trans rfl
            have t81 : W.cell? ⟨g8, 1, none⟩ = some (.slice none 0 0) := (blk_cell b8 1).trans rfl
            have z80 := blk_frozen b8 0
            have z81 := blk_frozen b8 1
            have t90 : W.cell? ⟨g9, 0, none⟩ = some (.int .i64 0) := (blk_cell b9 0).trans rfl
            have t91 : W.cell? ⟨g9, 1, none⟩ = some (.bool false) := (blk_cell b9 1).trans rfl
            have t92 : W.cell? ⟨g9, 2, none⟩ = some (.slice none 0 0) := (blk_cell b9 2).trans rfl
            have t93 : W.cell? ⟨g9, 3, none⟩ = some (.slice none 0 0) := (blk_cell b9 3).trans rfl
            have z90 := blk_frozen b9 0
            have z91 := blk_frozen b9 1
            have z92 := blk_frozen b9 2
            have z93 := blk_frozen b9 3
            refine norm_ (a' := ?_) ?_ ?_
            rotate_left
            · simp only [putAll, Act.put, List.setIfInBounds_toArray, List.set_cons_zero, List.set_cons_succ]
              rfl
            refine last_ (i := 12) (N := none) #[true, true, true, true, true, true, true, true, true, true, true, true, true, false] rfl rfl (one_of HT_.out (by kernel_rfl)) (by decide) (fun K_ hK => ?_)
            refine skip_ (w1 := ?_) (by rfl) rfl ?_ ?_
            rotate_left
            · go_simp
              rfl
            refine hK.out _ _ ?_
            clear hK K_
            refine last_ (i := 13) (N := none) #[true, true, true, true, true, true, true, true, true, true, true, true, true, true] rfl rfl (one_of HT_.out (by kernel_rfl)) (by decide) (fun K_ hK => ?_)
            refine skip_ (w1 := ?_) (by rfl) rfl ?_ ?_
            rotate_left
            · go_simp
              rfl
            refine hK.out _ _ ?_
            clear hK K_
            refine done_ (done_of HT_.out (by kernel_rfl)) ?_
            clear HT_ HW_ t80 t81 z80 z81 t90 t91 t92 t93 z90 z91 z92 z93 b8 b9 hne hne'
            obtain ⟨W2, hW2⟩ : ∃ W2, W2 = (((((W.setCell ⟨g8, 0, none⟩ (.slice B0 R1.length m0)).setCell ⟨g8, 1, none⟩ (.slice B1 R2.length m1)).setCell ⟨g9, 0, none⟩ (.int .i64 R3)).setCell ⟨g9, 1, none⟩ (.bool R4)).setCell ⟨g9, 2, none⟩ (.slice B4 R5.length m4)).setCell ⟨g9, 3, none⟩ (.slice B5 R6.length m5) := ⟨_, rfl⟩
            obtain ⟨e8, e9, e5, HM0⟩ := HS.out.two R3 R4 hW2
            rw [← hW2]
            have HM := Row.hid HM0
            clear HM0 hW2 HS
            have d80 : W2.cell? ⟨g8, 0, none⟩ = some (.slice B0 R1.length m0) := (blk_cell e8 0).trans rfl
            have d81 : W2.cell? ⟨g8, 1, none⟩ = some (.slice B1 R2.length m1) := (blk_cell e8 1).trans rfl
            have y50 := blk_frozen e5 0
            have y51 := blk_frozen e5 1
            have x50 : W2.cell? ⟨w.heap.size, 0, none⟩ = some _ := (blk_cell e5 0).trans rfl
            have x51 : W2.cell? ⟨w.heap.size, 1, none⟩ = some _ := (blk_cell e5 1).trans rfl
            clear e8 e9 e5
            go_upto_region 8 with fail
            clear d80 d81 y50 y51 x50 x51
            generalize (W2.setCell ⟨w.heap.size, 0, none⟩ (.slice B0 R1.length m0)).setCell ⟨w.heap.size, 1, none⟩ (.slice B1 R2.length m1) = W3 at HM ⊢
            have f90 : W3.cell? ⟨g9, 0, none⟩ = some (.int .i64 R3) := (blk_cell HM.out.b9 0).trans rfl
            have f91 : W3.cell? ⟨g9, 1, none⟩ = some (.bool R4) := (blk_cell HM.out.b9 1).trans rfl
            have f92 : W3.cell? ⟨g9, 2, none⟩ = some (.slice B4 R5.length m4) := (blk_cell HM.out.b9 2).trans rfl
            have f93 : W3.cell? ⟨g9, 3, none⟩ = some (.slice B5 R6.length m5) := (blk_cell HM.out.b9 3).trans rfl
            have HL : Hid (rs.length ≤ 2147483647) := by show rs.length ≤ 2147483647; have := HI.out.2.1; omega
            go_wp2_with (at_builtin; refine Kd.N_append k46 w.heap.size rfl (.tmp 27) (.tmp 29) 43 46 _ 64 rfl Try.underlying43 info46 rfl (by decide) (by decide) u6 rs ⟨R3, R4, R5, R6⟩ [.int .i64 R3, .bool R4, .slice B4 R5.length m4, .slice B5 R6.length m5] (fun k => w.heap.size ≤ k ∧ k ≠ w.heap.size) (okT w w.heap.size u6) rfl rfl (k46_mkF W3 _ ⟨R3, R4, R5, R6⟩ (V_sl HM.out.q5).2.1 (V_sl HM.out.q5).2.2 (V_sl HM.out.q6).2.1 (V_sl HM.out.q6).2.2) (fun k hk => hk) (fun k hk => ⟨Nat.le_trans HM.out.pt.bel.size hk, by have := lt_of_block HM.out.pt.blk; omega⟩) HM.out.pt.row HM.out.pt.bel HM.out.pt.bel.size (by have := HL.out; omega) ?_; intro v1_ w1_ hN_ hB_ hg_ hat_; have HP := Row.hid (HM.out.pt.push hN_ hB_ hg_ hat_); clear hN_ hB_ hg_ hat_ f90 f91 f92 f93)
            go_roundg k1
            case measure => exact Nat.lt_succ_self _
            case rel =>
              obtain ⟨r1, r2, r3⟩ := HRs.out
              refine ⟨i + 1, stepS l0 L (d, key, val), rs ++ [⟨R3, R4, R5, R6⟩], .slice B0 R1.length m0, .slice B1 R2.length m1, by go_num, hlt, by have := HG.out; show k1 + (i + 1) = _; omega, ?_, by simp [HI.out.2.1], ?_, by have := stepS_len l0 L (d, key, val); have := HI.out.2.2.2; omega⟩
              · rw [← r1, ← r2]; exact HP.out
              · rw [← HI.out.2.2.1, HX.out]
                simp only [List.map_cons, toldS, List.append_assoc, List.cons_append, List.nil_append]
                rw [← r3]
                rfl
        · have hil : i = l1.length := by omega
          subst hil
          have HE0 : rs = r := by
            have := HI.out.2.2.1
            simpa [toldS] using this
          have HE := Row.hid HE0
          clear HE0
          clear hlt hi
          obtain ⟨Ao, co, ho⟩ := Kd.N_slice HI.out.1.row
          subst ho
          go_wp2_with fail
          go_ret
          have hr := HE.out
          subst hr
          exact ⟨_, rfl, Kd.V_mk (Kd.N_reads' HI.out.1.row).2.1 (Kd.F_mono (Kd.N_F HI.out.1.row) (fun k hk => hk.1)), HI.out.1.bel⟩
    · rw [if_neg p2] at h; cases h
  · rw [if_neg p1] at h; cases h

/-! ### laws_FnAvlFirst: function 5 -/
mutual
def laws_FnAvlFirst.j0 : Nat → List Int → List (S66) → Bool → Option (Bool)
  | 0, _, _, _ => none
  | k + 1, x0, x1, x15 => if x15 = true then (some true) else ((impl_AvlRun.f x0 x1).bind fun t191 => ((spec_Trees.f x0 x1).bind fun t194 => (if (t191.length : Int) = (t194.length : Int) then (laws_FnAvlFirst.l0 k t191 t194 0) else (some false))))
def laws_FnAvlFirst.l0 : Nat → List (S46) → List (S46) → Int → Option (Bool)
  | 0, _, _, _ => none
  | k + 1, x5, x6, x7 => if x7 < (x6.length : Int) then (if 0 ≤ x7 then (if x7 < (x5.length : Int) then ((spec_Same.f k ((rd_T46 x5 x7).f2) ((rd_T46 x6 x7).f2)).bind fun t199 => (if t199 = true then (laws_FnAvlFirst.l0 k x5 x6 (wrap64 (x7 + 1))) else (some false))) else (none)) else (none)) else (some true)
end
def laws_FnAvlFirst.f (k : Nat) (l0 : List Int) (l1 : List (S66)) : Option (Bool) := if (l0.length : Int) > 2147483647 then (laws_FnAvlFirst.j0 k l0 l1 true) else (laws_FnAvlFirst.j0 k l0 l1 (decide ((l1.length : Int) > 2147483647)))
theorem laws_FnAvlFirst.mono_l : ∀ k, (∀ y0 y1 y2, LeO (laws_FnAvlFirst.j0 k y0 y1 y2) (laws_FnAvlFirst.j0 (k + 1) y0 y1 y2)) ∧ (∀ y0 y1 y2, LeO (laws_FnAvlFirst.l0 k y0 y1 y2) (laws_FnAvlFirst.l0 (k + 1) y0 y1 y2))
  | 0 => ⟨fun _ _ _ r h => by simp [laws_FnAvlFirst.j0] at h, fun _ _ _ r h => by simp [laws_FnAvlFirst.l0] at h⟩
  | k + 1 => by
    obtain ⟨ih0, ih1⟩ := laws_FnAvlFirst.mono_l k
    refine ⟨?_, ?_⟩
    · intro y0 y1 y2
      unfold laws_FnAvlFirst.j0
      repeat' first
      | (with_reducible exact ih0 _ _ _)
      | (with_reducible exact ih1 _ _ _)
      | (with_reducible exact spec_Same.mono _ _ _)
      | (with_reducible exact LeO.refl _)
      | (with_reducible exact LeO.none _)
      | (with_reducible refine LeO.ite ?_ ?_)
      | (with_reducible refine LeO.bind ?_ (fun _ => ?_))
      | exact ih0 _ _ _
      | exact ih1 _ _ _
      | exact spec_Same.mono _ _ _
      | exact LeO.none _
      | refine LeO.ite ?_ ?_
      | refine LeO.bind ?_ (fun _ => ?_)
    · intro y0 y1 y2
      unfold laws_FnAvlFirst.l0
      repeat' first
      | (with_reducible exact ih0 _ _ _)
      | (with_reducible exact ih1 _ _ _)
      | (with_reducible exact spec_Same.mono _ _ _)
      | (with_reducible exact LeO.refl _)
      | (with_reducible exact LeO.none _)
      | (with_reducible refine LeO.ite ?_ ?_)
      | (with_reducible refine LeO.bind ?_ (fun _ => ?_))
      | exact ih0 _ _ _
      | exact ih1 _ _ _
      | exact spec_Same.mono _ _ _
      | exact LeO.none _
      | refine LeO.ite ?_ ?_
      | refine LeO.bind ?_ (fun _ => ?_)
theorem laws_FnAvlFirst.mono : ∀ a0 a1 k, LeO (laws_FnAvlFirst.f k a0 a1) (laws_FnAvlFirst.f (k + 1) a0 a1) := by
  intro a0 a1 k
  obtain ⟨ih0, ih1⟩ := laws_FnAvlFirst.mono_l k
  unfold laws_FnAvlFirst.f
  repeat' first
      | (with_reducible exact ih0 _ _ _)
      | (with_reducible exact ih1 _ _ _)
      | (with_reducible exact spec_Same.mono _ _ _)
      | (with_reducible exact LeO.refl _)
      | (with_reducible exact LeO.none _)
      | (with_reducible refine LeO.ite ?_ ?_)
      | (with_reducible refine LeO.bind ?_ (fun _ => ?_))
      | exact ih0 _ _ _
      | exact ih1 _ _ _
      | exact spec_Same.mono _ _ _
      | exact LeO.none _
      | refine LeO.ite ?_ ?_
      | refine LeO.bind ?_ (fun _ => ?_)
set_option maxHeartbeats 8000000 in
set_option maxRecDepth 100000 in
theorem laws_FnAvlFirst.calls (k : Nat) (A0 : Option Addr) (c0 : Nat) (l0 : List Int) (A1 : Option Addr) (c1 : Nat) (l1 : List (S66)) (r : Bool) (w : World) (hr0 : Kd.C (Kd.int .i64) w A0 l0.length l0) (hc0 : l0.length ≤ c0) (hr1 : Kd.C k66 w A1 l1.length l1) (hc1 : l1.length ≤ c1) (h : laws_FnAvlFirst.f k l0 l1 = some r) :
    Calls Try.prog 5 #[.slice A0 l0.length c0, .slice A1 l1.length c1] w fun e w' => e = .returned (.bool r) ∧ Below w.heap.size w w' := by
  have HR0 := Aside0.mk hr0
  have HC0 := Aside0.mk hc0
  clear hr0 hc0
  have HR1 := Aside0.mk hr1
  have HC1 := Aside0.mk hc1
  clear hr1 hc1
  have HB := Aside0.mk (Below.refl w.heap.size w)
  have H : (if (l0.length : Int) > 2147483647 then (laws_FnAvlFirst.j0 k l0 l1 true) else (laws_FnAvlFirst.j0 k l0 l1 (decide ((l1.length : Int) > 2147483647)))) = some r := h
  clear h
  have HC3 := Aside0.mk H
  clear H
  go_enter Try.func5, Try.ntmps5
  go_upto_region 1 with (fail)
  repeat (go_quiet (fail); go_upto_region 1 with (fail))
  go_cut [15] (fun v15 wc => ∃ (kq : Nat) (x15_2 : Bool), v15 = .bool x15_2 ∧ Aside0 (laws_FnAvlFirst.j0 kq l0 l1 x15_2 = some r) ∧ Aside0 (kq ≤ k) ∧ Aside0 (Below w.heap.size w wc))
  case first =>
    have H := HC3.out
    clear HC3
    by_cases c4 : (l0.length : Int) > 2147483647
    · rw [if_pos c4] at H
      have c4b0 : decide (2147483647 < (l0.length : Int)) = true := decide_eq_true c4
      have c4b1 : decide (2147483647 < l0.length) = true := decide_eq_true (by omega)
      clear c4
      (first | rw [c4b0] | (simp only [i64_w, i32_w]; rw [c4b0]) | skip)
      have H' := Aside0.mk H
      clear H
      go_wp2
      repeat (go_quiet (fail); try go_wp2)
      go_meet
      case rel => exact ⟨_, (true), (by first | rfl | (simp; done) | (simp [*]; done)), H', ⟨by first | omega | exact Nat.le_refl _⟩, ⟨by repeat (first | (with_reducible first | exact HB.out | apply below_alloc | apply pw_below_drewN | apply below_drew1) | exact HB.out)⟩⟩
    · rw [if_neg c4] at H
      have c4b0 : decide (2147483647 < (l0.length : Int)) = false := decide_eq_false c4
      have c4b1 : decide (2147483647 < l0.length) = false := decide_eq_false (by omega)
      clear c4
      (first | rw [c4b0] | (simp only [i64_w, i32_w]; rw [c4b0]) | skip)
      have H' := Aside0.mk H
      clear H
      go_wp2
      repeat (go_quiet (fail); try go_wp2)
      go_meet
      case rel => exact ⟨_, (decide ((l1.length : Int) > 2147483647)), (by first | rfl | (simp; done) | (simp [*]; done)), H', ⟨by first | omega | exact Nat.le_refl _⟩, ⟨by repeat (first | (with_reducible first | exact HB.out | apply below_alloc | apply pw_below_drewN | apply below_drew1) | exact HB.out)⟩⟩
  case rest =>
    clear HC3
    try clear c1
    try clear p2
    try clear c4
    try clear c4b0
    try clear c4b1
    obtain ⟨kq, x15_2, rfl, HA, HJ2, HB⟩ := hcut
    cases kq with
    | zero => exact absurd HA.out (by simp [laws_FnAvlFirst.j0])
    | succ kj2 =>
      have H := HA.out
      clear HA
      simp only [laws_FnAvlFirst.j0] at H
      by_cases c5 : x15_2 = true
      · subst c5
        have H1 : (some true) = some r := by rw [if_pos rfl] at H; exact H
        clear H
        have H := H1
        clear H1
        obtain rfl := Option.some.inj H
        go_wp2
        repeat (go_quiet (fail); try go_wp2)
        go_ret
        exact ⟨by first | rfl | (simp [errW_none, errW_some] <;> rfl) | (simp [*, errW_none, errW_some] <;> rfl), by repeat (first | (with_reducible first | exact HB.out | apply below_alloc | apply pw_below_drewN | apply below_drew1) | exact HB.out)⟩
      · replace c5 := Bool.eq_false_iff.mpr c5
        subst c5
        have H1 : ((impl_AvlRun.f l0 l1).bind fun t191 => ((spec_Trees.f l0 l1).bind fun t194 => (if (t191.length : Int) = (t194.length : Int) then (laws_FnAvlFirst.l0 kj2 t191 t194 0) else (some false)))) = some r := by rw [if_neg (show ¬ (false = true) by decide)] at H; exact H
        clear H
        have H := H1
        clear H1
        replace H := Option.bind_eq_some_iff.mp H
        obtain ⟨t191, A60, H⟩ := H
        replace H : ((spec_Trees.f l0 l1).bind fun t194 => (if (t191.length : Int) = (t194.length : Int) then (laws_FnAvlFirst.l0 kj2 t191 t194 0) else (some false))) = some r := H
        have A6 := Aside0.mk A60
        clear A60
        replace H := Option.bind_eq_some_iff.mp H
        obtain ⟨t194, A70, H⟩ := H
        replace H : (if (t191.length : Int) = (t194.length : Int) then (laws_FnAvlFirst.l0 kj2 t191 t194 0) else (some false)) = some r := H
        have A7 := Aside0.mk A70
        clear A70
        by_cases c8 : (t191.length : Int) = (t194.length : Int)
        · rw [if_pos c8] at H
          have c8b0 : ((t191.length : Int) == (t194.length : Int)) = true := beq_iff_eq.mpr c8
          have c8b1 : ((t191.length : Int) != (t194.length : Int)) = false := bne_eq_false_iff_eq.mpr c8
          have c8b2 : (t191.length == t194.length) = true := by first | simpa using c8 | (simp at c8 ⊢; omega)
          clear c8
          have H' := Aside0.mk H
          clear H
          go_wp2_with (first | (go_at_call 23; (with_reducible refine (impl_AvlRun.calls _ _ l0 _ _ l1 t191 _ ?side1 ?side2 ?side3 ?side4 A6.out).mono ?_); (case side1 => repeat (first | exact (Kd.C_below HR0.out HB.out) | (with_reducible refine Kd.C_alloc ?_ _) | (with_reducible refine Kd.C_drewN ?_ _) | (with_reducible refine Kd.C_drew ?_))); (case side2 => exact HC0.out); (case side3 => repeat (first | exact (Kd.C_below HR1.out HB.out) | (with_reducible refine Kd.C_alloc ?_ _) | (with_reducible refine Kd.C_drewN ?_ _) | (with_reducible refine Kd.C_drew ?_))); (case side4 => exact HC1.out); rintro e w9 ⟨v192, rfl, ho0, hb⟩; have n0_ := Aside0.mk (Kd.S_lower ho0 (below_size (by repeat (first | (with_reducible first | exact HB.out | apply below_alloc | apply pw_below_drewN | apply below_drew1) | exact HB.out)))); have n1_ := Aside0.mk (below_step (by repeat (first | (with_reducible first | exact HB.out | apply below_alloc | apply pw_below_drewN | apply below_drew1) | exact HB.out)) hb); clear HB; have HO193 := n0_; have HB := n1_; clear n0_ n1_; (try clear hb); (try clear hb2); (try clear hk); (try clear hi); (try clear ho0)) | (go_at_call 24; (with_reducible refine (spec_Trees.calls _ _ l0 _ _ l1 t194 _ ?side1 ?side2 ?side3 ?side4 A7.out).mono ?_); (case side1 => repeat (first | exact (Kd.C_below HR0.out HB.out) | (with_reducible refine Kd.C_alloc ?_ _) | (with_reducible refine Kd.C_drewN ?_ _) | (with_reducible refine Kd.C_drew ?_))); (case side2 => exact HC0.out); (case side3 => repeat (first | exact (Kd.C_below HR1.out HB.out) | (with_reducible refine Kd.C_alloc ?_ _) | (with_reducible refine Kd.C_drewN ?_ _) | (with_reducible refine Kd.C_drew ?_))); (case side4 => exact HC1.out); rintro e w10 ⟨v195, rfl, ho0, hb⟩; have n0_ := Aside0.mk (Kd.S_below (by (with_reducible repeat (first | apply Kd.S_alloc | apply Kd.S_drewN | apply Kd.S_drew)); exact HO193.out) hb); have n1_ := Aside0.mk (Kd.V_lower (Kd.V_mono (ok' := fun k_ => some k_ ≠ (v192 : Value).ownBlock) ho0 (fun k_ hk_ => (Kd.fresh' (Kd.S_lt (by (with_reducible repeat (first | apply Kd.S_alloc | apply Kd.S_drewN | apply Kd.S_drew)); exact HO193.out)) k_ hk_))) (below_size (by repeat (first | (with_reducible first | exact HB.out | apply below_alloc | apply pw_below_drewN | apply below_drew1) | exact HB.out)))); have n2_ := Aside0.mk (below_step (by repeat (first | (with_reducible first | exact HB.out | apply below_alloc | apply pw_below_drewN | apply below_drew1) | exact HB.out)) hb); clear HO193; clear HB; have HO193 := n0_; have HO196 := n1_; have HB := n2_; clear n0_ n1_ n2_; (try clear hb); (try clear hb2); (try clear hk); (try clear hi); (try clear ho0); obtain ⟨Ao11, co11, eo11⟩ := Kd.S_slice HO193.out; subst eo11; obtain ⟨Ao12, co12, eo12⟩ := Kd.V_slice HO196.out; subst eo12))
          repeat (go_quiet (first | (go_at_call 23; (with_reducible refine (impl_AvlRun.calls _ _ l0 _ _ l1 t191 _ ?side1 ?side2 ?side3 ?side4 A6.out).mono ?_); (case side1 => repeat (first | exact (Kd.C_below HR0.out HB.out) | (with_reducible refine Kd.C_alloc ?_ _) | (with_reducible refine Kd.C_drewN ?_ _) | (with_reducible refine Kd.C_drew ?_))); (case side2 => exact HC0.out); (case side3 => repeat (first | exact (Kd.C_below HR1.out HB.out) | (with_reducible refine Kd.C_alloc ?_ _) | (with_reducible refine Kd.C_drewN ?_ _) | (with_reducible refine Kd.C_drew ?_))); (case side4 => exact HC1.out); rintro e w9 ⟨v192, rfl, ho0, hb⟩; have n0_ := Aside0.mk (Kd.S_lower ho0 (below_size (by repeat (first | (with_reducible first | exact HB.out | apply below_alloc | apply pw_below_drewN | apply below_drew1) | exact HB.out)))); have n1_ := Aside0.mk (below_step (by repeat (first | (with_reducible first | exact HB.out | apply below_alloc | apply pw_below_drewN | apply below_drew1) | exact HB.out)) hb); clear HB; have HO193 := n0_; have HB := n1_; clear n0_ n1_; (try clear hb); (try clear hb2); (try clear hk); (try clear hi); (try clear ho0)) | (go_at_call 24; (with_reducible refine (spec_Trees.calls _ _ l0 _ _ l1 t194 _ ?side1 ?side2 ?side3 ?side4 A7.out).mono ?_); (case side1 => repeat (first | exact (Kd.C_below HR0.out HB.out) | (with_reducible refine Kd.C_alloc ?_ _) | (with_reducible refine Kd.C_drewN ?_ _) | (with_reducible refine Kd.C_drew ?_))); (case side2 => exact HC0.out); (case side3 => repeat (first | exact (Kd.C_below HR1.out HB.out) | (with_reducible refine Kd.C_alloc ?_ _) | (with_reducible refine Kd.C_drewN ?_ _) | (with_reducible refine Kd.C_drew ?_))); (case side4 => exact HC1.out); rintro e w10 ⟨v195, rfl, ho0, hb⟩; have n0_ := Aside0.mk (Kd.S_below (by (with_reducible repeat (first | apply Kd.S_alloc | apply Kd.S_drewN | apply Kd.S_drew)); exact HO193.out) hb); have n1_ := Aside0.mk (Kd.V_lower (Kd.V_mono (ok' := fun k_ => some k_ ≠ (v192 : Value).ownBlock) ho0 (fun k_ hk_ => (Kd.fresh' (Kd.S_lt (by (with_reducible repeat (first | apply Kd.S_alloc | apply Kd.S_drewN | apply Kd.S_drew)); exact HO193.out)) k_ hk_))) (below_size (by repeat (first | (with_reducible first | exact HB.out | apply below_alloc | apply pw_below_drewN | apply below_drew1) | exact HB.out)))); have n2_ := Aside0.mk (below_step (by repeat (first | (with_reducible first | exact HB.out | apply below_alloc | apply pw_below_drewN | apply below_drew1) | exact HB.out)) hb); clear HO193; clear HB; have HO193 := n0_; have HO196 := n1_; have HB := n2_; clear n0_ n1_ n2_; (try clear hb); (try clear hb2); (try clear hk); (try clear hi); (try clear ho0); obtain ⟨Ao11, co11, eo11⟩ := Kd.S_slice HO193.out; subst eo11; obtain ⟨Ao12, co12, eo12⟩ := Kd.V_slice HO196.out; subst eo12)); try go_wp2_with (first | (go_at_call 23; (with_reducible refine (impl_AvlRun.calls _ _ l0 _ _ l1 t191 _ ?side1 ?side2 ?side3 ?side4 A6.out).mono ?_); (case side1 => repeat (first | exact (Kd.C_below HR0.out HB.out) | (with_reducible refine Kd.C_alloc ?_ _) | (with_reducible refine Kd.C_drewN ?_ _) | (with_reducible refine Kd.C_drew ?_))); (case side2 => exact HC0.out); (case side3 => repeat (first | exact (Kd.C_below HR1.out HB.out) | (with_reducible refine Kd.C_alloc ?_ _) | (with_reducible refine Kd.C_drewN ?_ _) | (with_reducible refine Kd.C_drew ?_))); (case side4 => exact HC1.out); rintro e w9 ⟨v192, rfl, ho0, hb⟩; have n0_ := Aside0.mk (Kd.S_lower ho0 (below_size (by repeat (first | (with_reducible first | exact HB.out | apply below_alloc | apply pw_below_drewN | apply below_drew1) | exact HB.out)))); have n1_ := Aside0.mk (below_step (by repeat (first | (with_reducible first | exact HB.out | apply below_alloc | apply pw_below_drewN | apply below_drew1) | exact HB.out)) hb); clear HB; have HO193 := n0_; have HB := n1_; clear n0_ n1_; (try clear hb); (try clear hb2); (try clear hk); (try clear hi); (try clear ho0)) | (go_at_call 24; (with_reducible refine (spec_Trees.calls _ _ l0 _ _ l1 t194 _ ?side1 ?side2 ?side3 ?side4 A7.out).mono ?_); (case side1 => repeat (first | exact (Kd.C_below HR0.out HB.out) | (with_reducible refine Kd.C_alloc ?_ _) | (with_reducible refine Kd.C_drewN ?_ _) | (with_reducible refine Kd.C_drew ?_))); (case side2 => exact HC0.out); (case side3 => repeat (first | exact (Kd.C_below HR1.out HB.out) | (with_reducible refine Kd.C_alloc ?_ _) | (with_reducible refine Kd.C_drewN ?_ _) | (with_reducible refine Kd.C_drew ?_))); (case side4 => exact HC1.out); rintro e w10 ⟨v195, rfl, ho0, hb⟩; have n0_ := Aside0.mk (Kd.S_below (by (with_reducible repeat (first | apply Kd.S_alloc | apply Kd.S_drewN | apply Kd.S_drew)); exact HO193.out) hb); have n1_ := Aside0.mk (Kd.V_lower (Kd.V_mono (ok' := fun k_ => some k_ ≠ (v192 : Value).ownBlock) ho0 (fun k_ hk_ => (Kd.fresh' (Kd.S_lt (by (with_reducible repeat (first | apply Kd.S_alloc | apply Kd.S_drewN | apply Kd.S_drew)); exact HO193.out)) k_ hk_))) (below_size (by repeat (first | (with_reducible first | exact HB.out | apply below_alloc | apply pw_below_drewN | apply below_drew1) | exact HB.out)))); have n2_ := Aside0.mk (below_step (by repeat (first | (with_reducible first | exact HB.out | apply below_alloc | apply pw_below_drewN | apply below_drew1) | exact HB.out)) hb); clear HO193; clear HB; have HO193 := n0_; have HO196 := n1_; have HB := n2_; clear n0_ n1_ n2_; (try clear hb); (try clear hb2); (try clear hk); (try clear hi); (try clear ho0); obtain ⟨Ao11, co11, eo11⟩ := Kd.S_slice HO193.out; subst eo11; obtain ⟨Ao12, co12, eo12⟩ := Kd.V_slice HO196.out; subst eo12)))
          go_loopg [7] kj2 (fun kq v7 w' => ∃ (x7_2 : Int), v7 = .int .i64 x7_2 ∧ Aside0 (laws_FnAvlFirst.l0 kq t191 t194 x7_2 = some r) ∧ Aside0 (kq ≤ kj2) ∧ Aside0 (Kd.S k46 46 w' w.heap.size (fun _ => True) (.slice Ao11 t191.length co11) t191) ∧ Aside0 (Kd.V k46 46 w' w.heap.size (fun k_ => some k_ ≠ ((.slice Ao11 t191.length co11) : Value).ownBlock) (.slice Ao12 t194.length co12) t194) ∧ Aside0 (Below w.heap.size w w'))
          case atStart => exact ⟨(0), (by first | rfl | (simp; done) | (simp [*]; done)), H', ⟨Nat.le_refl _⟩, ⟨by (with_reducible repeat (first | apply Kd.S_alloc | apply Kd.S_drewN | apply Kd.S_drew)); exact HO193.out⟩, ⟨by (with_reducible repeat (first | apply Kd.V_alloc | apply Kd.V_drewN | apply Kd.V_drew)); exact HO196.out⟩, ⟨by repeat (first | (with_reducible first | exact HB.out | apply below_alloc | apply pw_below_drewN | apply below_drew1) | exact HB.out)⟩⟩
          case round =>
            clear H'
            try clear c1
            try clear p2
            try clear c4
            try clear c4b0
            try clear c4b1
            try clear c5
            try clear c8
            try clear c8b0
            try clear c8b1
            try clear c8b2
            try clear p2
            obtain ⟨x7_2, rfl, HA, HK2, HO_5, HO_6, HB⟩ := hrel
            cases gk with
            | zero => exact absurd HA.out (by simp [laws_FnAvlFirst.l0])
            | succ k2 =>
              have H := HA.out
              clear HA
              simp only [laws_FnAvlFirst.l0] at H
              by_cases c13 : x7_2 < (t194.length : Int)
              · rw [if_pos c13] at H
                have c13b0 : decide (x7_2 < (t194.length : Int)) = true := decide_eq_true c13
                clear c13
                by_cases c14 : 0 ≤ x7_2
                · rw [if_pos c14] at H
                  have c14b0 : decide (0 ≤ x7_2) = true := decide_eq_true c14
                  clear c14
                  by_cases c15 : x7_2 < (t191.length : Int)
                  · rw [if_pos c15] at H
                    have c15b0 : decide (x7_2 < (t191.length : Int)) = true := decide_eq_true c15
                    clear c15
                    replace H := Option.bind_eq_some_iff.mp H
                    obtain ⟨t199, A160, H⟩ := H
                    replace H : (if t199 = true then (laws_FnAvlFirst.l0 k2 t191 t194 (wrap64 (x7_2 + 1))) else (some false)) = some r := H
                    have A16 := Aside0.mk A160
                    clear A160
                    by_cases c17 : t199 = true
                    · subst c17
                      have H1 : (laws_FnAvlFirst.l0 k2 t191 t194 (wrap64 (x7_2 + 1))) = some r := by rw [if_pos rfl] at H; exact H
                      clear H
                      have H := H1
                      clear H1
                      have H' := Aside0.mk H
                      clear H
                      have p197 : 0 ≤ (x7_2 : Int) := of_decide_eq_true (by first | (with_reducible assumption) | assumption)
                      have q197 : x7_2 < (t191.length : Int) := of_decide_eq_true (by first | (with_reducible assumption) | assumption)
                      obtain ⟨ad197, A197_2, c197_2, A197_3, c197_3, e197, hx197_0, hx197_1, hx197_2, hx197_3, hl197_2, hi197_2, hl197_3, hi197_3⟩ := at_T46 (Kd.S_reads' HO_5.out).2.2 x7_2 p197 q197
                      cases e197
                      obtain ⟨ce197, hce197, hMe197, hcc197⟩ := Kd.S_get HO_5.out z46 x7_2 p197 (by first | exact q197 | exact of_decide_eq_true (by first | (with_reducible assumption) | assumption) | (have e_ := (Kd.S_reads' HO_5.out).1; omega))
                      obtain ⟨ve197_2, ve197_3, rfl, ge197_2, ge197_3⟩ := k46_openM hMe197
                      have hv197_2 := hcc197 2 _ rfl
                      rw [add_field _ _ 2 (by omega)] at hv197_2
                      replace hv197_2 := Option.some.inj (hv197_2.symm.trans hx197_2)
                      rw [hv197_2] at ge197_2
                      have HL197_2 := Aside0.mk (show Kd.R (Kd.int .i64) 3 _ _ _ _ ((rd_T46 t191 x7_2).f2) from ge197_2)
                      clear hv197_2 ge197_2
                      have hv197_3 := hcc197 3 _ rfl
                      rw [add_field _ _ 3 (by omega)] at hv197_3
                      replace hv197_3 := Option.some.inj (hv197_3.symm.trans hx197_3)
                      rw [hv197_3] at ge197_3
                      have HL197_3 := Aside0.mk (show Kd.R (Kd.int .i64) 3 _ _ _ _ ((rd_T46 t191 x7_2).f3) from ge197_3)
                      clear hv197_3 ge197_3
                      clear hcc197 hce197
                      have HR197_2 := Aside0.mk hi197_2
                      have HC197_2 := Aside0.mk hl197_2
                      clear hi197_2 hl197_2
                      have HR197_3 := Aside0.mk hi197_3
                      have HC197_3 := Aside0.mk hl197_3
                      clear hi197_3 hl197_3
                      replace p197 := eq_true p197
                      replace q197 := eq_true q197
                      have p198 : 0 ≤ (x7_2 : Int) := of_decide_eq_true (by first | (with_reducible assumption) | assumption)
                      have q198 : x7_2 < (t194.length : Int) := of_decide_eq_true (by first | (with_reducible assumption) | assumption)
                      obtain ⟨ad198, A198_2, c198_2, A198_3, c198_3, e198, hx198_0, hx198_1, hx198_2, hx198_3, hl198_2, hi198_2, hl198_3, hi198_3⟩ := at_T46 (Kd.V_reads' HO_6.out).2.2 x7_2 p198 q198
                      cases e198
                      obtain ⟨ce198, hce198, hMe198, hcc198⟩ := Kd.V_get HO_6.out z46 x7_2 p198 (by first | exact q198 | exact of_decide_eq_true (by first | (with_reducible assumption) | assumption) | (have e_ := (Kd.V_reads' HO_6.out).1; omega))
                      obtain ⟨ua198_2, uc198_2, ua198_3, uc198_3, rfl, ul198_2, ge198_2, ul198_3, ge198_3⟩ := k46_openF hMe198
                      have hv198_2 := hcc198 2 _ rfl
                      rw [add_field _ _ 2 (by omega)] at hv198_2
                      replace hv198_2 := Option.some.inj (hv198_2.symm.trans hx198_2)
                      injection hv198_2 with hva_ hvn_ hvc_
                      rw [hva_] at ge198_2
                      rw [hvc_] at ul198_2
                      have HL198_2 := Aside0.mk (show Kd.V (Kd.int .i64) 3 _ w.heap.size _ _ ((rd_T46 t194 x7_2).f2) from Kd.V_mk ul198_2 ge198_2)
                      clear hva_ hvn_ hvc_ ge198_2 ul198_2
                      have hv198_3 := hcc198 3 _ rfl
                      rw [add_field _ _ 3 (by omega)] at hv198_3
                      replace hv198_3 := Option.some.inj (hv198_3.symm.trans hx198_3)
                      injection hv198_3 with hva_ hvn_ hvc_
                      rw [hva_] at ge198_3
                      rw [hvc_] at ul198_3
                      have HL198_3 := Aside0.mk (show Kd.V (Kd.int .i64) 3 _ w.heap.size _ _ ((rd_T46 t194 x7_2).f3) from Kd.V_mk ul198_3 ge198_3)
                      clear hva_ hvn_ hvc_ ge198_3 ul198_3
                      clear hcc198 hce198
                      have HR198_2 := Aside0.mk hi198_2
                      have HC198_2 := Aside0.mk hl198_2
                      clear hi198_2 hl198_2
                      have HR198_3 := Aside0.mk hi198_3
                      have HC198_3 := Aside0.mk hl198_3
                      clear hi198_3 hl198_3
                      replace p198 := eq_true p198
                      replace q198 := eq_true q198
                      go_wp2_with (first | (go_at_call 18; (with_reducible refine (spec_Same.calls k2 _ _ ((rd_T46 t191 x7_2).f2) _ _ ((rd_T46 t194 x7_2).f2) true _ ?side1 ?side2 ?side3 ?side4 A16.out).mono ?_); (case side1 => repeat (first | exact (by repeat (first | (with_reducible exact HR197_2.out) | (with_reducible refine Kd.C_alloc ?_ _) | (with_reducible refine Kd.C_drewN ?_ _) | (with_reducible refine Kd.C_drew ?_) | exact HR197_2.out)) | (with_reducible refine Kd.C_alloc ?_ _) | (with_reducible refine Kd.C_drewN ?_ _) | (with_reducible refine Kd.C_drew ?_))); (case side2 => exact HC197_2.out); (case side3 => repeat (first | exact (by repeat (first | (with_reducible exact HR198_2.out) | (with_reducible refine Kd.C_alloc ?_ _) | (with_reducible refine Kd.C_drewN ?_ _) | (with_reducible refine Kd.C_drew ?_) | exact HR198_2.out)) | (with_reducible refine Kd.C_alloc ?_ _) | (with_reducible refine Kd.C_drewN ?_ _) | (with_reducible refine Kd.C_drew ?_))); (case side4 => exact HC198_2.out); rintro e w' ⟨rfl, ⟨nd, rfl⟩⟩; (try first | exact ⟨rfl, _, World.drewN_drewN _ _ _⟩ | exact ⟨rfl, _, Eq.trans (World.drewN_drewN _ _ _) (congrArg (World.drewN _) (Nat.add_assoc _ _ _))⟩)))
                      repeat (go_quiet (first | (go_at_call 18; (with_reducible refine (spec_Same.calls k2 _ _ ((rd_T46 t191 x7_2).f2) _ _ ((rd_T46 t194 x7_2).f2) true _ ?side1 ?side2 ?side3 ?side4 A16.out).mono ?_); (case side1 => repeat (first | exact (by repeat (first | (with_reducible exact HR197_2.out) | (with_reducible refine Kd.C_alloc ?_ _) | (with_reducible refine Kd.C_drewN ?_ _) | (with_reducible refine Kd.C_drew ?_) | exact HR197_2.out)) | (with_reducible refine Kd.C_alloc ?_ _) | (with_reducible refine Kd.C_drewN ?_ _) | (with_reducible refine Kd.C_drew ?_))); (case side2 => exact HC197_2.out); (case side3 => repeat (first | exact (by repeat (first | (with_reducible exact HR198_2.out) | (with_reducible refine Kd.C_alloc ?_ _) | (with_reducible refine Kd.C_drewN ?_ _) | (with_reducible refine Kd.C_drew ?_) | exact HR198_2.out)) | (with_reducible refine Kd.C_alloc ?_ _) | (with_reducible refine Kd.C_drewN ?_ _) | (with_reducible refine Kd.C_drew ?_))); (case side4 => exact HC198_2.out); rintro e w' ⟨rfl, ⟨nd, rfl⟩⟩; (try first | exact ⟨rfl, _, World.drewN_drewN _ _ _⟩ | exact ⟨rfl, _, Eq.trans (World.drewN_drewN _ _ _) (congrArg (World.drewN _) (Nat.add_assoc _ _ _))⟩))); try go_wp2_with (first | (go_at_call 18; (with_reducible refine (spec_Same.calls k2 _ _ ((rd_T46 t191 x7_2).f2) _ _ ((rd_T46 t194 x7_2).f2) true _ ?side1 ?side2 ?side3 ?side4 A16.out).mono ?_); (case side1 => repeat (first | exact (by repeat (first | (with_reducible exact HR197_2.out) | (with_reducible refine Kd.C_alloc ?_ _) | (with_reducible refine Kd.C_drewN ?_ _) | (with_reducible refine Kd.C_drew ?_) | exact HR197_2.out)) | (with_reducible refine Kd.C_alloc ?_ _) | (with_reducible refine Kd.C_drewN ?_ _) | (with_reducible refine Kd.C_drew ?_))); (case side2 => exact HC197_2.out); (case side3 => repeat (first | exact (by repeat (first | (with_reducible exact HR198_2.out) | (with_reducible refine Kd.C_alloc ?_ _) | (with_reducible refine Kd.C_drewN ?_ _) | (with_reducible refine Kd.C_drew ?_) | exact HR198_2.out)) | (with_reducible refine Kd.C_alloc ?_ _) | (with_reducible refine Kd.C_drewN ?_ _) | (with_reducible refine Kd.C_drew ?_))); (case side4 => exact HC198_2.out); rintro e w' ⟨rfl, ⟨nd, rfl⟩⟩; (try first | exact ⟨rfl, _, World.drewN_drewN _ _ _⟩ | exact ⟨rfl, _, Eq.trans (World.drewN_drewN _ _ _) (congrArg (World.drewN _) (Nat.add_assoc _ _ _))⟩))))
                      go_roundg k2
                      case measure => have := HJ2.out; have := HK2.out; omega
                      case rel => exact ⟨(wrap64 (x7_2 + 1)), (by first | rfl | (simp; done) | (simp [*]; done)), H', ⟨by have := HJ2.out; have := HK2.out; omega⟩, ⟨by (with_reducible repeat (first | apply Kd.S_alloc | apply Kd.S_drewN | apply Kd.S_drew)); exact HO_5.out⟩, ⟨by (with_reducible repeat (first | apply Kd.V_alloc | apply Kd.V_drewN | apply Kd.V_drew)); exact HO_6.out⟩, ⟨by repeat (first | (with_reducible first | exact HB.out | apply below_alloc | apply pw_below_drewN | apply below_drew1) | exact HB.out)⟩⟩
                    · replace c17 := Bool.eq_false_iff.mpr c17
                      subst c17
                      have H1 : (some false) = some r := by rw [if_neg (show ¬ (false = true) by decide)] at H; exact H
                      clear H
                      have H := H1
                      clear H1
                      obtain rfl := Option.some.inj H
                      have p197 : 0 ≤ (x7_2 : Int) := of_decide_eq_true (by first | (with_reducible assumption) | assumption)
                      have q197 : x7_2 < (t191.length : Int) := of_decide_eq_true (by first | (with_reducible assumption) | assumption)
                      obtain ⟨ad197, A197_2, c197_2, A197_3, c197_3, e197, hx197_0, hx197_1, hx197_2, hx197_3, hl197_2, hi197_2, hl197_3, hi197_3⟩ := at_T46 (Kd.S_reads' HO_5.out).2.2 x7_2 p197 q197
                      cases e197
                      obtain ⟨ce197, hce197, hMe197, hcc197⟩ := Kd.S_get HO_5.out z46 x7_2 p197 (by first | exact q197 | exact of_decide_eq_true (by first | (with_reducible assumption) | assumption) | (have e_ := (Kd.S_reads' HO_5.out).1; omega))
                      obtain ⟨ve197_2, ve197_3, rfl, ge197_2, ge197_3⟩ := k46_openM hMe197
                      have hv197_2 := hcc197 2 _ rfl
                      rw [add_field _ _ 2 (by omega)] at hv197_2
                      replace hv197_2 := Option.some.inj (hv197_2.symm.trans hx197_2)
                      rw [hv197_2] at ge197_2
                      have HL197_2 := Aside0.mk (show Kd.R (Kd.int .i64) 3 _ _ _ _ ((rd_T46 t191 x7_2).f2) from ge197_2)
                      clear hv197_2 ge197_2
                      have hv197_3 := hcc197 3 _ rfl
                      rw [add_field _ _ 3 (by omega)] at hv197_3
                      replace hv197_3 := Option.some.inj (hv197_3.symm.trans hx197_3)
                      rw [hv197_3] at ge197_3
                      have HL197_3 := Aside0.mk (show Kd.R (Kd.int .i64) 3 _ _ _ _ ((rd_T46 t191 x7_2).f3) from ge197_3)
                      clear hv197_3 ge197_3
                      clear hcc197 hce197
                      have HR197_2 := Aside0.mk hi197_2
                      have HC197_2 := Aside0.mk hl197_2
                      clear hi197_2 hl197_2
                      have HR197_3 := Aside0.mk hi197_3
                      have HC197_3 := Aside0.mk hl197_3
                      clear hi197_3 hl197_3
                      replace p197 := eq_true p197
                      replace q197 := eq_true q197
                      have p198 : 0 ≤ (x7_2 : Int) := of_decide_eq_true (by first | (with_reducible assumption) | assumption)
                      have q198 : x7_2 < (t194.length : Int) := of_decide_eq_true (by first | (with_reducible assumption) | assumption)
                      obtain ⟨ad198, A198_2, c198_2, A198_3, c198_3, e198, hx198_0, hx198_1, hx198_2, hx198_3, hl198_2, hi198_2, hl198_3, hi198_3⟩ := at_T46 (Kd.V_reads' HO_6.out).2.2 x7_2 p198 q198
                      cases e198
                      obtain ⟨ce198, hce198, hMe198, hcc198⟩ := Kd.V_get HO_6.out z46 x7_2 p198 (by first | exact q198 | exact of_decide_eq_true (by first | (with_reducible assumption) | assumption) | (have e_ := (Kd.V_reads' HO_6.out).1; omega))
                      obtain ⟨ua198_2, uc198_2, ua198_3, uc198_3, rfl, ul198_2, ge198_2, ul198_3, ge198_3⟩ := k46_openF hMe198
                      have hv198_2 := hcc198 2 _ rfl
                      rw [add_field _ _ 2 (by omega)] at hv198_2
                      replace hv198_2 := Option.some.inj (hv198_2.symm.trans hx198_2)
                      injection hv198_2 with hva_ hvn_ hvc_
                      rw [hva_] at ge198_2
                      rw [hvc_] at ul198_2
                      have HL198_2 := Aside0.mk (show Kd.V (Kd.int .i64) 3 _ w.heap.size _ _ ((rd_T46 t194 x7_2).f2) from Kd.V_mk ul198_2 ge198_2)
                      clear hva_ hvn_ hvc_ ge198_2 ul198_2
                      have hv198_3 := hcc198 3 _ rfl
                      rw [add_field _ _ 3 (by omega)] at hv198_3
                      replace hv198_3 := Option.some.inj (hv198_3.symm.trans hx198_3)
                      injection hv198_3 with hva_ hvn_ hvc_
                      rw [hva_] at ge198_3
                      rw [hvc_] at ul198_3
                      have HL198_3 := Aside0.mk (show Kd.V (Kd.int .i64) 3 _ w.heap.size _ _ ((rd_T46 t194 x7_2).f3) from Kd.V_mk ul198_3 ge198_3)
                      clear hva_ hvn_ hvc_ ge198_3 ul198_3
                      clear hcc198 hce198
                      have HR198_2 := Aside0.mk hi198_2
                      have HC198_2 := Aside0.mk hl198_2
                      clear hi198_2 hl198_2
                      have HR198_3 := Aside0.mk hi198_3
                      have HC198_3 := Aside0.mk hl198_3
                      clear hi198_3 hl198_3
                      replace p198 := eq_true p198
                      replace q198 := eq_true q198
                      go_wp2_with (first | (go_at_call 18; (with_reducible refine (spec_Same.calls k2 _ _ ((rd_T46 t191 x7_2).f2) _ _ ((rd_T46 t194 x7_2).f2) false _ ?side1 ?side2 ?side3 ?side4 A16.out).mono ?_); (case side1 => repeat (first | exact (by repeat (first | (with_reducible exact HR197_2.out) | (with_reducible refine Kd.C_alloc ?_ _) | (with_reducible refine Kd.C_drewN ?_ _) | (with_reducible refine Kd.C_drew ?_) | exact HR197_2.out)) | (with_reducible refine Kd.C_alloc ?_ _) | (with_reducible refine Kd.C_drewN ?_ _) | (with_reducible refine Kd.C_drew ?_))); (case side2 => exact HC197_2.out); (case side3 => repeat (first | exact (by repeat (first | (with_reducible exact HR198_2.out) | (with_reducible refine Kd.C_alloc ?_ _) | (with_reducible refine Kd.C_drewN ?_ _) | (with_reducible refine Kd.C_drew ?_) | exact HR198_2.out)) | (with_reducible refine Kd.C_alloc ?_ _) | (with_reducible refine Kd.C_drewN ?_ _) | (with_reducible refine Kd.C_drew ?_))); (case side4 => exact HC198_2.out); rintro e w' ⟨rfl, ⟨nd, rfl⟩⟩; (try first | exact ⟨rfl, _, World.drewN_drewN _ _ _⟩ | exact ⟨rfl, _, Eq.trans (World.drewN_drewN _ _ _) (congrArg (World.drewN _) (Nat.add_assoc _ _ _))⟩)))
                      repeat (go_quiet (first | (go_at_call 18; (with_reducible refine (spec_Same.calls k2 _ _ ((rd_T46 t191 x7_2).f2) _ _ ((rd_T46 t194 x7_2).f2) false _ ?side1 ?side2 ?side3 ?side4 A16.out).mono ?_); (case side1 => repeat (first | exact (by repeat (first | (with_reducible exact HR197_2.out) | (with_reducible refine Kd.C_alloc ?_ _) | (with_reducible refine Kd.C_drewN ?_ _) | (with_reducible refine Kd.C_drew ?_) | exact HR197_2.out)) | (with_reducible refine Kd.C_alloc ?_ _) | (with_reducible refine Kd.C_drewN ?_ _) | (with_reducible refine Kd.C_drew ?_))); (case side2 => exact HC197_2.out); (case side3 => repeat (first | exact (by repeat (first | (with_reducible exact HR198_2.out) | (with_reducible refine Kd.C_alloc ?_ _) | (with_reducible refine Kd.C_drewN ?_ _) | (with_reducible refine Kd.C_drew ?_) | exact HR198_2.out)) | (with_reducible refine Kd.C_alloc ?_ _) | (with_reducible refine Kd.C_drewN ?_ _) | (with_reducible refine Kd.C_drew ?_))); (case side4 => exact HC198_2.out); rintro e w' ⟨rfl, ⟨nd, rfl⟩⟩; (try first | exact ⟨rfl, _, World.drewN_drewN _ _ _⟩ | exact ⟨rfl, _, Eq.trans (World.drewN_drewN _ _ _) (congrArg (World.drewN _) (Nat.add_assoc _ _ _))⟩))); try go_wp2_with (first | (go_at_call 18; (with_reducible refine (spec_Same.calls k2 _ _ ((rd_T46 t191 x7_2).f2) _ _ ((rd_T46 t194 x7_2).f2) false _ ?side1 ?side2 ?side3 ?side4 A16.out).mono ?_); (case side1 => repeat (first | exact (by repeat (first | (with_reducible exact HR197_2.out) | (with_reducible refine Kd.C_alloc ?_ _) | (with_reducible refine Kd.C_drewN ?_ _) | (with_reducible refine Kd.C_drew ?_) | exact HR197_2.out)) | (with_reducible refine Kd.C_alloc ?_ _) | (with_reducible refine Kd.C_drewN ?_ _) | (with_reducible refine Kd.C_drew ?_))); (case side2 => exact HC197_2.out); (case side3 => repeat (first | exact (by repeat (first | (with_reducible exact HR198_2.out) | (with_reducible refine Kd.C_alloc ?_ _) | (with_reducible refine Kd.C_drewN ?_ _) | (with_reducible refine Kd.C_drew ?_) | exact HR198_2.out)) | (with_reducible refine Kd.C_alloc ?_ _) | (with_reducible refine Kd.C_drewN ?_ _) | (with_reducible refine Kd.C_drew ?_))); (case side4 => exact HC198_2.out); rintro e w' ⟨rfl, ⟨nd, rfl⟩⟩; (try first | exact ⟨rfl, _, World.drewN_drewN _ _ _⟩ | exact ⟨rfl, _, Eq.trans (World.drewN_drewN _ _ _) (congrArg (World.drewN _) (Nat.add_assoc _ _ _))⟩))))
                      go_ret
                      exact ⟨by first | rfl | (simp [errW_none, errW_some] <;> rfl) | (simp [*, errW_none, errW_some] <;> rfl), by repeat (first | (with_reducible first | exact HB.out | apply below_alloc | apply pw_below_drewN | apply below_drew1) | exact HB.out)⟩
                  · rw [if_neg c15] at H
                    exact absurd H (by simp)
                · rw [if_neg c14] at H
                  exact absurd H (by simp)
              · rw [if_neg c13] at H
                have c13b0 : decide (x7_2 < (t194.length : Int)) = false := decide_eq_false c13
                clear c13
                obtain rfl := Option.some.inj H
                go_wp2
                repeat (go_quiet (fail); try go_wp2)
                go_ret
                exact ⟨by first | rfl | (simp [errW_none, errW_some] <;> rfl) | (simp [*, errW_none, errW_some] <;> rfl), by repeat (first | (with_reducible first | exact HB.out | apply below_alloc | apply pw_below_drewN | apply below_drew1) | exact HB.out)⟩
        · rw [if_neg c8] at H
          have c8b0 : ((t191.length : Int) == (t194.length : Int)) = false := beq_eq_false_iff_ne.mpr c8
          have c8b1 : ((t191.length : Int) != (t194.length : Int)) = true := bne_iff_ne.mpr c8
          have c8b2 : (t191.length == t194.length) = false := by first | simpa using c8 | (simp at c8 ⊢; omega)
          obtain rfl := Option.some.inj H
          go_wp2_with (first | (go_at_call 23; (with_reducible refine (impl_AvlRun.calls _ _ l0 _ _ l1 t191 _ ?side1 ?side2 ?side3 ?side4 A6.out).mono ?_); (case side1 => repeat (first | exact (Kd.C_below HR0.out HB.out) | (with_reducible refine Kd.C_alloc ?_ _) | (with_reducible refine Kd.C_drewN ?_ _) | (with_reducible refine Kd.C_drew ?_))); (case side2 => exact HC0.out); (case side3 => repeat (first | exact (Kd.C_below HR1.out HB.out) | (with_reducible refine Kd.C_alloc ?_ _) | (with_reducible refine Kd.C_drewN ?_ _) | (with_reducible refine Kd.C_drew ?_))); (case side4 => exact HC1.out); rintro e w18 ⟨v192, rfl, ho0, hb⟩; have n0_ := Aside0.mk (Kd.S_lower ho0 (below_size (by repeat (first | (with_reducible first | exact HB.out | apply below_alloc | apply pw_below_drewN | apply below_drew1) | exact HB.out)))); have n1_ := Aside0.mk (below_step (by repeat (first | (with_reducible first | exact HB.out | apply below_alloc | apply pw_below_drewN | apply below_drew1) | exact HB.out)) hb); clear HB; have HO193 := n0_; have HB := n1_; clear n0_ n1_; (try clear hb); (try clear hb2); (try clear hk); (try clear hi); (try clear ho0)) | (go_at_call 24; (with_reducible refine (spec_Trees.calls _ _ l0 _ _ l1 t194 _ ?side1 ?side2 ?side3 ?side4 A7.out).mono ?_); (case side1 => repeat (first | exact (Kd.C_below HR0.out HB.out) | (with_reducible refine Kd.C_alloc ?_ _) | (with_reducible refine Kd.C_drewN ?_ _) | (with_reducible refine Kd.C_drew ?_))); (case side2 => exact HC0.out); (case side3 => repeat (first | exact (Kd.C_below HR1.out HB.out) | (with_reducible refine Kd.C_alloc ?_ _) | (with_reducible refine Kd.C_drewN ?_ _) | (with_reducible refine Kd.C_drew ?_))); (case side4 => exact HC1.out); rintro e w19 ⟨v195, rfl, ho0, hb⟩; have n0_ := Aside0.mk (Kd.S_below (by (with_reducible repeat (first | apply Kd.S_alloc | apply Kd.S_drewN | apply Kd.S_drew)); exact HO193.out) hb); have n1_ := Aside0.mk (Kd.V_lower (Kd.V_mono (ok' := fun k_ => some k_ ≠ (v192 : Value).ownBlock) ho0 (fun k_ hk_ => (Kd.fresh' (Kd.S_lt (by (with_reducible repeat (first | apply Kd.S_alloc | apply Kd.S_drewN | apply Kd.S_drew)); exact HO193.out)) k_ hk_))) (below_size (by repeat (first | (with_reducible first | exact HB.out | apply below_alloc | apply pw_below_drewN | apply below_drew1) | exact HB.out)))); have n2_ := Aside0.mk (below_step (by repeat (first | (with_reducible first | exact HB.out | apply below_alloc | apply pw_below_drewN | apply below_drew1) | exact HB.out)) hb); clear HO193; clear HB; have HO193 := n0_; have HO196 := n1_; have HB := n2_; clear n0_ n1_ n2_; (try clear hb); (try clear hb2); (try clear hk); (try clear hi); (try clear ho0); obtain ⟨Ao20, co20, eo20⟩ := Kd.S_slice HO193.out; subst eo20; obtain ⟨Ao21, co21, eo21⟩ := Kd.V_slice HO196.out; subst eo21))
          repeat (go_quiet (first | (go_at_call 23; (with_reducible refine (impl_AvlRun.calls _ _ l0 _ _ l1 t191 _ ?side1 ?side2 ?side3 ?side4 A6.out).mono ?_); (case side1 => repeat (first | exact (Kd.C_below HR0.out HB.out) | (with_reducible refine Kd.C_alloc ?_ _) | (with_reducible refine Kd.C_drewN ?_ _) | (with_reducible refine Kd.C_drew ?_))); (case side2 => exact HC0.out); (case side3 => repeat (first | exact (Kd.C_below HR1.out HB.out) | (with_reducible refine Kd.C_alloc ?_ _) | (with_reducible refine Kd.C_drewN ?_ _) | (with_reducible refine Kd.C_drew ?_))); (case side4 => exact HC1.out); rintro e w18 ⟨v192, rfl, ho0, hb⟩; have n0_ := Aside0.mk (Kd.S_lower ho0 (below_size (by repeat (first | (with_reducible first | exact HB.out | apply below_alloc | apply pw_below_drewN | apply below_drew1) | exact HB.out)))); have n1_ := Aside0.mk (below_step (by repeat (first | (with_reducible first | exact HB.out | apply below_alloc | apply pw_below_drewN | apply below_drew1) | exact HB.out)) hb); clear HB; have HO193 := n0_; have HB := n1_; clear n0_ n1_; (try clear hb); (try clear hb2); (try clear hk); (try clear hi); (try clear ho0)) | (go_at_call 24; (with_reducible refine (spec_Trees.calls _ _ l0 _ _ l1 t194 _ ?side1 ?side2 ?side3 ?side4 A7.out).mono ?_); (case side1 => repeat (first | exact (Kd.C_below HR0.out HB.out) | (with_reducible refine Kd.C_alloc ?_ _) | (with_reducible refine Kd.C_drewN ?_ _) | (with_reducible refine Kd.C_drew ?_))); (case side2 => exact HC0.out); (case side3 => repeat (first | exact (Kd.C_below HR1.out HB.out) | (with_reducible refine Kd.C_alloc ?_ _) | (with_reducible refine Kd.C_drewN ?_ _) | (with_reducible refine Kd.C_drew ?_))); (case side4 => exact HC1.out); rintro e w19 ⟨v195, rfl, ho0, hb⟩; have n0_ := Aside0.mk (Kd.S_below (by (with_reducible repeat (first | apply Kd.S_alloc | apply Kd.S_drewN | apply Kd.S_drew)); exact HO193.out) hb); have n1_ := Aside0.mk (Kd.V_lower (Kd.V_mono (ok' := fun k_ => some k_ ≠ (v192 : Value).ownBlock) ho0 (fun k_ hk_ => (Kd.fresh' (Kd.S_lt (by (with_reducible repeat (first | apply Kd.S_alloc | apply Kd.S_drewN | apply Kd.S_drew)); exact HO193.out)) k_ hk_))) (below_size (by repeat (first | (with_reducible first | exact HB.out | apply below_alloc | apply pw_below_drewN | apply below_drew1) | exact HB.out)))); have n2_ := Aside0.mk (below_step (by repeat (first | (with_reducible first | exact HB.out | apply below_alloc | apply pw_below_drewN | apply below_drew1) | exact HB.out)) hb); clear HO193; clear HB; have HO193 := n0_; have HO196 := n1_; have HB := n2_; clear n0_ n1_ n2_; (try clear hb); (try clear hb2); (try clear hk); (try clear hi); (try clear ho0); obtain ⟨Ao20, co20, eo20⟩ := Kd.S_slice HO193.out; subst eo20; obtain ⟨Ao21, co21, eo21⟩ := Kd.V_slice HO196.out; subst eo21)); try go_wp2_with (first | (go_at_call 23; (with_reducible refine (impl_AvlRun.calls _ _ l0 _ _ l1 t191 _ ?side1 ?side2 ?side3 ?side4 A6.out).mono ?_); (case side1 => repeat (first | exact (Kd.C_below HR0.out HB.out) | (with_reducible refine Kd.C_alloc ?_ _) | (with_reducible refine Kd.C_drewN ?_ _) | (with_reducible refine Kd.C_drew ?_))); (case side2 => exact HC0.out); (case side3 => repeat (first | exact (Kd.C_below HR1.out HB.out) | (with_reducible refine Kd.C_alloc ?_ _) | (with_reducible refine Kd.C_drewN ?_ _) | (with_reducible refine Kd.C_drew ?_))); (case side4 => exact HC1.out); rintro e w18 ⟨v192, rfl, ho0, hb⟩; have n0_ := Aside0.mk (Kd.S_lower ho0 (below_size (by repeat (first | (with_reducible first | exact HB.out | apply below_alloc | apply pw_below_drewN | apply below_drew1) | exact HB.out)))); have n1_ := Aside0.mk (below_step (by repeat (first | (with_reducible first | exact HB.out | apply below_alloc | apply pw_below_drewN | apply below_drew1) | exact HB.out)) hb); clear HB; have HO193 := n0_; have HB := n1_; clear n0_ n1_; (try clear hb); (try clear hb2); (try clear hk); (try clear hi); (try clear ho0)) | (go_at_call 24; (with_reducible refine (spec_Trees.calls _ _ l0 _ _ l1 t194 _ ?side1 ?side2 ?side3 ?side4 A7.out).mono ?_); (case side1 => repeat (first | exact (Kd.C_below HR0.out HB.out) | (with_reducible refine Kd.C_alloc ?_ _) | (with_reducible refine Kd.C_drewN ?_ _) | (with_reducible refine Kd.C_drew ?_))); (case side2 => exact HC0.out); (case side3 => repeat (first | exact (Kd.C_below HR1.out HB.out) | (with_reducible refine Kd.C_alloc ?_ _) | (with_reducible refine Kd.C_drewN ?_ _) | (with_reducible refine Kd.C_drew ?_))); (case side4 => exact HC1.out); rintro e w19 ⟨v195, rfl, ho0, hb⟩; have n0_ := Aside0.mk (Kd.S_below (by (with_reducible repeat (first | apply Kd.S_alloc | apply Kd.S_drewN | apply Kd.S_drew)); exact HO193.out) hb); have n1_ := Aside0.mk (Kd.V_lower (Kd.V_mono (ok' := fun k_ => some k_ ≠ (v192 : Value).ownBlock) ho0 (fun k_ hk_ => (Kd.fresh' (Kd.S_lt (by (with_reducible repeat (first | apply Kd.S_alloc | apply Kd.S_drewN | apply Kd.S_drew)); exact HO193.out)) k_ hk_))) (below_size (by repeat (first | (with_reducible first | exact HB.out | apply below_alloc | apply pw_below_drewN | apply below_drew1) | exact HB.out)))); have n2_ := Aside0.mk (below_step (by repeat (first | (with_reducible first | exact HB.out | apply below_alloc | apply pw_below_drewN | apply below_drew1) | exact HB.out)) hb); clear HO193; clear HB; have HO193 := n0_; have HO196 := n1_; have HB := n2_; clear n0_ n1_ n2_; (try clear hb); (try clear hb2); (try clear hk); (try clear hi); (try clear ho0); obtain ⟨Ao20, co20, eo20⟩ := Kd.S_slice HO193.out; subst eo20; obtain ⟨Ao21, co21, eo21⟩ := Kd.V_slice HO196.out; subst eo21)))
          go_ret
          exact ⟨by first | rfl | (simp [errW_none, errW_some] <;> rfl) | (simp [*, errW_none, errW_some] <;> rfl), by repeat (first | (with_reducible first | exact HB.out | apply below_alloc | apply pw_below_drewN | apply below_drew1) | exact HB.out)⟩

end Go.Proofs.Ytjlcebgfknfelaa.QFnAvlFirst
