/- The machine's side of a law, as the kit's print writes it; of the functions that the print doesn't cover this session's own contracts stand in it: no condition. -/
import Derived.Test.YtjlcebgfknfelaaQFnAvlRunsx0
import Derived.Test.YtjlcebgfknfelaaQFnAvlRunsx1
import Derived.Test.YtjlcebgfknfelaaQFnAvlRunsx2
namespace Go.Proofs.Ytjlcebgfknfelaa.QFnAvlRuns
open Go.RowKit Go.Proofs.YtjlcebgfknfelaaW.PrintWords Go.Proofs.YtjlcebgfknfelaaW.PrintLast Go.Proofs.YtjlcebgfknfelaaW.PrintMore
attribute [local go_sem] max2_int min2_int max_two min_two max_three min_three max_four min_four   -- for this text's walks alone
set_option linter.unusedVariables false
set_option linter.unusedSimpArgs false

/-! ### spec_SameTold: function 49 -/
mutual
def spec_SameTold.j0 : Nat → List Int → Int → Bool → Int → Bool → List Int → List Int → Int → Bool → List Int → List Int → Option (Bool)
  | 0, _, _, _, _, _, _, _, _, _, _, _ => none
  | k + 1, x0, x1, x31, x192000, x192001, x192002, x192003, x193000, x193001, x193002, x193003 => if x31 = true then (some false) else (spec_SameTold.l0 k x0 x1 0 x192000 x192001 x192002 x192003 x193000 x193001 x193002 x193003)
def spec_SameTold.l0 : Nat → List Int → Int → Int → Int → Bool → List Int → List Int → Int → Bool → List Int → List Int → Option (Bool)
  | 0, _, _, _, _, _, _, _, _, _, _, _ => none
  | k + 1, x0, x1, x9, x192000, x192001, x192002, x192003, x193000, x193001, x193002, x193003 => if x9 < (x192002.length : Int) then (if 0 ≤ x9 then (if x9 < (x193002.length : Int) then ((spec_Alike.f x0 (rd x192002 x9) (rd x193002 x9)).bind fun t196 => (if t196 = true then (spec_SameTold.l0 k x0 x1 (wrap64 (x9 + 1)) x192000 x192001 x192002 x192003 x193000 x193001 x193002 x193003) else (some false))) else (none)) else (none)) else (if x1 = 2 then (if x192001 = true then (some (x192000 == x193000)) else (some true)) else (some (x192000 == x193000)))
end
def spec_SameTold.f (k : Nat) (l0 : List Int) (a1 : Int) (a2_0 : Int) (a2_1 : Bool) (l2_2 : List Int) (l2_3 : List Int) (a3_0 : Int) (a3_1 : Bool) (l3_2 : List Int) (l3_3 : List Int) : Option (Bool) := if (a2_1 != a3_1) = true then (spec_SameTold.j0 k l0 a1 true a2_0 a2_1 l2_2 l2_3 a3_0 a3_1 l3_2 l3_3) else (if (l2_2.length : Int) = (l3_2.length : Int) then ((spec_Same.f k l2_3 l3_3).bind fun t193 => (spec_SameTold.j0 k l0 a1 (!t193) a2_0 a2_1 l2_2 l2_3 a3_0 a3_1 l3_2 l3_3)) else (spec_SameTold.j0 k l0 a1 true a2_0 a2_1 l2_2 l2_3 a3_0 a3_1 l3_2 l3_3))
theorem spec_SameTold.mono_l : ∀ k, (∀ y0 y1 y2 y3 y4 y5 y6 y7 y8 y9 y10, LeO (spec_SameTold.j0 k y0 y1 y2 y3 y4 y5 y6 y7 y8 y9 y10) (spec_SameTold.j0 (k + 1) y0 y1 y2 y3 y4 y5 y6 y7 y8 y9 y10)) ∧ (∀ y0 y1 y2 y3 y4 y5 y6 y7 y8 y9 y10, LeO (spec_SameTold.l0 k y0 y1 y2 y3 y4 y5 y6 y7 y8 y9 y10) (spec_SameTold.l0 (k + 1) y0 y1 y2 y3 y4 y5 y6 y7 y8 y9 y10))
  | 0 => ⟨fun _ _ _ _ _ _ _ _ _ _ _ r h => by simp [spec_SameTold.j0] at h, fun _ _ _ _ _ _ _ _ _ _ _ r h => by simp [spec_SameTold.l0] at h⟩
  | k + 1 => by
    obtain ⟨ih0, ih1⟩ := spec_SameTold.mono_l k
    refine ⟨?_, ?_⟩
    · intro y0 y1 y2 y3 y4 y5 y6 y7 y8 y9 y10
      unfold spec_SameTold.j0
      repeat' first
      | (with_reducible exact ih0 _ _ _ _ _ _ _ _ _ _ _)
      | (with_reducible exact ih1 _ _ _ _ _ _ _ _ _ _ _)
      | (with_reducible exact spec_Same.mono _ _ _)
      | (with_reducible exact LeO.refl _)
      | (with_reducible exact LeO.none _)
      | (with_reducible refine LeO.ite ?_ ?_)
      | (with_reducible refine LeO.bind ?_ (fun _ => ?_))
      | exact ih0 _ _ _ _ _ _ _ _ _ _ _
      | exact ih1 _ _ _ _ _ _ _ _ _ _ _
      | exact spec_Same.mono _ _ _
      | exact LeO.none _
      | refine LeO.ite ?_ ?_
      | refine LeO.bind ?_ (fun _ => ?_)
    · intro y0 y1 y2 y3 y4 y5 y6 y7 y8 y9 y10
      unfold spec_SameTold.l0
      repeat' first
      | (with_reducible exact ih0 _ _ _ _ _ _ _ _ _ _ _)
      | (with_reducible exact ih1 _ _ _ _ _ _ _ _ _ _ _)
      | (with_reducible exact spec_Same.mono _ _ _)
      | (with_reducible exact LeO.refl _)
      | (with_reducible exact LeO.none _)
      | (with_reducible refine LeO.ite ?_ ?_)
      | (with_reducible refine LeO.bind ?_ (fun _ => ?_))
      | exact ih0 _ _ _ _ _ _ _ _ _ _ _
      | exact ih1 _ _ _ _ _ _ _ _ _ _ _
      | exact spec_Same.mono _ _ _
      | exact LeO.none _
      | refine LeO.ite ?_ ?_
      | refine LeO.bind ?_ (fun _ => ?_)
theorem spec_SameTold.mono : ∀ a0 a1 a2 a3 a4 a5 a6 a7 a8 a9 k, LeO (spec_SameTold.f k a0 a1 a2 a3 a4 a5 a6 a7 a8 a9) (spec_SameTold.f (k + 1) a0 a1 a2 a3 a4 a5 a6 a7 a8 a9) := by
  intro a0 a1 a2 a3 a4 a5 a6 a7 a8 a9 k
  obtain ⟨ih0, ih1⟩ := spec_SameTold.mono_l k
  unfold spec_SameTold.f
  repeat' first
      | (with_reducible exact ih0 _ _ _ _ _ _ _ _ _ _ _)
      | (with_reducible exact ih1 _ _ _ _ _ _ _ _ _ _ _)
      | (with_reducible exact spec_Same.mono _ _ _)
      | (with_reducible exact LeO.refl _)
      | (with_reducible exact LeO.none _)
      | (with_reducible refine LeO.ite ?_ ?_)
      | (with_reducible refine LeO.bind ?_ (fun _ => ?_))
      | exact ih0 _ _ _ _ _ _ _ _ _ _ _
      | exact ih1 _ _ _ _ _ _ _ _ _ _ _
      | exact spec_Same.mono _ _ _
      | exact LeO.none _
      | refine LeO.ite ?_ ?_
      | refine LeO.bind ?_ (fun _ => ?_)
set_option maxHeartbeats 8000000 in
set_option maxRecDepth 100000 in
theorem spec_SameTold.calls (k : Nat) (A0 : Option Addr) (c0 : Nat) (l0 : List Int) (a1 : Int) (a2_0 : Int) (a2_1 : Bool) (A2_2 : Option Addr) (c2_2 : Nat) (l2_2 : List Int) (A2_3 : Option Addr) (c2_3 : Nat) (l2_3 : List Int) (a3_0 : Int) (a3_1 : Bool) (A3_2 : Option Addr) (c3_2 : Nat) (l3_2 : List Int) (A3_3 : Option Addr) (c3_3 : Nat) (l3_3 : List Int) (r : Bool) (w : World) (hr0 : Kd.C (Kd.int .i64) w A0 l0.length l0) (hc0 : l0.length ≤ c0) (hr2_2 : Kd.C (Kd.int .i64) w A2_2 l2_2.length l2_2) (hc2_2 : l2_2.length ≤ c2_2) (hr2_3 : Kd.C (Kd.int .i64) w A2_3 l2_3.length l2_3) (hc2_3 : l2_3.length ≤ c2_3) (hr3_2 : Kd.C (Kd.int .i64) w A3_2 l3_2.length l3_2) (hc3_2 : l3_2.length ≤ c3_2) (hr3_3 : Kd.C (Kd.int .i64) w A3_3 l3_3.length l3_3) (hc3_3 : l3_3.length ≤ c3_3) (h : spec_SameTold.f k l0 a1 a2_0 a2_1 l2_2 l2_3 a3_0 a3_1 l3_2 l3_3 = some r) :
    Calls Try.prog 49 #[.slice A0 l0.length c0, .int .i64 a1, .agg #[.int .i64 a2_0, .bool a2_1, .slice A2_2 l2_2.length c2_2, .slice A2_3 l2_3.length c2_3], .agg #[.int .i64 a3_0, .bool a3_1, .slice A3_2 l3_2.length c3_2, .slice A3_3 l3_3.length c3_3]] w fun e w' => e = .returned (.bool r) ∧ Below w.heap.size w w' := by
  have hu46 := Try.underlying46
  have HR0 := Aside0.mk hr0
  have HC0 := Aside0.mk hc0
  clear hr0 hc0
  have HR2_2 := Aside0.mk hr2_2
  have HC2_2 := Aside0.mk hc2_2
  clear hr2_2 hc2_2
  have HR2_3 := Aside0.mk hr2_3
  have HC2_3 := Aside0.mk hc2_3
  clear hr2_3 hc2_3
  have HR3_2 := Aside0.mk hr3_2
  have HC3_2 := Aside0.mk hc3_2
  clear hr3_2 hc3_2
  have HR3_3 := Aside0.mk hr3_3
  have HC3_3 := Aside0.mk hc3_3
  clear hr3_3 hc3_3
  have HB := Aside0.mk (Below.refl w.heap.size w)
  have H : (if (a2_1 != a3_1) = true then (spec_SameTold.j0 k l0 a1 true a2_0 a2_1 l2_2 l2_3 a3_0 a3_1 l3_2 l3_3) else (if (l2_2.length : Int) = (l3_2.length : Int) then ((spec_Same.f k l2_3 l3_3).bind fun t193 => (spec_SameTold.j0 k l0 a1 (!t193) a2_0 a2_1 l2_2 l2_3 a3_0 a3_1 l3_2 l3_3)) else (spec_SameTold.j0 k l0 a1 true a2_0 a2_1 l2_2 l2_3 a3_0 a3_1 l3_2 l3_3))) = some r := h
  clear h
  have HC5 := Aside0.mk H
  clear H
  go_enter Try.func49, Try.ntmps49
  go_upto_region 1 with (first | ((with_reducible refine gate_dst (N := 6) rfl ?_); (try (refine gate_guard (by rfl) ?_; dsimp only)); refine box_event ?hg (N := 6) ?hd (cs := #[.int .i64 a2_0, .bool a2_1, .slice A2_2 l2_2.length c2_2, .slice A2_3 l2_3.length c2_3]) (t := 46) ?hr ?_; (case hd => rfl); (case hg => rfl); (case hr => first | (go_simp; done) | (go_simp; rfl)); intro gb191 hg w6 hbox hb; have n0_ := Aside0.mk (below_step (by repeat (first | (with_reducible first | exact HB.out | apply below_alloc | apply pw_below_drewN | apply below_drew1) | exact HB.out)) hb); have n1_ := Aside0.mk (hbox); have n2_ := Aside0.mk ((by rw [hg]; exact (below_size (by repeat (first | (with_reducible first | exact HB.out | apply below_alloc | apply pw_below_drewN | apply below_drew1) | exact HB.out))) : w.heap.size ≤ gb191)); have n3_ := Aside0.mk ((by rw [hg]; exact (below_size (by repeat (first | (with_reducible first | exact HB.out | apply below_alloc | apply pw_below_drewN | apply below_drew1) | exact HB.out))) : w.heap.size ≤ gb191)); clear HB; have HB := n0_; have BK191 := n1_; have GW191 := n2_; have GE191 := n3_; clear n0_ n1_ n2_ n3_; clear hb hbox hg) | ((with_reducible refine gate_dst (N := 7) rfl ?_); (try (refine gate_guard (by rfl) ?_; dsimp only)); refine box_event ?hg (N := 7) ?hd (cs := #[.int .i64 a3_0, .bool a3_1, .slice A3_2 l3_2.length c3_2, .slice A3_3 l3_3.length c3_3]) (t := 46) ?hr ?_; (case hd => rfl); (case hg => rfl); (case hr => first | (go_simp; done) | (go_simp; rfl)); intro gb192 hg w7 hbox hb; have n0_ := Aside0.mk (blk_below (g := gb191) (o := .cells #[.int .i64 a2_0, .bool a2_1, .slice A2_2 l2_2.length c2_2, .slice A2_3 l2_3.length c2_3] 46 (0, 0)) (by (with_reducible repeat (first | refine blk_drewN ?_ _ | refine blk_drew ?_ | refine blk_alloc ?_ _)); exact BK191.out) hb); have n1_ := Aside0.mk (below_step (by repeat (first | (with_reducible first | exact HB.out | apply below_alloc | apply pw_below_drewN | apply below_drew1 | refine below_set ?_ GE191.out) | exact HB.out)) hb); have n2_ := Aside0.mk (hbox); have n3_ := Aside0.mk ((by rw [hg]; exact (below_size (by repeat (first | (with_reducible first | exact HB.out | apply below_alloc | apply pw_below_drewN | apply below_drew1 | refine below_set ?_ GE191.out) | exact HB.out))) : w.heap.size ≤ gb192)); have n4_ := Aside0.mk ((by rw [hg]; exact (below_size (by repeat (first | (with_reducible first | exact HB.out | apply below_alloc | apply pw_below_drewN | apply below_drew1 | refine below_set ?_ GE191.out) | exact HB.out))) : w.heap.size ≤ gb192)); have n5_ := Aside0.mk ((by rw [hg]; exact Nat.ne_of_lt (blk_lt (g := gb191) (o := .cells #[.int .i64 a2_0, .bool a2_1, .slice A2_2 l2_2.length c2_2, .slice A2_3 l2_3.length c2_3] 46 (0, 0)) (by (with_reducible repeat (first | refine blk_drewN ?_ _ | refine blk_drew ?_ | refine blk_alloc ?_ _)); exact BK191.out)) : gb191 ≠ gb192)); have n6_ := Aside0.mk ((by rw [hg]; exact Nat.ne_of_gt (blk_lt (g := gb191) (o := .cells #[.int .i64 a2_0, .bool a2_1, .slice A2_2 l2_2.length c2_2, .slice A2_3 l2_3.length c2_3] 46 (0, 0)) (by (with_reducible repeat (first | refine blk_drewN ?_ _ | refine blk_drew ?_ | refine blk_alloc ?_ _)); exact BK191.out)) : gb192 ≠ gb191)); clear BK191; clear HB; have BK191 := n0_; have HB := n1_; have BK192 := n2_; have GW192 := n3_; have GE192 := n4_; have NB191_192 := n5_; have NB192_191 := n6_; clear n0_ n1_ n2_ n3_ n4_ n5_ n6_; clear hb hbox hg))
  repeat (go_quiet (first | ((with_reducible refine gate_dst (N := 6) rfl ?_); (try (refine gate_guard (by rfl) ?_; dsimp only)); refine box_event ?hg (N := 6) ?hd (cs := #[.int .i64 a2_0, .bool a2_1, .slice A2_2 l2_2.length c2_2, .slice A2_3 l2_3.length c2_3]) (t := 46) ?hr ?_; (case hd => rfl); (case hg => rfl); (case hr => first | (go_simp; done) | (go_simp; rfl)); intro gb191 hg w6 hbox hb; have n0_ := Aside0.mk (below_step (by repeat (first | (with_reducible first | exact HB.out | apply below_alloc | apply pw_below_drewN | apply below_drew1) | exact HB.out)) hb); have n1_ := Aside0.mk (hbox); have n2_ := Aside0.mk ((by rw [hg]; exact (below_size (by repeat (first | (with_reducible first | exact HB.out | apply below_alloc | apply pw_below_drewN | apply below_drew1) | exact HB.out))) : w.heap.size ≤ gb191)); have n3_ := Aside0.mk ((by rw [hg]; exact (below_size (by repeat (first | (with_reducible first | exact HB.out | apply below_alloc | apply pw_below_drewN | apply below_drew1) | exact HB.out))) : w.heap.size ≤ gb191)); clear HB; have HB := n0_; have BK191 := n1_; have GW191 := n2_; have GE191 := n3_; clear n0_ n1_ n2_ n3_; clear hb hbox hg) | ((with_reducible refine gate_dst (N := 7) rfl ?_); (try (refine gate_guard (by rfl) ?_; dsimp only)); refine box_event ?hg (N := 7) ?hd (cs := #[.int .i64 a3_0, .bool a3_1, .slice A3_2 l3_2.length c3_2, .slice A3_3 l3_3.length c3_3]) (t := 46) ?hr ?_; (case hd => rfl); (case hg => rfl); (case hr => first | (go_simp; done) | (go_simp; rfl)); intro gb192 hg w7 hbox hb; have n0_ := Aside0.mk (blk_below (g := gb191) (o := .cells #[.int .i64 a2_0, .bool a2_1, .slice A2_2 l2_2.length c2_2, .slice A2_3 l2_3.length c2_3] 46 (0, 0)) (by (with_reducible repeat (first | refine blk_drewN ?_ _ | refine blk_drew ?_ | refine blk_alloc ?_ _)); exact BK191.out) hb); have n1_ := Aside0.mk (below_step (by repeat (first | (with_reducible first | exact HB.out | apply below_alloc | apply pw_below_drewN | apply below_drew1 | refine below_set ?_ GE191.out) | exact HB.out)) hb); have n2_ := Aside0.mk (hbox); have n3_ := Aside0.mk ((by rw [hg]; exact (below_size (by repeat (first | (with_reducible first | exact HB.out | apply below_alloc | apply pw_below_drewN | apply below_drew1 | refine below_set ?_ GE191.out) | exact HB.out))) : w.heap.size ≤ gb192)); have n4_ := Aside0.mk ((by rw [hg]; exact (below_size (by repeat (first | (with_reducible first | exact HB.out | apply below_alloc | apply pw_below_drewN | apply below_drew1 | refine below_set ?_ GE191.out) | exact HB.out))) : w.heap.size ≤ gb192)); have n5_ := Aside0.mk ((by rw [hg]; exact Nat.ne_of_lt (blk_lt (g := gb191) (o := .cells #[.int .i64 a2_0, .bool a2_1, .slice A2_2 l2_2.length c2_2, .slice A2_3 l2_3.length c2_3] 46 (0, 0)) (by (with_reducible repeat (first | refine blk_drewN ?_ _ | refine blk_drew ?_ | refine blk_alloc ?_ _)); exact BK191.out)) : gb191 ≠ gb192)); have n6_ := Aside0.mk ((by rw [hg]; exact Nat.ne_of_gt (blk_lt (g := gb191) (o := .cells #[.int .i64 a2_0, .bool a2_1, .slice A2_2 l2_2.length c2_2, .slice A2_3 l2_3.length c2_3] 46 (0, 0)) (by (with_reducible repeat (first | refine blk_drewN ?_ _ | refine blk_drew ?_ | refine blk_alloc ?_ _)); exact BK191.out)) : gb192 ≠ gb191)); clear BK191; clear HB; have BK191 := n0_; have HB := n1_; have BK192 := n2_; have GW192 := n3_; have GE192 := n4_; have NB191_192 := n5_; have NB192_191 := n6_; clear n0_ n1_ n2_ n3_ n4_ n5_ n6_; clear hb hbox hg)); go_upto_region 1 with (first | ((with_reducible refine gate_dst (N := 6) rfl ?_); (try (refine gate_guard (by rfl) ?_; dsimp only)); refine box_event ?hg (N := 6) ?hd (cs := #[.int .i64 a2_0, .bool a2_1, .slice A2_2 l2_2.length c2_2, .slice A2_3 l2_3.length c2_3]) (t := 46) ?hr ?_; (case hd => rfl); (case hg => rfl); (case hr => first | (go_simp; done) | (go_simp; rfl)); intro gb191 hg w6 hbox hb; have n0_ := Aside0.mk (below_step (by repeat (first | (with_reducible first | exact HB.out | apply below_alloc | apply pw_below_drewN | apply below_drew1) | exact HB.out)) hb); have n1_ := Aside0.mk (hbox); have n2_ := Aside0.mk ((by rw [hg]; exact (below_size (by repeat (first | (with_reducible first | exact HB.out | apply below_alloc | apply pw_below_drewN | apply below_drew1) | exact HB.out))) : w.heap.size ≤ gb191)); have n3_ := Aside0.mk ((by rw [hg]; exact (below_size (by repeat (first | (with_reducible first | exact HB.out | apply below_alloc | apply pw_below_drewN | apply below_drew1) | exact HB.out))) : w.heap.size ≤ gb191)); clear HB; have HB := n0_; have BK191 := n1_; have GW191 := n2_; have GE191 := n3_; clear n0_ n1_ n2_ n3_; clear hb hbox hg) | ((with_reducible refine gate_dst (N := 7) rfl ?_); (try (refine gate_guard (by rfl) ?_; dsimp only)); refine box_event ?hg (N := 7) ?hd (cs := #[.int .i64 a3_0, .bool a3_1, .slice A3_2 l3_2.length c3_2, .slice A3_3 l3_3.length c3_3]) (t := 46) ?hr ?_; (case hd => rfl); (case hg => rfl); (case hr => first | (go_simp; done) | (go_simp; rfl)); intro gb192 hg w7 hbox hb; have n0_ := Aside0.mk (blk_below (g := gb191) (o := .cells #[.int .i64 a2_0, .bool a2_1, .slice A2_2 l2_2.length c2_2, .slice A2_3 l2_3.length c2_3] 46 (0, 0)) (by (with_reducible repeat (first | refine blk_drewN ?_ _ | refine blk_drew ?_ | refine blk_alloc ?_ _)); exact BK191.out) hb); have n1_ := Aside0.mk (below_step (by repeat (first | (with_reducible first | exact HB.out | apply below_alloc | apply pw_below_drewN | apply below_drew1 | refine below_set ?_ GE191.out) | exact HB.out)) hb); have n2_ := Aside0.mk (hbox); have n3_ := Aside0.mk ((by rw [hg]; exact (below_size (by repeat (first | (with_reducible first | exact HB.out | apply below_alloc | apply pw_below_drewN | apply below_drew1 | refine below_set ?_ GE191.out) | exact HB.out))) : w.heap.size ≤ gb192)); have n4_ := Aside0.mk ((by rw [hg]; exact (below_size (by repeat (first | (with_reducible first | exact HB.out | apply below_alloc | apply pw_below_drewN | apply below_drew1 | refine below_set ?_ GE191.out) | exact HB.out))) : w.heap.size ≤ gb192)); have n5_ := Aside0.mk ((by rw [hg]; exact Nat.ne_of_lt (blk_lt (g := gb191) (o := .cells #[.int .i64 a2_0, .bool a2_1, .slice A2_2 l2_2.length c2_2, .slice A2_3 l2_3.length c2_3] 46 (0, 0)) (by (with_reducible repeat (first | refine blk_drewN ?_ _ | refine blk_drew ?_ | refine blk_alloc ?_ _)); exact BK191.out)) : gb191 ≠ gb192)); have n6_ := Aside0.mk ((by rw [hg]; exact Nat.ne_of_gt (blk_lt (g := gb191) (o := .cells #[.int .i64 a2_0, .bool a2_1, .slice A2_2 l2_2.length c2_2, .slice A2_3 l2_3.length c2_3] 46 (0, 0)) (by (with_reducible repeat (first | refine blk_drewN ?_ _ | refine blk_drew ?_ | refine blk_alloc ?_ _)); exact BK191.out)) : gb192 ≠ gb191)); clear BK191; clear HB; have BK191 := n0_; have HB := n1_; have BK192 := n2_; have GW192 := n3_; have GE192 := n4_; have NB191_192 := n5_; have NB192_191 := n6_; clear n0_ n1_ n2_ n3_ n4_ n5_ n6_; clear hb hbox hg)))
  (try simp only [Act.put, List.setIfInBounds_toArray, List.set_cons_zero, List.set_cons_succ])
  go_cut [31] (fun v31 wc => ∃ (kq : Nat) (x31_4 : Bool), v31 = .bool x31_4 ∧ Aside0 (spec_SameTold.j0 kq l0 a1 x31_4 a2_0 a2_1 l2_2 l2_3 a3_0 a3_1 l3_2 l3_3 = some r) ∧ Aside0 (kq ≤ k) ∧ Aside0 (wc.heap[gb191]? = some (.cells #[.int .i64 a2_0, .bool a2_1, (.slice A2_2 l2_2.length c2_2), (.slice A2_3 l2_3.length c2_3)] 46 (0, 0))) ∧ Aside0 (wc.heap[gb192]? = some (.cells #[.int .i64 a3_0, .bool a3_1, (.slice A3_2 l3_2.length c3_2), (.slice A3_3 l3_3.length c3_3)] 46 (0, 0))) ∧ Aside0 (Below w.heap.size w wc))
  case first =>
    have H := HC5.out
    clear HC5
    by_cases c8 : (a2_1 != a3_1) = true
    · rw [if_pos c8] at H
      have c8b0 : (a2_1 != a3_1) = true := c8
      (try (have c8b1 : decide (a2_1 = a3_1) = false := by simpa using c8))
      (try (have c8b2 : (a2_1 == a3_1) = false := by simpa using c8))
      (try (have c8b3 : ¬ (a2_1 = a3_1) := by simpa using c8))
      clear c8
      (first | rw [c8b0] | (simp only [i64_w, i32_w]; rw [c8b0]) | skip)
      have H' := Aside0.mk H
      clear H
      have hnb9 := NB191_192.out
      have hnc9 := NB192_191.out
      have hcz10_0 : w7.cell? ⟨gb191, 0, none⟩ = some (.int .i64 a2_0) := (blk_cell BK191.out 0).trans rfl
      have hcz10_1 : w7.cell? ⟨gb191, 1, none⟩ = some (.bool a2_1) := (blk_cell BK191.out 1).trans rfl
      have hcz10_2 : w7.cell? ⟨gb191, 2, none⟩ = some (.slice A2_2 l2_2.length c2_2) := (blk_cell BK191.out 2).trans rfl
      have hcz10_3 : w7.cell? ⟨gb191, 3, none⟩ = some (.slice A2_3 l2_3.length c2_3) := (blk_cell BK191.out 3).trans rfl
      have hfz10_0 := blk_frozen BK191.out 0
      have hfz10_1 := blk_frozen BK191.out 1
      have hfz10_2 := blk_frozen BK191.out 2
      have hfz10_3 := blk_frozen BK191.out 3
      have hcz11_0 : w7.cell? ⟨gb192, 0, none⟩ = some (.int .i64 a3_0) := (blk_cell BK192.out 0).trans rfl
      have hcz11_1 : w7.cell? ⟨gb192, 1, none⟩ = some (.bool a3_1) := (blk_cell BK192.out 1).trans rfl
      have hcz11_2 : w7.cell? ⟨gb192, 2, none⟩ = some (.slice A3_2 l3_2.length c3_2) := (blk_cell BK192.out 2).trans rfl
      have hcz11_3 : w7.cell? ⟨gb192, 3, none⟩ = some (.slice A3_3 l3_3.length c3_3) := (blk_cell BK192.out 3).trans rfl
      have hfz11_0 := blk_frozen BK192.out 0
      have hfz11_1 := blk_frozen BK192.out 1
      have hfz11_2 := blk_frozen BK192.out 2
      have hfz11_3 := blk_frozen BK192.out 3
      go_wp2
      repeat (go_quiet (fail); try go_wp2)
      go_meet
      case rel => exact ⟨_, (true), (by first | rfl | (simp; done) | (simp [*]; done)), H', ⟨by first | omega | exact Nat.le_refl _⟩, ⟨by (with_reducible repeat (first | refine blk_drewN ?_ _ | refine blk_drew ?_ | refine blk_alloc ?_ _)); exact BK191.out⟩, ⟨by (with_reducible repeat (first | refine blk_drewN ?_ _ | refine blk_drew ?_ | refine blk_alloc ?_ _)); exact BK192.out⟩, ⟨by repeat (first | (with_reducible first | exact HB.out | apply below_alloc | apply pw_below_drewN | apply below_drew1 | refine below_set ?_ GE191.out | refine below_set ?_ GE192.out) | exact HB.out)⟩⟩
    · rw [if_neg c8] at H
      have c8b0 : (a2_1 != a3_1) = false := by simpa using c8
      (try (have c8b1 : decide (a2_1 = a3_1) = true := by simpa using c8))
      (try (have c8b2 : (a2_1 == a3_1) = true := by simpa using c8))
      clear c8
      (first | rw [c8b0] | (simp only [i64_w, i32_w]; rw [c8b0]) | skip)
      by_cases c12 : (l2_2.length : Int) = (l3_2.length : Int)
      · rw [if_pos c12] at H
        have c12b0 : ((l2_2.length : Int) == (l3_2.length : Int)) = true := beq_iff_eq.mpr c12
        have c12b1 : ((l2_2.length : Int) != (l3_2.length : Int)) = false := bne_eq_false_iff_eq.mpr c12
        have c12b2 : (l2_2.length == l3_2.length) = true := by first | simpa using c12 | (simp at c12 ⊢; omega)
        clear c12
        replace H := Option.bind_eq_some_iff.mp H
        obtain ⟨t193, A130, H⟩ := H
        replace H : (spec_SameTold.j0 k l0 a1 (!t193) a2_0 a2_1 l2_2 l2_3 a3_0 a3_1 l3_2 l3_3) = some r := H
        have A13 := Aside0.mk A130
        clear A130
        have H' := Aside0.mk H
        clear H
        have hnb14 := NB191_192.out
        have hnc14 := NB192_191.out
        have hcz15_0 : w7.cell? ⟨gb191, 0, none⟩ = some (.int .i64 a2_0) := (blk_cell BK191.out 0).trans rfl
        have hcz15_1 : w7.cell? ⟨gb191, 1, none⟩ = some (.bool a2_1) := (blk_cell BK191.out 1).trans rfl
        have hcz15_2 : w7.cell? ⟨gb191, 2, none⟩ = some (.slice A2_2 l2_2.length c2_2) := (blk_cell BK191.out 2).trans rfl
        have hcz15_3 : w7.cell? ⟨gb191, 3, none⟩ = some (.slice A2_3 l2_3.length c2_3) := (blk_cell BK191.out 3).trans rfl
        have hfz15_0 := blk_frozen BK191.out 0
        have hfz15_1 := blk_frozen BK191.out 1
        have hfz15_2 := blk_frozen BK191.out 2
        have hfz15_3 := blk_frozen BK191.out 3
        have hcz16_0 : w7.cell? ⟨gb192, 0, none⟩ = some (.int .i64 a3_0) := (blk_cell BK192.out 0).trans rfl
        have hcz16_1 : w7.cell? ⟨gb192, 1, none⟩ = some (.bool a3_1) := (blk_cell BK192.out 1).trans rfl
        have hcz16_2 : w7.cell? ⟨gb192, 2, none⟩ = some (.slice A3_2 l3_2.length c3_2) := (blk_cell BK192.out 2).trans rfl
        have hcz16_3 : w7.cell? ⟨gb192, 3, none⟩ = some (.slice A3_3 l3_3.length c3_3) := (blk_cell BK192.out 3).trans rfl
        have hfz16_0 := blk_frozen BK192.out 0
        have hfz16_1 := blk_frozen BK192.out 1
        have hfz16_2 := blk_frozen BK192.out 2
        have hfz16_3 := blk_frozen BK192.out 3
        go_wp2_with (first | (go_at_call 18; (with_reducible refine (spec_Same.calls k _ _ l2_3 _ _ l3_3 t193 _ ?side1 ?side2 ?side3 ?side4 A13.out).mono ?_); (case side1 => repeat (first | exact (Kd.C_below HR2_3.out HB.out) | (with_reducible refine Kd.C_alloc ?_ _) | (with_reducible refine Kd.C_drewN ?_ _) | (with_reducible refine Kd.C_drew ?_))); (case side2 => exact HC2_3.out); (case side3 => repeat (first | exact (Kd.C_below HR3_3.out HB.out) | (with_reducible refine Kd.C_alloc ?_ _) | (with_reducible refine Kd.C_drewN ?_ _) | (with_reducible refine Kd.C_drew ?_))); (case side4 => exact HC3_3.out); rintro e w' ⟨rfl, ⟨nd, rfl⟩⟩; (try first | exact ⟨rfl, _, World.drewN_drewN _ _ _⟩ | exact ⟨rfl, _, Eq.trans (World.drewN_drewN _ _ _) (congrArg (World.drewN _) (Nat.add_assoc _ _ _))⟩)))
        repeat (go_quiet (first | (go_at_call 18; (with_reducible refine (spec_Same.calls k _ _ l2_3 _ _ l3_3 t193 _ ?side1 ?side2 ?side3 ?side4 A13.out).mono ?_); (case side1 => repeat (first | exact (Kd.C_below HR2_3.out HB.out) | (with_reducible refine Kd.C_alloc ?_ _) | (with_reducible refine Kd.C_drewN ?_ _) | (with_reducible refine Kd.C_drew ?_))); (case side2 => exact HC2_3.out); (case side3 => repeat (first | exact (Kd.C_below HR3_3.out HB.out) | (with_reducible refine Kd.C_alloc ?_ _) | (with_reducible refine Kd.C_drewN ?_ _) | (with_reducible refine Kd.C_drew ?_))); (case side4 => exact HC3_3.out); rintro e w' ⟨rfl, ⟨nd, rfl⟩⟩; (try first | exact ⟨rfl, _, World.drewN_drewN _ _ _⟩ | exact ⟨rfl, _, Eq.trans (World.drewN_drewN _ _ _) (congrArg (World.drewN _) (Nat.add_assoc _ _ _))⟩))); try go_wp2_with (first | (go_at_call 18; (with_reducible refine (spec_Same.calls k _ _ l2_3 _ _ l3_3 t193 _ ?side1 ?side2 ?side3 ?side4 A13.out).mono ?_); (case side1 => repeat (first | exact (Kd.C_below HR2_3.out HB.out) | (with_reducible refine Kd.C_alloc ?_ _) | (with_reducible refine Kd.C_drewN ?_ _) | (with_reducible refine Kd.C_drew ?_))); (case side2 => exact HC2_3.out); (case side3 => repeat (first | exact (Kd.C_below HR3_3.out HB.out) | (with_reducible refine Kd.C_alloc ?_ _) | (with_reducible refine Kd.C_drewN ?_ _) | (with_reducible refine Kd.C_drew ?_))); (case side4 => exact HC3_3.out); rintro e w' ⟨rfl, ⟨nd, rfl⟩⟩; (try first | exact ⟨rfl, _, World.drewN_drewN _ _ _⟩ | exact ⟨rfl, _, Eq.trans (World.drewN_drewN _ _ _) (congrArg (World.drewN _) (Nat.add_assoc _ _ _))⟩))))
        go_meet
        case rel => exact ⟨_, (!t193), (by first | rfl | (simp; done) | (simp [*]; done)), H', ⟨by first | omega | exact Nat.le_refl _⟩, ⟨by (with_reducible repeat (first | refine blk_drewN ?_ _ | refine blk_drew ?_ | refine blk_alloc ?_ _)); exact BK191.out⟩, ⟨by (with_reducible repeat (first | refine blk_drewN ?_ _ | refine blk_drew ?_ | refine blk_alloc ?_ _)); exact BK192.out⟩, ⟨by repeat (first | (with_reducible first | exact HB.out | apply below_alloc | apply pw_below_drewN | apply below_drew1 | refine below_set ?_ GE191.out | refine below_set ?_ GE192.out) | exact HB.out)⟩⟩
      · rw [if_neg c12] at H
        have c12b0 : ((l2_2.length : Int) == (l3_2.length : Int)) = false := beq_eq_false_iff_ne.mpr c12
        have c12b1 : ((l2_2.length : Int) != (l3_2.length : Int)) = true := bne_iff_ne.mpr c12
        have c12b2 : (l2_2.length == l3_2.length) = false := by first | simpa using c12 | (simp at c12 ⊢; omega)
        have H' := Aside0.mk H
        clear H
        have hnb17 := NB191_192.out
        have hnc17 := NB192_191.out
        have hcz18_0 : w7.cell? ⟨gb191, 0, none⟩ = some (.int .i64 a2_0) := (blk_cell BK191.out 0).trans rfl
        have hcz18_1 : w7.cell? ⟨gb191, 1, none⟩ = some (.bool a2_1) := (blk_cell BK191.out 1).trans rfl
        have hcz18_2 : w7.cell? ⟨gb191, 2, none⟩ = some (.slice A2_2 l2_2.length c2_2) := (blk_cell BK191.out 2).trans rfl
        have hcz18_3 : w7.cell? ⟨gb191, 3, none⟩ = some (.slice A2_3 l2_3.length c2_3) := (blk_cell BK191.out 3).trans rfl
        have hfz18_0 := blk_frozen BK191.out 0
        have hfz18_1 := blk_frozen BK191.out 1
        have hfz18_2 := blk_frozen BK191.out 2
        have hfz18_3 := blk_frozen BK191.out 3
        have hcz19_0 : w7.cell? ⟨gb192, 0, none⟩ = some (.int .i64 a3_0) := (blk_cell BK192.out 0).trans rfl
        have hcz19_1 : w7.cell? ⟨gb192, 1, none⟩ = some (.bool a3_1) := (blk_cell BK192.out 1).trans rfl
        have hcz19_2 : w7.cell? ⟨gb192, 2, none⟩ = some (.slice A3_2 l3_2.length c3_2) := (blk_cell BK192.out 2).trans rfl
        have hcz19_3 : w7.cell? ⟨gb192, 3, none⟩ = some (.slice A3_3 l3_3.length c3_3) := (blk_cell BK192.out 3).trans rfl
        have hfz19_0 := blk_frozen BK192.out 0
        have hfz19_1 := blk_frozen BK192.out 1
        have hfz19_2 := blk_frozen BK192.out 2
        have hfz19_3 := blk_frozen BK192.out 3
        go_wp2
        repeat (go_quiet (fail); try go_wp2)
        go_meet
        case rel => exact ⟨_, (true), (by first | rfl | (simp; done) | (simp [*]; done)), H', ⟨by first | omega | exact Nat.le_refl _⟩, ⟨by (with_reducible repeat (first | refine blk_drewN ?_ _ | refine blk_drew ?_ | refine blk_alloc ?_ _)); exact BK191.out⟩, ⟨by (with_reducible repeat (first | refine blk_drewN ?_ _ | refine blk_drew ?_ | refine blk_alloc ?_ _)); exact BK192.out⟩, ⟨by repeat (first | (with_reducible first | exact HB.out | apply below_alloc | apply pw_below_drewN | apply below_drew1 | refine below_set ?_ GE191.out | refine below_set ?_ GE192.out) | exact HB.out)⟩⟩
  case rest =>
    clear HC5
    try clear c1
    try clear c2
    try clear p2
    try clear c3
    try clear c4
    try clear c8
    try clear c8b0
    try clear c8b1
    try clear c8b2
    try clear c9
    try clear c12
    try clear c12b0
    try clear c12b1
    try clear c12b2
    try clear c14
    try clear c17
    try clear hcz10_0
    try clear hcz10_1
    try clear hcz10_2
    try clear hcz10_3
    try clear hcz11_0
    try clear hcz11_1
    try clear hcz11_2
    try clear hcz11_3
    try clear hcz15_0
    try clear hcz15_1
    try clear hcz15_2
    try clear hcz15_3
    try clear hcz16_0
    try clear hcz16_1
    try clear hcz16_2
    try clear hcz16_3
    try clear hcz18_0
    try clear hcz18_1
    try clear hcz18_2
    try clear hcz18_3
    try clear hcz19_0
    try clear hcz19_1
    try clear hcz19_2
    try clear hcz19_3
    try clear hfz10_0
    try clear hfz10_1
    try clear hfz10_2
    try clear hfz10_3
    try clear hfz11_0
    try clear hfz11_1
    try clear hfz11_2
    try clear hfz11_3
    try clear hfz15_0
    try clear hfz15_1
    try clear hfz15_2
    try clear hfz15_3
    try clear hfz16_0
    try clear hfz16_1
    try clear hfz16_2
    try clear hfz16_3
    try clear hfz18_0
    try clear hfz18_1
    try clear hfz18_2
    try clear hfz18_3
    try clear hfz19_0
    try clear hfz19_1
    try clear hfz19_2
    try clear hfz19_3
    obtain ⟨kq, x31_4, rfl, HA, HJ4, BK191, BK192, HB⟩ := hcut
    cases kq with
    | zero => exact absurd HA.out (by simp [spec_SameTold.j0])
    | succ kj4 =>
      have H := HA.out
      clear HA
      simp only [spec_SameTold.j0] at H
      by_cases c20 : x31_4 = true
      · subst c20
        have H1 : (some false) = some r := by rw [if_pos rfl] at H; exact H
        clear H
        have H := H1
        clear H1
        obtain rfl := Option.some.inj H
        go_wp2
        repeat (go_quiet (fail); try go_wp2)
        go_ret
        exact ⟨by first | rfl | (simp [errW_none, errW_some] <;> rfl) | (simp [*, errW_none, errW_some] <;> rfl), by repeat (first | (with_reducible first | exact HB.out | apply below_alloc | apply pw_below_drewN | apply below_drew1 | refine below_set ?_ GE191.out | refine below_set ?_ GE192.out) | exact HB.out)⟩
      · replace c20 := Bool.eq_false_iff.mpr c20
        subst c20
        have H1 : (spec_SameTold.l0 kj4 l0 a1 0 a2_0 a2_1 l2_2 l2_3 a3_0 a3_1 l3_2 l3_3) = some r := by rw [if_neg (show ¬ (false = true) by decide)] at H; exact H
        clear H
        have H := H1
        clear H1
        have H' := Aside0.mk H
        clear H
        go_wp2
        repeat (go_quiet (fail); try go_wp2)
        go_loopg [9] kj4 (fun kq v9 w' => ∃ (x9_2 : Int), v9 = .int .i64 x9_2 ∧ Aside0 (spec_SameTold.l0 kq l0 a1 x9_2 a2_0 a2_1 l2_2 l2_3 a3_0 a3_1 l3_2 l3_3 = some r) ∧ Aside0 (kq ≤ kj4) ∧ Aside0 (w'.heap[gb191]? = some (.cells #[.int .i64 a2_0, .bool a2_1, (.slice A2_2 l2_2.length c2_2), (.slice A2_3 l2_3.length c2_3)] 46 (0, 0))) ∧ Aside0 (w'.heap[gb192]? = some (.cells #[.int .i64 a3_0, .bool a3_1, (.slice A3_2 l3_2.length c3_2), (.slice A3_3 l3_3.length c3_3)] 46 (0, 0))) ∧ Aside0 (Below w.heap.size w w'))
        case atStart => exact ⟨(0), (by first | rfl | (simp; done) | (simp [*]; done)), H', ⟨Nat.le_refl _⟩, ⟨by (with_reducible repeat (first | refine blk_drewN ?_ _ | refine blk_drew ?_ | refine blk_alloc ?_ _)); exact BK191.out⟩, ⟨by (with_reducible repeat (first | refine blk_drewN ?_ _ | refine blk_drew ?_ | refine blk_alloc ?_ _)); exact BK192.out⟩, ⟨by repeat (first | (with_reducible first | exact HB.out | apply below_alloc | apply pw_below_drewN | apply below_drew1 | refine below_set ?_ GE191.out | refine below_set ?_ GE192.out) | exact HB.out)⟩⟩
        case round =>
          clear H'
          try clear c1
          try clear c2
          try clear p2
          try clear c3
          try clear c4
          try clear c8
          try clear c8b0
          try clear c8b1
          try clear c8b2
          try clear c9
          try clear c12
          try clear c12b0
          try clear c12b1
          try clear c12b2
          try clear c14
          try clear c17
          try clear c20
          try clear hcz10_0
          try clear hcz10_1
          try clear hcz10_2
          try clear hcz10_3
          try clear hcz11_0
          try clear hcz11_1
          try clear hcz11_2
          try clear hcz11_3
          try clear hcz15_0
          try clear hcz15_1
          try clear hcz15_2
          try clear hcz15_3
          try clear hcz16_0
          try clear hcz16_1
          try clear hcz16_2
          try clear hcz16_3
          try clear hcz18_0
          try clear hcz18_1
          try clear hcz18_2
          try clear hcz18_3
          try clear hcz19_0
          try clear hcz19_1
          try clear hcz19_2
          try clear hcz19_3
          try clear hfz10_0
          try clear hfz10_1
          try clear hfz10_2
          try clear hfz10_3
          try clear hfz11_0
          try clear hfz11_1
          try clear hfz11_2
          try clear hfz11_3
          try clear hfz15_0
          try clear hfz15_1
          try clear hfz15_2
          try clear hfz15_3
          try clear hfz16_0
          try clear hfz16_1
          try clear hfz16_2
          try clear hfz16_3
          try clear hfz18_0
          try clear hfz18_1
          try clear hfz18_2
          try clear hfz18_3
          try clear hfz19_0
          try clear hfz19_1
          try clear hfz19_2
          try clear hfz19_3
          try clear p2
          obtain ⟨x9_2, rfl, HA, HK2, BK191, BK192, HB⟩ := hrel
          cases gk with
          | zero => exact absurd HA.out (by simp [spec_SameTold.l0])
          | succ k2 =>
            have H := HA.out
            clear HA
            simp only [spec_SameTold.l0] at H
            by_cases c21 : x9_2 < (l2_2.length : Int)
            · rw [if_pos c21] at H
              have c21b0 : decide (x9_2 < (l2_2.length : Int)) = true := decide_eq_true c21
              clear c21
              by_cases c22 : 0 ≤ x9_2
              · rw [if_pos c22] at H
                have c22b0 : decide (0 ≤ x9_2) = true := decide_eq_true c22
                clear c22
                by_cases c23 : x9_2 < (l3_2.length : Int)
                · rw [if_pos c23] at H
                  have c23b0 : decide (x9_2 < (l3_2.length : Int)) = true := decide_eq_true c23
                  clear c23
                  replace H := Option.bind_eq_some_iff.mp H
                  obtain ⟨t196, A240, H⟩ := H
                  replace H : (if t196 = true then (spec_SameTold.l0 k2 l0 a1 (wrap64 (x9_2 + 1)) a2_0 a2_1 l2_2 l2_3 a3_0 a3_1 l3_2 l3_3) else (some false)) = some r := H
                  have A24 := Aside0.mk A240
                  clear A240
                  by_cases c25 : t196 = true
                  · subst c25
                    have H1 : (spec_SameTold.l0 k2 l0 a1 (wrap64 (x9_2 + 1)) a2_0 a2_1 l2_2 l2_3 a3_0 a3_1 l3_2 l3_3) = some r := by rw [if_pos rfl] at H; exact H
                    clear H
                    have H := H1
                    clear H1
                    have H' := Aside0.mk H
                    clear H
                    have hnb26 := NB191_192.out
                    have hnc26 := NB192_191.out
                    have hcz27_0 : wr.cell? ⟨gb191, 0, none⟩ = some (.int .i64 a2_0) := (blk_cell BK191.out 0).trans rfl
                    have hcz27_1 : wr.cell? ⟨gb191, 1, none⟩ = some (.bool a2_1) := (blk_cell BK191.out 1).trans rfl
                    have hcz27_2 : wr.cell? ⟨gb191, 2, none⟩ = some (.slice A2_2 l2_2.length c2_2) := (blk_cell BK191.out 2).trans rfl
                    have hcz27_3 : wr.cell? ⟨gb191, 3, none⟩ = some (.slice A2_3 l2_3.length c2_3) := (blk_cell BK191.out 3).trans rfl
                    have hfz27_0 := blk_frozen BK191.out 0
                    have hfz27_1 := blk_frozen BK191.out 1
                    have hfz27_2 := blk_frozen BK191.out 2
                    have hfz27_3 := blk_frozen BK191.out 3
                    have p194 : 0 ≤ (x9_2 : Int) := of_decide_eq_true (by first | (with_reducible assumption) | assumption)
                    have q194 : x9_2 < (l2_2.length : Int) := of_decide_eq_true (by first | (with_reducible assumption) | assumption)
                    obtain ⟨ad194, e194, hx194_0⟩ := Kd.at_int HR2_2.out x9_2 p194 q194
                    cases e194
                    replace hx194_0 := (HB.out.cell (World.block_lt_of_cell? w _ hx194_0)).trans hx194_0
                    replace p194 := eq_true p194
                    replace q194 := eq_true q194
                    have hcz28_0 : wr.cell? ⟨gb192, 0, none⟩ = some (.int .i64 a3_0) := (blk_cell BK192.out 0).trans rfl
                    have hcz28_1 : wr.cell? ⟨gb192, 1, none⟩ = some (.bool a3_1) := (blk_cell BK192.out 1).trans rfl
                    have hcz28_2 : wr.cell? ⟨gb192, 2, none⟩ = some (.slice A3_2 l3_2.length c3_2) := (blk_cell BK192.out 2).trans rfl
                    have hcz28_3 : wr.cell? ⟨gb192, 3, none⟩ = some (.slice A3_3 l3_3.length c3_3) := (blk_cell BK192.out 3).trans rfl
                    have hfz28_0 := blk_frozen BK192.out 0
                    have hfz28_1 := blk_frozen BK192.out 1
                    have hfz28_2 := blk_frozen BK192.out 2
                    have hfz28_3 := blk_frozen BK192.out 3
                    have p195 : 0 ≤ (x9_2 : Int) := of_decide_eq_true (by first | (with_reducible assumption) | assumption)
                    have q195 : x9_2 < (l3_2.length : Int) := of_decide_eq_true (by first | (with_reducible assumption) | assumption)
                    obtain ⟨ad195, e195, hx195_0⟩ := Kd.at_int HR3_2.out x9_2 p195 q195
                    cases e195
                    replace hx195_0 := (HB.out.cell (World.block_lt_of_cell? w _ hx195_0)).trans hx195_0
                    replace p195 := eq_true p195
                    replace q195 := eq_true q195
                    go_wp2_with (first | (go_at_call 37; (with_reducible refine (spec_Alike.calls _ _ l0 (rd l2_2 x9_2) (rd l3_2 x9_2) true _ ?side1 ?side2 A24.out).mono ?_); (case side1 => repeat (first | exact (Kd.C_below HR0.out HB.out) | (with_reducible refine Kd.C_alloc ?_ _) | (with_reducible refine Kd.C_drewN ?_ _) | (with_reducible refine Kd.C_drew ?_))); (case side2 => exact HC0.out); rintro e w' ⟨rfl, ⟨nd, rfl⟩⟩; (try first | exact ⟨rfl, _, World.drewN_drewN _ _ _⟩ | exact ⟨rfl, _, Eq.trans (World.drewN_drewN _ _ _) (congrArg (World.drewN _) (Nat.add_assoc _ _ _))⟩)))
                    repeat (go_quiet (first | (go_at_call 37; (with_reducible refine (spec_Alike.calls _ _ l0 (rd l2_2 x9_2) (rd l3_2 x9_2) true _ ?side1 ?side2 A24.out).mono ?_); (case side1 => repeat (first | exact (Kd.C_below HR0.out HB.out) | (with_reducible refine Kd.C_alloc ?_ _) | (with_reducible refine Kd.C_drewN ?_ _) | (with_reducible refine Kd.C_drew ?_))); (case side2 => exact HC0.out); rintro e w' ⟨rfl, ⟨nd, rfl⟩⟩; (try first | exact ⟨rfl, _, World.drewN_drewN _ _ _⟩ | exact ⟨rfl, _, Eq.trans (World.drewN_drewN _ _ _) (congrArg (World.drewN _) (Nat.add_assoc _ _ _))⟩))); try go_wp2_with (first | (go_at_call 37; (with_reducible refine (spec_Alike.calls _ _ l0 (rd l2_2 x9_2) (rd l3_2 x9_2) true _ ?side1 ?side2 A24.out).mono ?_); (case side1 => repeat (first | exact (Kd.C_below HR0.out HB.out) | (with_reducible refine Kd.C_alloc ?_ _) | (with_reducible refine Kd.C_drewN ?_ _) | (with_reducible refine Kd.C_drew ?_))); (case side2 => exact HC0.out); rintro e w' ⟨rfl, ⟨nd, rfl⟩⟩; (try first | exact ⟨rfl, _, World.drewN_drewN _ _ _⟩ | exact ⟨rfl, _, Eq.trans (World.drewN_drewN _ _ _) (congrArg (World.drewN _) (Nat.add_assoc _ _ _))⟩))))
                    go_roundg k2
                    case measure => have := HJ4.out; have := HK2.out; omega
                    case rel => exact ⟨(wrap64 (x9_2 + 1)), (by first | rfl | (simp; done) | (simp [*]; done)), H', ⟨by have := HJ4.out; have := HK2.out; omega⟩, ⟨by (with_reducible repeat (first | refine blk_drewN ?_ _ | refine blk_drew ?_ | refine blk_alloc ?_ _)); exact BK191.out⟩, ⟨by (with_reducible repeat (first | refine blk_drewN ?_ _ | refine blk_drew ?_ | refine blk_alloc ?_ _)); exact BK192.out⟩, ⟨by repeat (first | (with_reducible first | exact HB.out | apply below_alloc | apply pw_below_drewN | apply below_drew1 | refine below_set ?_ GE191.out | refine below_set ?_ GE192.out) | exact HB.out)⟩⟩
                  · replace c25 := Bool.eq_false_iff.mpr c25
                    subst c25
                    have H1 : (some false) = some r := by rw [if_neg (show ¬ (false = true) by decide)] at H; exact H
                    clear H
                    have H := H1
                    clear H1
                    obtain rfl := Option.some.inj H
                    have hnb29 := NB191_192.out
                    have hnc29 := NB192_191.out
                    have hcz30_0 : wr.cell? ⟨gb191, 0, none⟩ = some (.int .i64 a2_0) := (blk_cell BK191.out 0).trans rfl
                    have hcz30_1 : wr.cell? ⟨gb191, 1, none⟩ = some (.bool a2_1) := (blk_cell BK191.out 1).trans rfl
                    have hcz30_2 : wr.cell? ⟨gb191, 2, none⟩ = some (.slice A2_2 l2_2.length c2_2) := (blk_cell BK191.out 2).trans rfl
                    have hcz30_3 : wr.cell? ⟨gb191, 3, none⟩ = some (.slice A2_3 l2_3.length c2_3) := (blk_cell BK191.out 3).trans rfl
                    have hfz30_0 := blk_frozen BK191.out 0
                    have hfz30_1 := blk_frozen BK191.out 1
                    have hfz30_2 := blk_frozen BK191.out 2
                    have hfz30_3 := blk_frozen BK191.out 3
                    have p194 : 0 ≤ (x9_2 : Int) := of_decide_eq_true (by first | (with_reducible assumption) | assumption)
                    have q194 : x9_2 < (l2_2.length : Int) := of_decide_eq_true (by first | (with_reducible assumption) | assumption)
                    obtain ⟨ad194, e194, hx194_0⟩ := Kd.at_int HR2_2.out x9_2 p194 q194
                    cases e194
                    replace hx194_0 := (HB.out.cell (World.block_lt_of_cell? w _ hx194_0)).trans hx194_0
                    replace p194 := eq_true p194
                    replace q194 := eq_true q194
                    have hcz31_0 : wr.cell? ⟨gb192, 0, none⟩ = some (.int .i64 a3_0) := (blk_cell BK192.out 0).trans rfl
                    have hcz31_1 : wr.cell? ⟨gb192, 1, none⟩ = some (.bool a3_1) := (blk_cell BK192.out 1).trans rfl
                    have hcz31_2 : wr.cell? ⟨gb192, 2, none⟩ = some (.slice A3_2 l3_2.length c3_2) := (blk_cell BK192.out 2).trans rfl
                    have hcz31_3 : wr.cell? ⟨gb192, 3, none⟩ = some (.slice A3_3 l3_3.length c3_3) := (blk_cell BK192.out 3).trans rfl
                    have hfz31_0 := blk_frozen BK192.out 0
                    have hfz31_1 := blk_frozen BK192.out 1
                    have hfz31_2 := blk_frozen BK192.out 2
                    have hfz31_3 := blk_frozen BK192.out 3
                    have p195 : 0 ≤ (x9_2 : Int) := of_decide_eq_true (by first | (with_reducible assumption) | assumption)
                    have q195 : x9_2 < (l3_2.length : Int) := of_decide_eq_true (by first | (with_reducible assumption) | assumption)
                    obtain ⟨ad195, e195, hx195_0⟩ := Kd.at_int HR3_2.out x9_2 p195 q195
                    cases e195
                    replace hx195_0 := (HB.out.cell (World.block_lt_of_cell? w _ hx195_0)).trans hx195_0
                    replace p195 := eq_true p195
                    replace q195 := eq_true q195
                    go_wp2_with (first | (go_at_call 37; (with_reducible refine (spec_Alike.calls _ _ l0 (rd l2_2 x9_2) (rd l3_2 x9_2) false _ ?side1 ?side2 A24.out).mono ?_); (case side1 => repeat (first | exact (Kd.C_below HR0.out HB.out) | (with_reducible refine Kd.C_alloc ?_ _) | (with_reducible refine Kd.C_drewN ?_ _) | (with_reducible refine Kd.C_drew ?_))); (case side2 => exact HC0.out); rintro e w' ⟨rfl, ⟨nd, rfl⟩⟩; (try first | exact ⟨rfl, _, World.drewN_drewN _ _ _⟩ | exact ⟨rfl, _, Eq.trans (World.drewN_drewN _ _ _) (congrArg (World.drewN _) (Nat.add_assoc _ _ _))⟩)))
                    repeat (go_quiet (first | (go_at_call 37; (with_reducible refine (spec_Alike.calls _ _ l0 (rd l2_2 x9_2) (rd l3_2 x9_2) false _ ?side1 ?side2 A24.out).mono ?_); (case side1 => repeat (first | exact (Kd.C_below HR0.out HB.out) | (with_reducible refine Kd.C_alloc ?_ _) | (with_reducible refine Kd.C_drewN ?_ _) | (with_reducible refine Kd.C_drew ?_))); (case side2 => exact HC0.out); rintro e w' ⟨rfl, ⟨nd, rfl⟩⟩; (try first | exact ⟨rfl, _, World.drewN_drewN _ _ _⟩ | exact ⟨rfl, _, Eq.trans (World.drewN_drewN _ _ _) (congrArg (World.drewN _) (Nat.add_assoc _ _ _))⟩))); try go_wp2_with (first | (go_at_call 37; (with_reducible refine (spec_Alike.calls _ _ l0 (rd l2_2 x9_2) (rd l3_2 x9_2) false _ ?side1 ?side2 A24.out).mono ?_); (case side1 => repeat (first | exact (Kd.C_below HR0.out HB.out) | (with_reducible refine Kd.C_alloc ?_ _) | (with_reducible refine Kd.C_drewN ?_ _) | (with_reducible refine Kd.C_drew ?_))); (case side2 => exact HC0.out); rintro e w' ⟨rfl, ⟨nd, rfl⟩⟩; (try first | exact ⟨rfl, _, World.drewN_drewN _ _ _⟩ | exact ⟨rfl, _, Eq.trans (World.drewN_drewN _ _ _) (congrArg (World.drewN _) (Nat.add_assoc _ _ _))⟩))))
                    go_ret
                    exact ⟨by first | rfl | (simp [errW_none, errW_some] <;> rfl) | (simp [*, errW_none, errW_some] <;> rfl), by repeat (first | (with_reducible first | exact HB.out | apply below_alloc | apply pw_below_drewN | apply below_drew1 | refine below_set ?_ GE191.out | refine below_set ?_ GE192.out) | exact HB.out)⟩
                · rw [if_neg c23] at H
                  exact absurd H (by simp)
              · rw [if_neg c22] at H
                exact absurd H (by simp)
            · rw [if_neg c21] at H
              have c21b0 : decide (x9_2 < (l2_2.length : Int)) = false := decide_eq_false c21
              clear c21
              by_cases c32 : a1 = 2
              · rw [if_pos c32] at H
                have c32b0 : (a1 == 2) = true := beq_iff_eq.mpr c32
                have c32b1 : (a1 != 2) = false := bne_eq_false_iff_eq.mpr c32
                clear c32
                by_cases c33 : a2_1 = true
                · subst c33
                  have H1 : (some (a2_0 == a3_0)) = some r := by rw [if_pos rfl] at H; exact H
                  clear H
                  have H := H1
                  clear H1
                  obtain rfl := Option.some.inj H
                  have hnb34 := NB191_192.out
                  have hnc34 := NB192_191.out
                  have hcz35_0 : wr.cell? ⟨gb191, 0, none⟩ = some (.int .i64 a2_0) := (blk_cell BK191.out 0).trans rfl
                  have hcz35_1 : wr.cell? ⟨gb191, 1, none⟩ = some (.bool true) := (blk_cell BK191.out 1).trans rfl
                  have hcz35_2 : wr.cell? ⟨gb191, 2, none⟩ = some (.slice A2_2 l2_2.length c2_2) := (blk_cell BK191.out 2).trans rfl
                  have hcz35_3 : wr.cell? ⟨gb191, 3, none⟩ = some (.slice A2_3 l2_3.length c2_3) := (blk_cell BK191.out 3).trans rfl
                  have hfz35_0 := blk_frozen BK191.out 0
                  have hfz35_1 := blk_frozen BK191.out 1
                  have hfz35_2 := blk_frozen BK191.out 2
                  have hfz35_3 := blk_frozen BK191.out 3
                  have hcz36_0 : wr.cell? ⟨gb192, 0, none⟩ = some (.int .i64 a3_0) := (blk_cell BK192.out 0).trans rfl
                  have hcz36_1 : wr.cell? ⟨gb192, 1, none⟩ = some (.bool a3_1) := (blk_cell BK192.out 1).trans rfl
                  have hcz36_2 : wr.cell? ⟨gb192, 2, none⟩ = some (.slice A3_2 l3_2.length c3_2) := (blk_cell BK192.out 2).trans rfl
                  have hcz36_3 : wr.cell? ⟨gb192, 3, none⟩ = some (.slice A3_3 l3_3.length c3_3) := (blk_cell BK192.out 3).trans rfl
                  have hfz36_0 := blk_frozen BK192.out 0
                  have hfz36_1 := blk_frozen BK192.out 1
                  have hfz36_2 := blk_frozen BK192.out 2
                  have hfz36_3 := blk_frozen BK192.out 3
                  go_wp2
                  repeat (go_quiet (fail); try go_wp2)
                  go_ret
                  exact ⟨by first | rfl | (simp [errW_none, errW_some] <;> rfl) | (simp [*, errW_none, errW_some] <;> rfl), by repeat (first | (with_reducible first | exact HB.out | apply below_alloc | apply pw_below_drewN | apply below_drew1 | refine below_set ?_ GE191.out | refine below_set ?_ GE192.out) | exact HB.out)⟩
                · replace c33 := Bool.eq_false_iff.mpr c33
                  subst c33
                  have H1 : (some true) = some r := by rw [if_neg (show ¬ (false = true) by decide)] at H; exact H
                  clear H
                  have H := H1
                  clear H1
                  obtain rfl := Option.some.inj H
                  have hnb37 := NB191_192.out
                  have hnc37 := NB192_191.out
                  have hcz38_0 : wr.cell? ⟨gb191, 0, none⟩ = some (.int .i64 a2_0) := (blk_cell BK191.out 0).trans rfl
                  have hcz38_1 : wr.cell? ⟨gb191, 1, none⟩ = some (.bool false) := (blk_cell BK191.out 1).trans rfl
                  have hcz38_2 : wr.cell? ⟨gb191, 2, none⟩ = some (.slice A2_2 l2_2.length c2_2) := (blk_cell BK191.out 2).trans rfl
                  have hcz38_3 : wr.cell? ⟨gb191, 3, none⟩ = some (.slice A2_3 l2_3.length c2_3) := (blk_cell BK191.out 3).trans rfl
                  have hfz38_0 := blk_frozen BK191.out 0
                  have hfz38_1 := blk_frozen BK191.out 1
                  have hfz38_2 := blk_frozen BK191.out 2
                  have hfz38_3 := blk_frozen BK191.out 3
                  go_wp2
                  repeat (go_quiet (fail); try go_wp2)
                  go_ret
                  exact ⟨by first | rfl | (simp [errW_none, errW_some] <;> rfl) | (simp [*, errW_none, errW_some] <;> rfl), by repeat (first | (with_reducible first | exact HB.out | apply below_alloc | apply pw_below_drewN | apply below_drew1 | refine below_set ?_ GE191.out | refine below_set ?_ GE192.out) | exact HB.out)⟩
              · rw [if_neg c32] at H
                have c32b0 : (a1 == 2) = false := beq_eq_false_iff_ne.mpr c32
                have c32b1 : (a1 != 2) = true := bne_iff_ne.mpr c32
                obtain rfl := Option.some.inj H
                have hnb39 := NB191_192.out
                have hnc39 := NB192_191.out
                have hcz40_0 : wr.cell? ⟨gb191, 0, none⟩ = some (.int .i64 a2_0) := (blk_cell BK191.out 0).trans rfl
                have hcz40_1 : wr.cell? ⟨gb191, 1, none⟩ = some (.bool a2_1) := (blk_cell BK191.out 1).trans rfl
                have hcz40_2 : wr.cell? ⟨gb191, 2, none⟩ = some (.slice A2_2 l2_2.length c2_2) := (blk_cell BK191.out 2).trans rfl
                have hcz40_3 : wr.cell? ⟨gb191, 3, none⟩ = some (.slice A2_3 l2_3.length c2_3) := (blk_cell BK191.out 3).trans rfl
                have hfz40_0 := blk_frozen BK191.out 0
                have hfz40_1 := blk_frozen BK191.out 1
                have hfz40_2 := blk_frozen BK191.out 2
                have hfz40_3 := blk_frozen BK191.out 3
                have hcz41_0 : wr.cell? ⟨gb192, 0, none⟩ = some (.int .i64 a3_0) := (blk_cell BK192.out 0).trans rfl
                have hcz41_1 : wr.cell? ⟨gb192, 1, none⟩ = some (.bool a3_1) := (blk_cell BK192.out 1).trans rfl
                have hcz41_2 : wr.cell? ⟨gb192, 2, none⟩ = some (.slice A3_2 l3_2.length c3_2) := (blk_cell BK192.out 2).trans rfl
                have hcz41_3 : wr.cell? ⟨gb192, 3, none⟩ = some (.slice A3_3 l3_3.length c3_3) := (blk_cell BK192.out 3).trans rfl
                have hfz41_0 := blk_frozen BK192.out 0
                have hfz41_1 := blk_frozen BK192.out 1
                have hfz41_2 := blk_frozen BK192.out 2
                have hfz41_3 := blk_frozen BK192.out 3
                go_wp2
                repeat (go_quiet (fail); try go_wp2)
                go_ret
                exact ⟨by first | rfl | (simp [errW_none, errW_some] <;> rfl) | (simp [*, errW_none, errW_some] <;> rfl), by repeat (first | (with_reducible first | exact HB.out | apply below_alloc | apply pw_below_drewN | apply below_drew1 | refine below_set ?_ GE191.out | refine below_set ?_ GE192.out) | exact HB.out)⟩

end Go.Proofs.Ytjlcebgfknfelaa.QFnAvlRuns
