/- The machine's side of a law, as the kit's print writes it; of the functions that the print doesn't cover this session's own contracts stand in it: no condition. -/
import Derived.Test.YtdlnpmbnedmmnaaQFnRopeInsertJoinsx0
import Derived.Test.YtdlnpmbnedmmnaaQFnRopeInsertJoinsx1
namespace Go.Proofs.Ytdlnpmbnedmmnaa.QFnRopeInsertJoins
open Go.RowKit Go.Proofs.YtdlnpmbnedmmnaaW.PrintWords Go.Proofs.YtdlnpmbnedmmnaaW.PrintLast Go.Proofs.YtdlnpmbnedmmnaaW.PrintMore
attribute [local go_sem] max2_int min2_int max_two min_two max_three min_three max_four min_four   -- for this text's walks alone
set_option linter.unusedVariables false
set_option linter.unusedSimpArgs false

theorem Cut_away {base n c g : Nat} {ok : Nat → Prop} {W : World} {ad : Addr} {xs : List Int} {i : Int} (h : Kd.V (Kd.int .i64) 3 W base ok (.slice (some ad) n c) xs) (hok : ∀ k, ok k → k ≠ g) (p : (0 ≤ i) = True) (q : (i < (xs.length : Int)) = True) : (ad.add i.toNat).block ≠ g := by
  rw [add_block]
  rintro rfl
  obtain ⟨a1, e1, hx⟩ := Kd.at_int (Kd.V_reads' h).2.2 i (of_eq_true p) (of_eq_true q)
  cases e1
  have h2 := Kd.V_far (p := ad.add i.toNat) h (fun k hk => by rw [add_block]; exact hok k hk) (.slice none 0 0)
  obtain ⟨a2, e2, hx2⟩ := Kd.at_int (Kd.V_reads' h2).2.2 i (of_eq_true p) (of_eq_true q)
  cases e2
  rw [World.cell?_setCell_same W (ad.add i.toNat) (.slice none 0 0) hx] at hx2
  cases hx2

/-! ### spec_Cutting: function 25 -/
def spec_Cutting.j0 : Nat → List Int → Int → Bool → Int → Int → Int → List Int → Option (List Int × Int × List Int × List Int)
  | 0, _, _, _, _, _, _, _ => none
  | k + 1, x0, x7, x54, x118000, x118001, x118002, x118003 => if x54 = true then (some (x0, 0, x0, ([] : List Int))) else (if x7 = 5 then (some (x0, (x0.length : Int), ([] : List Int), ([] : List Int))) else (if x7 = 6 then (if 0 ≤ x118001 then (if x118001 ≤ (x0.length : Int) then ((spec_Both.f (x0.drop (x118001 : Int).toNat) (x0.take (x118001 : Int).toNat)).bind fun t164 => (some (t164, 0, ([] : List Int), ([] : List Int)))) else (none)) else (none)) else (if x7 = 7 then ((spec_Both.f x0 x118003).bind fun t167 => (some (t167, 0, ([] : List Int), ([] : List Int)))) else (if x7 = 8 then ((spec_Both.f x118003 x0).bind fun t170 => (some (t170, 0, ([] : List Int), ([] : List Int)))) else (if x7 = 9 then (if 0 ≤ x118001 then (if x118001 ≤ (x0.length : Int) then (some ((x0.take (x118001 : Int).toNat), 0, ([] : List Int), ([] : List Int))) else (none)) else (none)) else (if x7 = 10 then (if 0 ≤ x118001 then (if x118001 ≤ (x0.length : Int) then (some ((x0.drop (x118001 : Int).toNat), 0, ([] : List Int), ([] : List Int))) else (none)) else (none)) else (some (x0, 0, ([] : List Int), ([] : List Int)))))))))
def spec_Cutting.f (k : Nat) (l0 : List Int) (a1_0 : Int) (a1_1 : Int) (a1_2 : Int) (l1_3 : List Int) : Option (List Int × Int × List Int × List Int) := if a1_0 = 0 then (if 0 ≤ a1_1 then (if a1_1 ≤ (l0.length : Int) then ((spec_Both.f (l0.take (a1_1 : Int).toNat) l1_3).bind fun t124 => ((spec_Both.f t124 (l0.drop (a1_1 : Int).toNat)).bind fun t132 => (some (t132, 0, ([] : List Int), ([] : List Int))))) else (none)) else (none)) else (if a1_0 = 1 then (if 0 ≤ a1_1 then (if a1_1 ≤ (l0.length : Int) then (if 0 ≤ a1_2 then (if a1_2 ≤ (l0.length : Int) then ((spec_Both.f (l0.take (a1_1 : Int).toNat) (l0.drop (a1_2 : Int).toNat)).bind fun t145 => (some (t145, 0, ([] : List Int), ([] : List Int)))) else (none)) else (none)) else (none)) else (none)) else (if a1_0 = 2 then (if 0 ≤ a1_1 then (if a1_1 ≤ a1_2 then (if a1_2 ≤ (l0.length : Int) then (some (l0, 0, ((l0.take (a1_2 : Int).toNat).drop (a1_1 : Int).toNat), ([] : List Int))) else (none)) else (none)) else (none)) else (if a1_0 = 3 then (if 0 ≤ a1_1 then (if a1_1 < (l0.length : Int) then (some (l0, rd l0 a1_1, ([] : List Int), ([] : List Int))) else (none)) else (none)) else (if a1_0 = 4 then (spec_Cutting.j0 k l0 a1_0 (a1_0 == 4) a1_0 a1_1 a1_2 l1_3) else (spec_Cutting.j0 k l0 a1_0 (a1_0 == 11) a1_0 a1_1 a1_2 l1_3)))))
theorem spec_Cutting.mono_l : ∀ k, (∀ y0 y1 y2 y3 y4 y5 y6, LeO (spec_Cutting.j0 k y0 y1 y2 y3 y4 y5 y6) (spec_Cutting.j0 (k + 1) y0 y1 y2 y3 y4 y5 y6))
  | 0 => fun _ _ _ _ _ _ _ r h => by simp [spec_Cutting.j0] at h
  | k + 1 => by
    have ih0 := spec_Cutting.mono_l k
    · intro y0 y1 y2 y3 y4 y5 y6
      unfold spec_Cutting.j0
      repeat' first
      | (with_reducible exact ih0 _ _ _ _ _ _ _)
      | (with_reducible exact LeO.refl _)
      | (with_reducible exact LeO.none _)
      | (with_reducible refine LeO.ite ?_ ?_)
      | (with_reducible refine LeO.bind ?_ (fun _ => ?_))
      | exact ih0 _ _ _ _ _ _ _
      | exact LeO.none _
      | refine LeO.ite ?_ ?_
      | refine LeO.bind ?_ (fun _ => ?_)
theorem spec_Cutting.mono : ∀ a0 a1 a2 a3 a4 k, LeO (spec_Cutting.f k a0 a1 a2 a3 a4) (spec_Cutting.f (k + 1) a0 a1 a2 a3 a4) := by
  intro a0 a1 a2 a3 a4 k
  have ih0 := spec_Cutting.mono_l k
  unfold spec_Cutting.f
  repeat' first
      | (with_reducible exact ih0 _ _ _ _ _ _ _)
      | (with_reducible exact LeO.refl _)
      | (with_reducible exact LeO.none _)
      | (with_reducible refine LeO.ite ?_ ?_)
      | (with_reducible refine LeO.bind ?_ (fun _ => ?_))
      | exact ih0 _ _ _ _ _ _ _
      | exact LeO.none _
      | refine LeO.ite ?_ ?_
      | refine LeO.bind ?_ (fun _ => ?_)
def spec_Cutting.T3 : Bool × List (List Nat × List Nat) := (true, [([], []), ([], []), ([1], [1]), ([0, 2], [0, 2]), ([], []), ([4], [4]), ([3, 5], [3, 5]), ([], []), ([], []), ([8], [8]), ([7, 9], [7, 9]), ([6, 10, 6], [6, 10]), ([], []), ([11, 11, 0, 1, 2, 3, 4, 5, 6, 7, 8, 9, 10, 11], [11]), ([12, 13, 0, 1, 2, 3, 4, 5, 6, 7, 8, 9, 10, 11, 12, 13], [12])])
def spec_Cutting.B3 : List Nat := [0, 0, 2, 7, 0, 16, 63, 0, 0, 256, 896, 2047, 0, 4095, 16383]
theorem spec_Cutting.tab3 : rtab .any (opsOf Try.f25 3) = spec_Cutting.T3 := by kernel_rfl
theorem spec_Cutting.bits3 : waitsOk spec_Cutting.T3.2 spec_Cutting.B3 = true := by kernel_rfl
def spec_Cutting.T5 : Bool × List (List Nat × List Nat) := (true, [([], []), ([], []), ([1], [1]), ([0, 2], [0, 2]), ([], []), ([], []), ([5], [5]), ([4, 6], [4, 6]), ([3, 7], [3, 7]), ([], []), ([8, 8, 0, 1, 2, 3, 4, 5, 6, 7, 8], [8]), ([9, 10, 0, 1, 2, 3, 4, 5, 6, 7, 8, 9, 10], [9])])
def spec_Cutting.B5 : List Nat := [0, 0, 2, 7, 0, 0, 32, 112, 255, 0, 511, 2047]
theorem spec_Cutting.tab5 : rtab .any (opsOf Try.f25 5) = spec_Cutting.T5 := by kernel_rfl
theorem spec_Cutting.bits5 : waitsOk spec_Cutting.T5.2 spec_Cutting.B5 = true := by kernel_rfl
def spec_Cutting.T7 : Bool × List (List Nat × List Nat) := (true, [([], []), ([], []), ([], []), ([2], [2]), ([], []), ([4], [4]), ([1, 3, 5], [1, 3, 5]), ([6], [6]), ([0, 0], [0]), ([7, 8, 0, 1, 2, 3, 4, 5, 6, 7, 8], [7])])
def spec_Cutting.B7 : List Nat := [0, 0, 0, 4, 0, 16, 62, 126, 1, 511]
theorem spec_Cutting.tab7 : rtab .any (opsOf Try.f25 7) = spec_Cutting.T7 := by kernel_rfl
theorem spec_Cutting.bits7 : waitsOk spec_Cutting.T7.2 spec_Cutting.B7 = true := by kernel_rfl
def spec_Cutting.T9 : Bool × List (List Nat × List Nat) := (true, [([], []), ([], []), ([], []), ([2], [2]), ([1, 3], [1, 3]), ([4], [4]), ([5], [5]), ([0, 0], [0]), ([6, 7, 0, 1, 2, 3, 4, 5, 6, 7], [6])])
def spec_Cutting.B9 : List Nat := [0, 0, 0, 4, 14, 30, 62, 1, 255]
theorem spec_Cutting.tab9 : rtab .any (opsOf Try.f25 9) = spec_Cutting.T9 := by kernel_rfl
theorem spec_Cutting.bits9 : waitsOk spec_Cutting.T9.2 spec_Cutting.B9 = true := by kernel_rfl
def spec_Cutting.T16 : Bool × List (List Nat × List Nat) := (true, [([], []), ([], []), ([1], [1]), ([0, 2], [0, 2]), ([], []), ([], []), ([5], [5]), ([4, 6], [4, 6]), ([3, 7], [3, 7]), ([], []), ([8, 8, 0, 1, 2, 3, 4, 5, 6, 7, 8], [8]), ([9, 10, 0, 1, 2, 3, 4, 5, 6, 7, 8, 9, 10], [9])])
def spec_Cutting.B16 : List Nat := [0, 0, 2, 7, 0, 0, 32, 112, 255, 0, 511, 2047]
theorem spec_Cutting.tab16 : rtab .any (opsOf Try.f25 16) = spec_Cutting.T16 := by kernel_rfl
theorem spec_Cutting.bits16 : waitsOk spec_Cutting.T16.2 spec_Cutting.B16 = true := by kernel_rfl
set_option maxHeartbeats 8000000 in
set_option maxRecDepth 100000 in
theorem spec_Cutting.calls (k : Nat) (P0_ : Nat → Prop) (A0 : Option Addr) (c0 : Nat) (l0 : List Int) (a1_0 : Int) (a1_1 : Int) (a1_2 : Int) (A1_3 : Option Addr) (c1_3 : Nat) (l1_3 : List Int) (r1 : List Int) (r2 : Int) (r3 : List Int) (r4 : List Int) (w : World) (hs0 : Kd.V (Kd.int .i64) 3 w w.heap.size (fun k_ => P0_ k_) (.slice A0 l0.length c0) l0) (hr1_3 : Kd.C (Kd.int .i64) w A1_3 l1_3.length l1_3) (hc1_3 : l1_3.length ≤ c1_3) (h : spec_Cutting.f k l0 a1_0 a1_1 a1_2 l1_3 = some (r1, r2, r3, r4)) :
    Calls Try.prog 25 #[.slice A0 l0.length c0, .agg #[.int .i64 a1_0, .int .i64 a1_1, .int .i64 a1_2, .slice A1_3 l1_3.length c1_3]] w fun e w' => ∃ v0_ v2_ v3_ : Value, e = .returned (.tuple #[v0_, .agg #[.int .i64 r2, v2_, v3_]]) ∧ Kd.V (Kd.int .i64) 3 w' w.heap.size (fun k_ => (P0_ k_ ∨ w.heap.size ≤ k_) ∧ some k_ ≠ (v3_ : Value).ownBlock) v0_ r1 ∧ Kd.V (Kd.int .i64) 3 w' w.heap.size (fun k_ => (P0_ k_ ∨ w.heap.size ≤ k_) ∧ some k_ ≠ (v3_ : Value).ownBlock) v2_ r3 ∧ Kd.R (Kd.int .i64) 3 w' w.heap.size (fun k_ => (w.heap.size ≤ k_)) v3_ r4 ∧ Below w.heap.size w w' := by
  have hu38 := Try.underlying38
  have hu34 := Try.underlying34
  have HO0 := Aside0.mk (show Kd.V (Kd.int .i64) 3 w w.heap.size (fun k_ => (P0_ k_ ∨ w.heap.size ≤ k_)) (.slice A0 l0.length c0) l0 from Kd.V_mono hs0 (fun k_ hk => .inl hk))
  have HR1_3 := Aside0.mk hr1_3
  have HC1_3 := Aside0.mk hc1_3
  clear hr1_3 hc1_3
  have HB := Aside0.mk (Below.refl w.heap.size w)
  have H : (if a1_0 = 0 then (if 0 ≤ a1_1 then (if a1_1 ≤ (l0.length : Int) then ((spec_Both.f (l0.take (a1_1 : Int).toNat) l1_3).bind fun t124 => ((spec_Both.f t124 (l0.drop (a1_1 : Int).toNat)).bind fun t132 => (some (t132, 0, ([] : List Int), ([] : List Int))))) else (none)) else (none)) else (if a1_0 = 1 then (if 0 ≤ a1_1 then (if a1_1 ≤ (l0.length : Int) then (if 0 ≤ a1_2 then (if a1_2 ≤ (l0.length : Int) then ((spec_Both.f (l0.take (a1_1 : Int).toNat) (l0.drop (a1_2 : Int).toNat)).bind fun t145 => (some (t145, 0, ([] : List Int), ([] : List Int)))) else (none)) else (none)) else (none)) else (none)) else (if a1_0 = 2 then (if 0 ≤ a1_1 then (if a1_1 ≤ a1_2 then (if a1_2 ≤ (l0.length : Int) then (some (l0, 0, ((l0.take (a1_2 : Int).toNat).drop (a1_1 : Int).toNat), ([] : List Int))) else (none)) else (none)) else (none)) else (if a1_0 = 3 then (if 0 ≤ a1_1 then (if a1_1 < (l0.length : Int) then (some (l0, rd l0 a1_1, ([] : List Int), ([] : List Int))) else (none)) else (none)) else (if a1_0 = 4 then (spec_Cutting.j0 k l0 a1_0 (a1_0 == 4) a1_0 a1_1 a1_2 l1_3) else (spec_Cutting.j0 k l0 a1_0 (a1_0 == 11) a1_0 a1_1 a1_2 l1_3)))))) = some (r1, r2, r3, r4) := h
  clear h
  by_cases c3 : a1_0 = 0
  · rw [if_pos c3] at H
    have c3b0 : (a1_0 == 0) = true := beq_iff_eq.mpr c3
    have c3b1 : (a1_0 != 0) = false := bne_eq_false_iff_eq.mpr c3
    clear c3
    by_cases c4 : 0 ≤ a1_1
    · rw [if_pos c4] at H
      have c4b0 := eq_true c4
      have c4b1 : decide (0 ≤ a1_1) = true := decide_eq_true c4
      clear c4
      by_cases c5 : a1_1 ≤ (l0.length : Int)
      · rw [if_pos c5] at H
        have c5b0 := eq_true c5
        have c5b1 : decide (a1_1 ≤ (l0.length : Int)) = true := decide_eq_true c5
        clear c5
        obtain ⟨y119, hy119⟩ : ∃ y_ : List Int, y_ = (l0.take (a1_1 : Int).toNat) := ⟨_, rfl⟩
        replace H : ((spec_Both.f y119 l1_3).bind fun t124 => ((spec_Both.f t124 (l0.drop (a1_1 : Int).toNat)).bind fun t132 => (some (t132, 0, ([] : List Int), ([] : List Int))))) = some (r1, r2, r3, r4) := by first | (rw [hy119]; with_reducible exact H) | (have H2_ := (Option.bind_some _ _).symm.trans H; rw [hy119]; with_reducible exact H2_) | (have H2_ := (Option.bind_some _ _).symm.trans H; with_reducible exact H2_) | with_reducible exact H | (rw [hy119]; exact H) | exact H
        have Ny119 := Aside0.mk hy119
        clear hy119
        replace H := Option.bind_eq_some_iff.mp H
        obtain ⟨t124, A60, H⟩ := H
        replace H : ((spec_Both.f t124 (l0.drop (a1_1 : Int).toNat)).bind fun t132 => (some (t132, 0, ([] : List Int), ([] : List Int)))) = some (r1, r2, r3, r4) := H
        have A6 := Aside0.mk A60
        clear A60
        have c7b0 := eq_true (of_decide_eq_true (by first | (with_reducible assumption) | assumption) : 0 ≤ a1_1)
        have c8b0 := eq_true (of_decide_eq_true (by first | (with_reducible assumption) | assumption) : a1_1 ≤ (l0.length : Int))
        obtain ⟨y127, hy127⟩ : ∃ y_ : List Int, y_ = (l0.drop (a1_1 : Int).toNat) := ⟨_, rfl⟩
        replace H : ((spec_Both.f t124 y127).bind fun t132 => (some (t132, 0, ([] : List Int), ([] : List Int)))) = some (r1, r2, r3, r4) := by first | (rw [hy127]; with_reducible exact H) | (have H2_ := (Option.bind_some _ _).symm.trans H; rw [hy127]; with_reducible exact H2_) | (have H2_ := (Option.bind_some _ _).symm.trans H; with_reducible exact H2_) | with_reducible exact H | (rw [hy127]; exact H) | exact H
        have Ny127 := Aside0.mk hy127
        clear hy127
        replace H := Option.bind_eq_some_iff.mp H
        obtain ⟨t132, A90, H⟩ := H
        replace H : (some (t132, 0, ([] : List Int), ([] : List Int))) = some (r1, r2, r3, r4) := H
        have A9 := Aside0.mk A90
        clear A90
        simp only [Option.some.injEq, Prod.mk.injEq] at H
        obtain ⟨rfl, rfl, rfl, rfl⟩ := H
        go_enter Try.func25, Try.ntmps25
        try go_wp2_with (first | ((with_reducible refine gate_dst (N := 3) rfl ?_); refine box_event ?hg (N := 3) ?hd (cs := #[.int .i64 a1_0, .int .i64 a1_1, .int .i64 a1_2, .slice A1_3 l1_3.length c1_3]) (t := 38) ?hr ?_; (case hd => rfl); (case hg => rfl); (case hr => first | (go_simp; done) | (go_simp; rfl)); intro gb117 hg w10 hbox hb; have n0_ := Aside0.mk (Kd.V_below (Kd.V_elderB (by (with_reducible repeat (first | apply Kd.V_alloc | apply Kd.V_drewN | apply Kd.V_drew)); exact HO0.out) gb117 (Nat.le_of_eq hg.symm)) hb); have n1_ := Aside0.mk (below_step (by repeat (first | (with_reducible first | exact HB.out | apply below_alloc | apply pw_below_drewN | apply below_drew1) | exact HB.out)) hb); have n2_ := Aside0.mk (hbox); have n3_ := Aside0.mk ((by rw [hg]; exact (below_size (by repeat (first | (with_reducible first | exact HB.out | apply below_alloc | apply pw_below_drewN | apply below_drew1) | exact HB.out))) : w.heap.size ≤ gb117)); have n4_ := Aside0.mk ((by rw [hg]; exact (below_size (by repeat (first | (with_reducible first | exact HB.out | apply below_alloc | apply pw_below_drewN | apply below_drew1) | exact HB.out))) : w.heap.size ≤ gb117)); clear HO0; clear HB; have HO0 := n0_; have HB := n1_; have BK117 := n2_; have GW117 := n3_; have GE117 := n4_; clear n0_ n1_ n2_ n3_ n4_; clear hb hbox hg) | ((with_reducible refine gate_dst (N := 5) rfl ?_); refine box_event ?hg (N := 5) ?hd (cs := #[.int .i64 0, .slice none 0 0, .slice none 0 0]) (t := 34) ?hr ?_; (case hd => rfl); (case hg => rfl); (case hr => first | (go_simp; done) | (go_simp; rfl)); intro gb118 hg w11 hbox hb; have n0_ := Aside0.mk (Kd.V_below (Kd.V_elderB (by (with_reducible repeat (first | apply Kd.V_alloc | apply Kd.V_drewN | apply Kd.V_drew)); exact HO0.out) gb118 (Nat.le_of_eq hg.symm)) hb); have n1_ := Aside0.mk (blk_below (g := gb117) (o := .cells #[.int .i64 a1_0, .int .i64 a1_1, .int .i64 a1_2, .slice A1_3 l1_3.length c1_3] 38 (0, 0)) (by (with_reducible repeat (first | refine blk_drewN ?_ _ | refine blk_drew ?_ | refine blk_alloc ?_ _)); exact BK117.out) hb); have n2_ := Aside0.mk (below_step (by repeat (first | (with_reducible first | exact HB.out | apply below_alloc | apply pw_below_drewN | apply below_drew1 | refine below_set ?_ GE117.out) | exact HB.out)) hb); have n3_ := Aside0.mk (hbox); have n4_ := Aside0.mk ((by rw [hg]; exact (below_size (by repeat (first | (with_reducible first | exact HB.out | apply below_alloc | apply pw_below_drewN | apply below_drew1 | refine below_set ?_ GE117.out) | exact HB.out))) : w.heap.size ≤ gb118)); have n5_ := Aside0.mk ((by rw [hg]; exact (below_size (by repeat (first | (with_reducible first | exact HB.out | apply below_alloc | apply pw_below_drewN | apply below_drew1 | refine below_set ?_ GE117.out) | exact HB.out))) : w.heap.size ≤ gb118)); have n6_ := Aside0.mk ((by rw [hg]; exact Nat.ne_of_lt (blk_lt (g := gb117) (o := .cells #[.int .i64 a1_0, .int .i64 a1_1, .int .i64 a1_2, .slice A1_3 l1_3.length c1_3] 38 (0, 0)) (by (with_reducible repeat (first | refine blk_drewN ?_ _ | refine blk_drew ?_ | refine blk_alloc ?_ _)); exact BK117.out)) : gb117 ≠ gb118)); have n7_ := Aside0.mk ((by rw [hg]; exact Nat.ne_of_gt (blk_lt (g := gb117) (o := .cells #[.int .i64 a1_0, .int .i64 a1_1, .int .i64 a1_2, .slice A1_3 l1_3.length c1_3] 38 (0, 0)) (by (with_reducible repeat (first | refine blk_drewN ?_ _ | refine blk_drew ?_ | refine blk_alloc ?_ _)); exact BK117.out)) : gb118 ≠ gb117)); clear HO0; clear BK117; clear HB; have HO0 := n0_; have BK117 := n1_; have HB := n2_; have BK118 := n3_; have GW118 := n4_; have GE118 := n5_; have NB117_118 := n6_; have NB118_117 := n7_; clear n0_ n1_ n2_ n3_ n4_ n5_ n6_ n7_; clear hb hbox hg; have hnb12 := NB117_118.out; have hnc12 := NB118_117.out; have hcz13_0 : w11.cell? ⟨gb117, 0, none⟩ = some (.int .i64 a1_0) := (blk_cell BK117.out 0).trans rfl; have hcz13_1 : w11.cell? ⟨gb117, 1, none⟩ = some (.int .i64 a1_1) := (blk_cell BK117.out 1).trans rfl; have hcz13_2 : w11.cell? ⟨gb117, 2, none⟩ = some (.int .i64 a1_2) := (blk_cell BK117.out 2).trans rfl; have hcz13_3 : w11.cell? ⟨gb117, 3, none⟩ = some (.slice A1_3 l1_3.length c1_3) := (blk_cell BK117.out 3).trans rfl; have hfz13_0 := blk_frozen BK117.out 0; have hfz13_1 := blk_frozen BK117.out 1; have hfz13_2 := blk_frozen BK117.out 2; have hfz13_3 := blk_frozen BK117.out 3))
        have n0_ := Aside0.mk (Kd.V_drew HO0.out)
        have n1_ := Aside0.mk (blk_drew BK117.out)
        have n2_ := Aside0.mk (blk_drew BK118.out)
        have n3_ := Aside0.mk (below_drew1 HB.out)
        clear HO0
        clear BK117
        clear BK118
        clear HB
        have HO0 := n0_
        have BK117 := n1_
        have BK118 := n2_
        have HB := n3_
        clear n0_ n1_ n2_ n3_
        have q15 : (a1_1 : Int) ≤ ((l0.length : Int) : Int) := of_decide_eq_true (by first | (with_reducible assumption) | assumption)
        obtain ⟨i015, hi015, _, hsz15, _⟩ := info_parts info3
        have hroom15 : l0.length ≤ c0 := (Kd.V_reads' HO0.out).2.1
        have hC15 : Kd.F (Kd.int .i64) _ _ A0 l0.length l0 := (Kd.V_at (base := w.heap.size) HO0.out).2.2
        have hcut15 := cut_to (P := Try.prog) 24 3 .i64 Try.underlying24 hi015 A0 l0.length c0 a1_1 (of_decide_eq_true (by first | (with_reducible assumption) | assumption)) q15 hroom15
        have hr15 := Kd.F_take (m := (a1_1 : Int).toNat) hC15 (by omega)
        have hy15 : y119.length = (a1_1 : Int).toNat := (by rw [Ny119.out, List.length_take]; omega)
        rw [← Ny119.out] at hr15
        rw [← hy15] at hcut15
        have HO123 := Aside0.mk (show Kd.V (Kd.int .i64) 3 _ w.heap.size _ (.slice A0 y119.length c0) y119 from Kd.V_mk (by omega) hr15)
        have HC123 := Aside0.mk (show y119.length ≤ c0 from by omega)
        clear hr15 hC15 hroom15 hi015 hsz15
        have KY15 := Aside0.mk hy15
        clear hy15
        replace q15 := eq_true q15
        have q16 : (a1_1 : Int) ≤ ((l0.length : Int) : Int) := of_decide_eq_true (by first | (with_reducible assumption) | assumption)
        obtain ⟨i016, hi016, _, hsz16, _⟩ := info_parts info3
        have hroom16 : l0.length ≤ c0 := (Kd.V_reads' HO0.out).2.1
        have hC16 : Kd.F (Kd.int .i64) _ _ A0 l0.length l0 := (Kd.V_at (base := w.heap.size) HO0.out).2.2
        have q016 : (0 : Int) ≤ (a1_1 : Int) := of_decide_eq_true (by first | (with_reducible assumption) | assumption)
        have hcut16 := cut_from (P := Try.prog) 24 3 .i64 Try.underlying24 hi016 1 hsz16 A0 l0.length c0 a1_1 q016 q16
        have hr16 := Kd.F_cut (m := (a1_1 : Int).toNat) (c := c0) hC16 (by omega) hroom16
        obtain ⟨A16, hA16⟩ : ∃ A1, A1 = (if c0 = (a1_1 : Int).toNat then A0 else (A0 : Option Addr).map (·.add ((a1_1 : Int).toNat * 1))) := ⟨_, rfl⟩
        obtain ⟨c16, hc16⟩ : ∃ c1, c1 = c0 - (a1_1 : Int).toNat := ⟨_, rfl⟩
        have hy16 : y127.length = l0.length - (a1_1 : Int).toNat := (by rw [Ny127.out, List.length_drop] <;> omega)
        rw [show (l0).drop (a1_1 : Int).toNat = y127 from Ny127.out.symm] at hr16
        replace hr16 : Kd.F (Kd.int .i64) _ _ A16 y127.length y127 := (by rw [hA16]; exact hr16)
        rw [← hy16, ← hA16, ← hc16] at hcut16
        have HO131 := Aside0.mk (show Kd.V (Kd.int .i64) 3 _ w.heap.size _ (.slice A16 y127.length c16) y127 from Kd.V_mk (by rw [hy16, hc16]; exact Nat.sub_le_sub_right hroom16 _) hr16)
        have HC131 := Aside0.mk (show y127.length ≤ c16 from by rw [hy16, hc16]; exact Nat.sub_le_sub_right hroom16 _)
        clear hr16 hC16 hroom16 hi016 hsz16 hc16
        have KY16 := Aside0.mk hy16
        have KA16 := Aside0.mk hA16
        clear hy16 hA16
        replace q16 := eq_true q16
        refine start_ (n := 15) (S := fun w' => w'.cell? ⟨gb117, 0, none⟩ = some (.int .i64 a1_0) ∧ w'.cell? ⟨gb117, 1, none⟩ = some (.int .i64 a1_1) ∧ w'.cell? ⟨gb117, 2, none⟩ = some (.int .i64 a1_2) ∧ w'.cell? ⟨gb117, 3, none⟩ = some (.slice A1_3 l1_3.length c1_3)) (ds := []) #[false, false, false, false, false, false, false, false, false, false, false, false, false, false, false] (by kernel_rfl) rfl rfl ⟨(blk_cell BK117.out 0).trans rfl, (blk_cell BK117.out 1).trans rfl, (blk_cell BK117.out 2).trans rfl, (blk_cell BK117.out 3).trans rfl⟩ (fun hHeld => ?_); refine with_tabW spec_Cutting.tab3 spec_Cutting.bits3 (fun HT_ HW_ => ?_)
        generalize w11.drew = w14 at HO0 BK117 BK118 HB HO123 HO131 hHeld ⊢
        refine pure_ (i := 0) (N := some 10) (v := ?_) (a' := ?_) #[true, false, false, false, false, false, false, false, false, false, false, false, false, false, false] rfl rfl (any_of HT_.out (by kernel_rfl)) (fun _ _ _ h => h) (Or.inl ⟨by rfl, ?_⟩) ?_ ?_
        rotate_left
        · intro w'
          go_simp
          with_reducible rfl
        rotate_left
        · simp only [Act.put, List.setIfInBounds_toArray, List.set_cons_zero, List.set_cons_succ, i64_w, i32_w]
          rfl
        refine pure_ (i := 1) (N := some 11) (v := ?_) (a' := ?_) #[true, true, false, false, false, false, false, false, false, false, false, false, false, false, false] rfl rfl (any_of HT_.out (by kernel_rfl)) (fun _ _ _ h => h) (Or.inl ⟨by rfl, ?_⟩) ?_ ?_
        rotate_left
        · intro w'
          go_simp
          with_reducible rfl
        rotate_left
        · simp only [Act.put, List.setIfInBounds_toArray, List.set_cons_zero, List.set_cons_succ, i64_w, i32_w]
          rfl
        refine pure_ (i := 4) (N := some 14) (v := ?_) (a' := ?_) #[true, true, false, false, true, false, false, false, false, false, false, false, false, false, false] rfl rfl (any_of HT_.out (by kernel_rfl)) (fun _ _ _ h => h) (Or.inl ⟨by rfl, ?_⟩) ?_ ?_
        rotate_left
        · intro w'
          go_simp
          with_reducible rfl
        rotate_left
        · simp only [Act.put, List.setIfInBounds_toArray, List.set_cons_zero, List.set_cons_succ, i64_w, i32_w]
          rfl
        refine pure_ (i := 7) (N := some 17) (v := ?_) (a' := ?_) #[true, true, false, false, true, false, false, true, false, false, false, false, false, false, false] rfl rfl (any_of HT_.out (by kernel_rfl)) (fun _ _ _ h => h) (Or.inl ⟨by rfl, ?_⟩) ?_ ?_
        rotate_left
        · intro w'
          go_simp
          with_reducible rfl
        rotate_left
        · simp only [Act.put, List.setIfInBounds_toArray, List.set_cons_zero, List.set_cons_succ, i64_w, i32_w]
          rfl
        refine pure_ (i := 8) (N := some 18) (v := ?_) (a' := ?_) #[true, true, false, false, true, false, false, true, true, false, false, false, false, false, false] rfl rfl (any_of HT_.out (by kernel_rfl)) (fun _ _ _ h => h) (Or.inl ⟨by rfl, ?_⟩) ?_ ?_
        rotate_left
        · intro w'
          go_simp
          with_reducible rfl
        rotate_left
        · simp only [Act.put, List.setIfInBounds_toArray, List.set_cons_zero, List.set_cons_succ, i64_w, i32_w]
          rfl
        refine pure_ (i := 12) (N := some 22) (v := ?_) (a' := ?_) #[true, true, false, false, true, false, false, true, true, false, false, false, true, false, false] rfl rfl (any_of HT_.out (by kernel_rfl)) (fun _ _ _ h => h) (Or.inl ⟨by rfl, ?_⟩) ?_ ?_
        rotate_left
        · intro w'
          go_simp
          with_reducible rfl
        rotate_left
        · simp only [Act.put, List.setIfInBounds_toArray, List.set_cons_zero, List.set_cons_succ, i64_w, i32_w]
          rfl
        refine take_ (i := 2) (N := some 12) (v := ?_) (a' := ?_) #[true, true, true, false, true, false, false, true, true, false, false, false, true, false, false] rfl rfl (take_ofW HT_.out HW_.out (by kernel_rfl)) (fun _ _ _ h => h) (Or.inl ⟨by rfl, ?_⟩) hHeld ?_ ?_
        rotate_left
        · rintro w' ⟨s0, s1, s2, s3⟩
          go_simp
          with_reducible rfl
        rotate_left
        · simp only [Act.put, List.setIfInBounds_toArray, List.set_cons_zero, List.set_cons_succ, i64_w, i32_w]
          rfl
        refine pure_ (i := 3) (N := some 13) (v := ?_) (a' := ?_) #[true, true, true, true, true, false, false, true, true, false, false, false, true, false, false] rfl rfl (any_of HT_.out (by kernel_rfl)) (fun _ _ _ h => h) (Or.inl ⟨by rfl, ?_⟩) ?_ ?_
        rotate_left
        · intro w'
          go_simp
          with_reducible rfl
        rotate_left
        · simp only [Act.put, List.setIfInBounds_toArray, List.set_cons_zero, List.set_cons_succ, i64_w, i32_w]
          rfl
        refine take_ (i := 5) (N := some 15) (v := ?_) (a' := ?_) #[true, true, true, true, true, true, false, true, true, false, false, false, true, false, false] rfl rfl (take_ofW HT_.out HW_.out (by kernel_rfl)) (fun _ _ _ h => h) (Or.inl ⟨by rfl, ?_⟩) hHeld ?_ ?_
        rotate_left
        · rintro w' ⟨s0, s1, s2, s3⟩
          go_simp
          with_reducible rfl
        rotate_left
        · simp only [Act.put, List.setIfInBounds_toArray, List.set_cons_zero, List.set_cons_succ, i64_w, i32_w]
          rfl
        refine take_ (i := 9) (N := some 19) (v := ?_) (a' := ?_) #[true, true, true, true, true, true, false, true, true, true, false, false, true, false, false] rfl rfl (take_ofW HT_.out HW_.out (by kernel_rfl)) (fun _ _ _ h => h) (Or.inl ⟨by rfl, ?_⟩) hHeld ?_ ?_
        rotate_left
        · rintro w' ⟨s0, s1, s2, s3⟩
          go_simp
          with_reducible rfl
        rotate_left
        · simp only [Act.put, List.setIfInBounds_toArray, List.set_cons_zero, List.set_cons_succ, i64_w, i32_w]
          rfl
        refine pure_ (i := 10) (N := some 20) (v := ?_) (a' := ?_) #[true, true, true, true, true, true, false, true, true, true, true, false, true, false, false] rfl rfl (any_of HT_.out (by kernel_rfl)) (fun _ _ _ h => h) (Or.inl ⟨by rfl, ?_⟩) ?_ ?_
        rotate_left
        · intro w'
          go_simp
          with_reducible rfl
        rotate_left
        · simp only [Act.put, List.setIfInBounds_toArray, List.set_cons_zero, List.set_cons_succ, i64_w, i32_w]
          rfl
        refine one_ (i := 6) (N := some 16) #[true, true, true, true, true, true, true, true, true, true, true, false, true, false, false] rfl rfl (one_of HT_.out (by kernel_rfl)) (by decide) (fun K hK => ?_)
        refine goes_ Try.func9 (by kernel_rfl) rfl #[.slice A0 y119.length c0, .slice A1_3 l1_3.length c1_3] (by rfl) rfl rfl (by (try simp only [List.map_toArray, List.map_cons, List.map_nil]); first | done | rfl | (simp only [List.length_drop, List.length_take]; rfl)) ?_
        with_reducible refine (spec_Both.calls _ _ y119 _ _ l1_3 t124 _ ?side1 ?side2 ?side3 ?side4 A6.out).mono ?_
        (case side1 => repeat (first | exact (Kd.V_reads' HO123.out).2.2 | (with_reducible refine Kd.C_alloc ?_ _) | (with_reducible refine Kd.C_drewN ?_ _) | (with_reducible refine Kd.C_drew ?_)))
        (case side2 => exact (Kd.V_reads' HO123.out).2.1)
        (case side3 => repeat (first | exact (Kd.C_below HR1_3.out HB.out) | (with_reducible refine Kd.C_alloc ?_ _) | (with_reducible refine Kd.C_drewN ?_ _) | (with_reducible refine Kd.C_drew ?_)))
        (case side4 => exact HC1_3.out)
        rintro e w17 ⟨v125, rfl, ho0, hb⟩
        refine ⟨_, rfl, ?_⟩
        have n0_ := Aside0.mk (Kd.V_elder' (by (with_reducible repeat (first | apply Kd.V_alloc | apply Kd.V_drewN | apply Kd.V_drew)); exact HO0.out) (Kd.R_base ho0) hb)
        have n1_ := Aside0.mk (Kd.V_elder' (by (with_reducible repeat (first | apply Kd.V_alloc | apply Kd.V_drewN | apply Kd.V_drew)); exact HO123.out) (Kd.R_base ho0) hb)
        have n2_ := Aside0.mk (Kd.V_elder' (by (with_reducible repeat (first | apply Kd.V_alloc | apply Kd.V_drewN | apply Kd.V_drew)); exact HO131.out) (Kd.R_base ho0) hb)
        have n3_ := Aside0.mk (Kd.R_lower (Kd.R_newM (M := fun k_ => (w.heap.size ≤ k_)) ho0 (below_size (by repeat (first | (with_reducible first | exact HB.out | apply below_alloc | apply pw_below_drewN | apply below_drew1 | refine below_set ?_ GE117.out | refine below_set ?_ GE118.out) | exact HB.out))) (fun k_ h_ => h_)) (below_size (by repeat (first | (with_reducible first | exact HB.out | apply below_alloc | apply pw_below_drewN | apply below_drew1 | refine below_set ?_ GE117.out | refine below_set ?_ GE118.out) | exact HB.out))))
        have n4_ := Aside0.mk (blk_below (g := gb117) (o := .cells #[.int .i64 a1_0, .int .i64 a1_1, .int .i64 a1_2, .slice A1_3 l1_3.length c1_3] 38 (0, 0)) (by (with_reducible repeat (first | refine blk_drewN ?_ _ | refine blk_drew ?_ | refine blk_alloc ?_ _)); exact BK117.out) hb)
        have n5_ := Aside0.mk (blk_below (g := gb118) (o := .cells #[.int .i64 0, .slice none 0 0, .slice none 0 0] 34 (0, 0)) (by (with_reducible repeat (first | refine blk_drewN ?_ _ | refine blk_drew ?_ | refine blk_alloc ?_ _)); exact BK118.out) hb)
        have n6_ := Aside0.mk (below_step (by repeat (first | (with_reducible first | exact HB.out | apply below_alloc | apply pw_below_drewN | apply below_drew1 | refine below_set ?_ GE117.out | refine below_set ?_ GE118.out) | exact HB.out)) hb)
        clear HO0
        clear HO123
        clear HO131
        clear BK117
        clear BK118
        clear HB
        have HO0 := n0_
        have HO123 := n1_
        have HO131 := n2_
        have HO126 := n3_
        have BK117 := n4_
        have BK118 := n5_
        have HB := n6_
        clear n0_ n1_ n2_ n3_ n4_ n5_ n6_
        (try clear hb)
        (try clear hb2)
        (try clear hk)
        (try clear hi)
        (try clear ho0)
        obtain ⟨Ao18, co18, eo18⟩ := Kd.R_slice HO126.out
        (first | subst eo18 | (injection eo18 with f1_ f2_ f3_; have f4_ := f1_.symm; have f5_ := f3_.symm; clear f1_ f2_ f3_; subst f4_; subst f5_))
        refine hK.out _ _ ⟨(blk_cell BK117.out 0).trans rfl, (blk_cell BK117.out 1).trans rfl, (blk_cell BK117.out 2).trans rfl, (blk_cell BK117.out 3).trans rfl⟩ (fun hHeld => ?_)
        clear hK K
        refine norm_ (a' := ?_) ?_ ?_
        rotate_left
        · show Act.put _ (some 16) _ = _
          simp only [Act.put, List.setIfInBounds_toArray, List.set_cons_zero, List.set_cons_succ, i64_w, i32_w]
          rfl
        refine one_ (i := 11) (N := some 21) #[true, true, true, true, true, true, true, true, true, true, true, true, true, false, false] rfl rfl (one_of HT_.out (by kernel_rfl)) (by decide) (fun K hK => ?_)
        refine goes_ Try.func9 (by kernel_rfl) rfl #[.slice Ao18 t124.length co18, .slice A16 y127.length c16] (by rfl) rfl rfl (by (try simp only [List.map_toArray, List.map_cons, List.map_nil]); first | done | rfl | (simp only [List.length_drop, List.length_take]; rfl)) ?_
        with_reducible refine (spec_Both.calls _ _ t124 _ _ y127 t132 _ ?side1 ?side2 ?side3 ?side4 A9.out).mono ?_
        (case side1 => repeat (first | exact (Kd.R_reads' HO126.out).2.2 | (with_reducible refine Kd.C_alloc ?_ _) | (with_reducible refine Kd.C_drewN ?_ _) | (with_reducible refine Kd.C_drew ?_)))
        (case side2 => exact (Kd.R_reads' HO126.out).2.1)
        (case side3 => repeat (first | exact (Kd.V_reads' HO131.out).2.2 | (with_reducible refine Kd.C_alloc ?_ _) | (with_reducible refine Kd.C_drewN ?_ _) | (with_reducible refine Kd.C_drew ?_)))
        (case side4 => exact (Kd.V_reads' HO131.out).2.1)
        rintro e w19 ⟨v133, rfl, ho0, hb⟩
        refine ⟨_, rfl, ?_⟩
        have n0_ := Aside0.mk (Kd.V_elder' (by (with_reducible repeat (first | apply Kd.V_alloc | apply Kd.V_drewN | apply Kd.V_drew)); exact HO0.out) (Kd.R_base ho0) hb)
        have n1_ := Aside0.mk (Kd.V_elder' (by (with_reducible repeat (first | apply Kd.V_alloc | apply Kd.V_drewN | apply Kd.V_drew)); exact HO123.out) (Kd.R_base ho0) hb)
        have n2_ := Aside0.mk (Kd.V_elder' (by (with_reducible repeat (first | apply Kd.V_alloc | apply Kd.V_drewN | apply Kd.V_drew)); exact HO131.out) (Kd.R_base ho0) hb)
        have n3_ := Aside0.mk (Kd.R_elder' (by (with_reducible repeat (first | apply Kd.R_alloc | apply Kd.R_drewN | apply Kd.R_drew)); exact HO126.out) (Kd.R_base ho0) hb)
        have n4_ := Aside0.mk (Kd.R_lower (Kd.R_new' (Kd.R_newM (M := fun k_ => (w.heap.size ≤ k_)) ho0 (below_size (by repeat (first | (with_reducible first | exact HB.out | apply below_alloc | apply pw_below_drewN | apply below_drew1 | refine below_set ?_ GE117.out | refine below_set ?_ GE118.out) | exact HB.out))) (fun k_ h_ => h_)) (Kd.R_lt (by (with_reducible repeat (first | apply Kd.R_alloc | apply Kd.R_drewN | apply Kd.R_drew)); exact HO126.out))) (below_size (by repeat (first | (with_reducible first | exact HB.out | apply below_alloc | apply pw_below_drewN | apply below_drew1 | refine below_set ?_ GE117.out | refine below_set ?_ GE118.out) | exact HB.out))))
        have n5_ := Aside0.mk (blk_below (g := gb117) (o := .cells #[.int .i64 a1_0, .int .i64 a1_1, .int .i64 a1_2, .slice A1_3 l1_3.length c1_3] 38 (0, 0)) (by (with_reducible repeat (first | refine blk_drewN ?_ _ | refine blk_drew ?_ | refine blk_alloc ?_ _)); exact BK117.out) hb)
        have n6_ := Aside0.mk (blk_below (g := gb118) (o := .cells #[.int .i64 0, .slice none 0 0, .slice none 0 0] 34 (0, 0)) (by (with_reducible repeat (first | refine blk_drewN ?_ _ | refine blk_drew ?_ | refine blk_alloc ?_ _)); exact BK118.out) hb)
        have n7_ := Aside0.mk (below_step (by repeat (first | (with_reducible first | exact HB.out | apply below_alloc | apply pw_below_drewN | apply below_drew1 | refine below_set ?_ GE117.out | refine below_set ?_ GE118.out) | exact HB.out)) hb)
        clear HO0
        clear HO123
        clear HO131
        clear HO126
        clear BK117
        clear BK118
        clear HB
        have HO0 := n0_
        have HO123 := n1_
        have HO131 := n2_
        have HO126 := n3_
        have HO134 := n4_
        have BK117 := n5_
        have BK118 := n6_
        have HB := n7_
        clear n0_ n1_ n2_ n3_ n4_ n5_ n6_ n7_
        (try clear hb)
        (try clear hb2)
        (try clear hk)
        (try clear hi)
        (try clear ho0)
        refine hK.out _ _ ⟨(blk_cell BK117.out 0).trans rfl, (blk_cell BK117.out 1).trans rfl, (blk_cell BK117.out 2).trans rfl, (blk_cell BK117.out 3).trans rfl⟩ (fun hHeld => ?_)
        clear hK K
        refine norm_ (a' := ?_) ?_ ?_
        rotate_left
        · show Act.put _ (some 21) _ = _
          simp only [Act.put, List.setIfInBounds_toArray, List.set_cons_zero, List.set_cons_succ, i64_w, i32_w]
          rfl
        refine pure_ (i := 13) (N := some 4) (v := ?_) (a' := ?_) #[true, true, true, true, true, true, true, true, true, true, true, true, true, true, false] rfl rfl (any_of HT_.out (by kernel_rfl)) (fun _ _ _ h => h) (Or.inl ⟨by rfl, ?_⟩) ?_ ?_
        rotate_left
        · intro w'
          go_simp
          with_reducible rfl
        rotate_left
        · simp only [Act.put, List.setIfInBounds_toArray, List.set_cons_zero, List.set_cons_succ, i64_w, i32_w]
          rfl
        refine one_ (i := 14) (N := none) #[true, true, true, true, true, true, true, true, true, true, true, true, true, true, true] rfl rfl (one_of HT_.out (by kernel_rfl)) (by decide) (fun K hK => ?_)
        have hs20 : w19.cell? ⟨gb118, 0, none⟩ = some (.int .i64 0) := (blk_cell BK118.out 0).trans rfl
        have hfs20 := blk_frozen BK118.out 0
        have hns20_0 := NB117_118.out
        have hms20_0 := NB118_117.out
        have hs21 : w19.cell? ⟨gb118, 1, none⟩ = some (.slice none 0 0) := (blk_cell BK118.out 1).trans rfl
        have hfs21 := blk_frozen BK118.out 1
        have hns21_0 := NB117_118.out
        have hms21_0 := NB118_117.out
        have hs22 : w19.cell? ⟨gb118, 2, none⟩ = some (.slice none 0 0) := (blk_cell BK118.out 2).trans rfl
        have hfs22 := blk_frozen BK118.out 2
        have hns22_0 := NB117_118.out
        have hms22_0 := NB118_117.out
        refine skip_ (w1 := ?_) (by rfl) rfl ?_ ?_
        rotate_left
        · go_simp
          rfl
        refine hK.out _ _ ⟨((cell_far (p := ⟨gb118, _, none⟩) NB117_118.out _).trans (((cell_far (p := ⟨gb118, _, none⟩) NB117_118.out _).trans (((cell_far (p := ⟨gb118, _, none⟩) NB117_118.out _).trans (hHeld.1)))))), ((cell_far (p := ⟨gb118, _, none⟩) NB117_118.out _).trans (((cell_far (p := ⟨gb118, _, none⟩) NB117_118.out _).trans (((cell_far (p := ⟨gb118, _, none⟩) NB117_118.out _).trans (hHeld.2.1)))))), ((cell_far (p := ⟨gb118, _, none⟩) NB117_118.out _).trans (((cell_far (p := ⟨gb118, _, none⟩) NB117_118.out _).trans (((cell_far (p := ⟨gb118, _, none⟩) NB117_118.out _).trans (hHeld.2.2.1)))))), ((cell_far (p := ⟨gb118, _, none⟩) NB117_118.out _).trans (((cell_far (p := ⟨gb118, _, none⟩) NB117_118.out _).trans (((cell_far (p := ⟨gb118, _, none⟩) NB117_118.out _).trans (hHeld.2.2.2))))))⟩ (fun hHeld => ?_)
        clear hK K
        refine done_ (done_of HT_.out (by kernel_rfl)) ?_
        try go_wp2
        refine bodyPost_ret (results_tc rfl _ _ gb118 34 #[.int .i64 0, .slice none 0 0, .slice none 0 0] (0, 0) _ rfl (by (with_reducible repeat (first | refine blk_drewN ?_ _ | refine blk_drew ?_ | refine blk_alloc ?_ _)); refine blk_put (cs := #[.int .i64 0, .slice none 0 0, .slice none 0 0]) ?_ 2 _ rfl; (with_reducible repeat (first | refine blk_drewN ?_ _ | refine blk_drew ?_ | refine blk_alloc ?_ _)); refine blk_put (cs := #[.int .i64 0, .slice none 0 0, .slice none 0 0]) ?_ 1 _ rfl; (with_reducible repeat (first | refine blk_drewN ?_ _ | refine blk_drew ?_ | refine blk_alloc ?_ _)); refine blk_put (cs := #[.int .i64 0, .slice none 0 0, .slice none 0 0]) ?_ 0 _ rfl; (with_reducible repeat (first | refine blk_drewN ?_ _ | refine blk_drew ?_ | refine blk_alloc ?_ _)); exact BK118.out) Try.underlying34 rfl (by kernel_rfl)) rfl ?_
        exact ⟨_, _, _, by first | rfl | (simp [errW_none, errW_some] <;> rfl) | (simp [*, errW_none, errW_some] <;> rfl), Kd.V_mono (Kd.R_V (by (with_reducible repeat (first | apply Kd.R_alloc | apply Kd.R_drewN | apply Kd.R_drew)); exact (Kd.R_far (p := ⟨gb118, 2, none⟩) (Kd.R_far (p := ⟨gb118, 1, none⟩) (Kd.R_far (p := ⟨gb118, 0, none⟩) (Kd.R_types HO134.out BK118.out (by decide)) (fun _ hk => hk.2) (.int .i64 0)) (fun _ hk => hk.2) (.slice none 0 0)) (fun _ hk => hk.2) (.slice none 0 0)))) (fun k_ hk => by first | exact ⟨.inr hk.1.1.1, by simp [Value.ownBlock]⟩ | exact .inr hk.1.1.1), Kd.V_nil _ _ _ _ _, by first | exact Kd.R_nil _ _ _ _ _ | exact Kd.N_nil _ _ _ _ _ | exact Kd.V_nil _ _ _ _ _ | exact Kd.Q_nil _ _ _ _ _ | exact Kd.S_nil _ _ _ _ _, by repeat (first | (with_reducible first | exact HB.out | apply below_alloc | apply pw_below_drewN | apply below_drew1 | refine below_set ?_ GE117.out | refine below_set ?_ GE118.out) | exact HB.out)⟩
      · rw [if_neg c5] at H
        exact absurd H (by simp)
    · rw [if_neg c4] at H
      exact absurd H (by simp)
  · rw [if_neg c3] at H
    have c3b0 : (a1_0 == 0) = false := beq_eq_false_iff_ne.mpr c3
    have c3b1 : (a1_0 != 0) = true := bne_iff_ne.mpr c3
    by_cases c23 : a1_0 = 1
    · rw [if_pos c23] at H
      have c23b0 : (a1_0 == 1) = true := beq_iff_eq.mpr c23
      have c23b1 : (a1_0 != 1) = false := bne_eq_false_iff_eq.mpr c23
      clear c23
      by_cases c24 : 0 ≤ a1_1
      · rw [if_pos c24] at H
        have c24b0 := eq_true c24
        have c24b1 : decide (0 ≤ a1_1) = true := decide_eq_true c24
        clear c24
        by_cases c25 : a1_1 ≤ (l0.length : Int)
        · rw [if_pos c25] at H
          have c25b0 := eq_true c25
          have c25b1 : decide (a1_1 ≤ (l0.length : Int)) = true := decide_eq_true c25
          clear c25
          obtain ⟨y135, hy135⟩ : ∃ y_ : List Int, y_ = (l0.take (a1_1 : Int).toNat) := ⟨_, rfl⟩
          replace H : (if 0 ≤ a1_2 then (if a1_2 ≤ (l0.length : Int) then ((spec_Both.f y135 (l0.drop (a1_2 : Int).toNat)).bind fun t145 => (some (t145, 0, ([] : List Int), ([] : List Int)))) else (none)) else (none)) = some (r1, r2, r3, r4) := by first | (rw [hy135]; with_reducible exact H) | (have H2_ := (Option.bind_some _ _).symm.trans H; rw [hy135]; with_reducible exact H2_) | (have H2_ := (Option.bind_some _ _).symm.trans H; with_reducible exact H2_) | with_reducible exact H | (rw [hy135]; exact H) | exact H
          have Ny135 := Aside0.mk hy135
          clear hy135
          by_cases c26 : 0 ≤ a1_2
          · rw [if_pos c26] at H
            have c26b0 := eq_true c26
            have c26b1 : decide (0 ≤ a1_2) = true := decide_eq_true c26
            clear c26
            by_cases c27 : a1_2 ≤ (l0.length : Int)
            · rw [if_pos c27] at H
              have c27b0 := eq_true c27
              have c27b1 : decide (a1_2 ≤ (l0.length : Int)) = true := decide_eq_true c27
              clear c27
              obtain ⟨y140, hy140⟩ : ∃ y_ : List Int, y_ = (l0.drop (a1_2 : Int).toNat) := ⟨_, rfl⟩
              replace H : ((spec_Both.f y135 y140).bind fun t145 => (some (t145, 0, ([] : List Int), ([] : List Int)))) = some (r1, r2, r3, r4) := by first | (rw [hy140]; with_reducible exact H) | (have H2_ := (Option.bind_some _ _).symm.trans H; rw [hy140]; with_reducible exact H2_) | (have H2_ := (Option.bind_some _ _).symm.trans H; with_reducible exact H2_) | with_reducible exact H | (rw [hy140]; exact H) | exact H
              have Ny140 := Aside0.mk hy140
              clear hy140
              replace H := Option.bind_eq_some_iff.mp H
              obtain ⟨t145, A280, H⟩ := H
              replace H : (some (t145, 0, ([] : List Int), ([] : List Int))) = some (r1, r2, r3, r4) := H
              have A28 := Aside0.mk A280
              clear A280
              simp only [Option.some.injEq, Prod.mk.injEq] at H
              obtain ⟨rfl, rfl, rfl, rfl⟩ := H
              go_enter Try.func25, Try.ntmps25
              try go_wp2_with (first | ((with_reducible refine gate_dst (N := 3) rfl ?_); refine box_event ?hg (N := 3) ?hd (cs := #[.int .i64 a1_0, .int .i64 a1_1, .int .i64 a1_2, .slice A1_3 l1_3.length c1_3]) (t := 38) ?hr ?_; (case hd => rfl); (case hg => rfl); (case hr => first | (go_simp; done) | (go_simp; rfl)); intro gb117 hg w29 hbox hb; have n0_ := Aside0.mk (Kd.V_below (Kd.V_elderB (by (with_reducible repeat (first | apply Kd.V_alloc | apply Kd.V_drewN | apply Kd.V_drew)); exact HO0.out) gb117 (Nat.le_of_eq hg.symm)) hb); have n1_ := Aside0.mk (below_step (by repeat (first | (with_reducible first | exact HB.out | apply below_alloc | apply pw_below_drewN | apply below_drew1) | exact HB.out)) hb); have n2_ := Aside0.mk (hbox); have n3_ := Aside0.mk ((by rw [hg]; exact (below_size (by repeat (first | (with_reducible first | exact HB.out | apply below_alloc | apply pw_below_drewN | apply below_drew1) | exact HB.out))) : w.heap.size ≤ gb117)); have n4_ := Aside0.mk ((by rw [hg]; exact (below_size (by repeat (first | (with_reducible first | exact HB.out | apply below_alloc | apply pw_below_drewN | apply below_drew1) | exact HB.out))) : w.heap.size ≤ gb117)); clear HO0; clear HB; have HO0 := n0_; have HB := n1_; have BK117 := n2_; have GW117 := n3_; have GE117 := n4_; clear n0_ n1_ n2_ n3_ n4_; clear hb hbox hg) | ((with_reducible refine gate_dst (N := 5) rfl ?_); refine box_event ?hg (N := 5) ?hd (cs := #[.int .i64 0, .slice none 0 0, .slice none 0 0]) (t := 34) ?hr ?_; (case hd => rfl); (case hg => rfl); (case hr => first | (go_simp; done) | (go_simp; rfl)); intro gb118 hg w30 hbox hb; have n0_ := Aside0.mk (Kd.V_below (Kd.V_elderB (by (with_reducible repeat (first | apply Kd.V_alloc | apply Kd.V_drewN | apply Kd.V_drew)); exact HO0.out) gb118 (Nat.le_of_eq hg.symm)) hb); have n1_ := Aside0.mk (blk_below (g := gb117) (o := .cells #[.int .i64 a1_0, .int .i64 a1_1, .int .i64 a1_2, .slice A1_3 l1_3.length c1_3] 38 (0, 0)) (by (with_reducible repeat (first | refine blk_drewN ?_ _ | refine blk_drew ?_ | refine blk_alloc ?_ _)); exact BK117.out) hb); have n2_ := Aside0.mk (below_step (by repeat (first | (with_reducible first | exact HB.out | apply below_alloc | apply pw_below_drewN | apply below_drew1 | refine below_set ?_ GE117.out) | exact HB.out)) hb); have n3_ := Aside0.mk (hbox); have n4_ := Aside0.mk ((by rw [hg]; exact (below_size (by repeat (first | (with_reducible first | exact HB.out | apply below_alloc | apply pw_below_drewN | apply below_drew1 | refine below_set ?_ GE117.out) | exact HB.out))) : w.heap.size ≤ gb118)); have n5_ := Aside0.mk ((by rw [hg]; exact (below_size (by repeat (first | (with_reducible first | exact HB.out | apply below_alloc | apply pw_below_drewN | apply below_drew1 | refine below_set ?_ GE117.out) | exact HB.out))) : w.heap.size ≤ gb118)); have n6_ := Aside0.mk ((by rw [hg]; exact Nat.ne_of_lt (blk_lt (g := gb117) (o := .cells #[.int .i64 a1_0, .int .i64 a1_1, .int .i64 a1_2, .slice A1_3 l1_3.length c1_3] 38 (0, 0)) (by (with_reducible repeat (first | refine blk_drewN ?_ _ | refine blk_drew ?_ | refine blk_alloc ?_ _)); exact BK117.out)) : gb117 ≠ gb118)); have n7_ := Aside0.mk ((by rw [hg]; exact Nat.ne_of_gt (blk_lt (g := gb117) (o := .cells #[.int .i64 a1_0, .int .i64 a1_1, .int .i64 a1_2, .slice A1_3 l1_3.length c1_3] 38 (0, 0)) (by (with_reducible repeat (first | refine blk_drewN ?_ _ | refine blk_drew ?_ | refine blk_alloc ?_ _)); exact BK117.out)) : gb118 ≠ gb117)); clear HO0; clear BK117; clear HB; have HO0 := n0_; have BK117 := n1_; have HB := n2_; have BK118 := n3_; have GW118 := n4_; have GE118 := n5_; have NB117_118 := n6_; have NB118_117 := n7_; clear n0_ n1_ n2_ n3_ n4_ n5_ n6_ n7_; clear hb hbox hg; have hnb31 := NB117_118.out; have hnc31 := NB118_117.out; have hcz32_0 : w30.cell? ⟨gb117, 0, none⟩ = some (.int .i64 a1_0) := (blk_cell BK117.out 0).trans rfl; have hcz32_1 : w30.cell? ⟨gb117, 1, none⟩ = some (.int .i64 a1_1) := (blk_cell BK117.out 1).trans rfl; have hcz32_2 : w30.cell? ⟨gb117, 2, none⟩ = some (.int .i64 a1_2) := (blk_cell BK117.out 2).trans rfl; have hcz32_3 : w30.cell? ⟨gb117, 3, none⟩ = some (.slice A1_3 l1_3.length c1_3) := (blk_cell BK117.out 3).trans rfl; have hfz32_0 := blk_frozen BK117.out 0; have hfz32_1 := blk_frozen BK117.out 1; have hfz32_2 := blk_frozen BK117.out 2; have hfz32_3 := blk_frozen BK117.out 3))
              have n0_ := Aside0.mk (Kd.V_drew HO0.out)
              have n1_ := Aside0.mk (blk_drew BK117.out)
              have n2_ := Aside0.mk (blk_drew BK118.out)
              have n3_ := Aside0.mk (below_drew1 HB.out)
              clear HO0
              clear BK117
              clear BK118
              clear HB
              have HO0 := n0_
              have BK117 := n1_
              have BK118 := n2_
              have HB := n3_
              clear n0_ n1_ n2_ n3_
              have q34 : (a1_1 : Int) ≤ ((l0.length : Int) : Int) := of_decide_eq_true (by first | (with_reducible assumption) | assumption)
              obtain ⟨i034, hi034, _, hsz34, _⟩ := info_parts info3
              have hroom34 : l0.length ≤ c0 := (Kd.V_reads' HO0.out).2.1
              have hC34 : Kd.F (Kd.int .i64) _ _ A0 l0.length l0 := (Kd.V_at (base := w.heap.size) HO0.out).2.2
              have hcut34 := cut_to (P := Try.prog) 24 3 .i64 Try.underlying24 hi034 A0 l0.length c0 a1_1 (of_decide_eq_true (by first | (with_reducible assumption) | assumption)) q34 hroom34
              have hr34 := Kd.F_take (m := (a1_1 : Int).toNat) hC34 (by omega)
              have hy34 : y135.length = (a1_1 : Int).toNat := (by rw [Ny135.out, List.length_take]; omega)
              rw [← Ny135.out] at hr34
              rw [← hy34] at hcut34
              have HO139 := Aside0.mk (show Kd.V (Kd.int .i64) 3 _ w.heap.size _ (.slice A0 y135.length c0) y135 from Kd.V_mk (by omega) hr34)
              have HC139 := Aside0.mk (show y135.length ≤ c0 from by omega)
              clear hr34 hC34 hroom34 hi034 hsz34
              have KY34 := Aside0.mk hy34
              clear hy34
              replace q34 := eq_true q34
              have q35 : (a1_2 : Int) ≤ ((l0.length : Int) : Int) := of_decide_eq_true (by first | (with_reducible assumption) | assumption)
              obtain ⟨i035, hi035, _, hsz35, _⟩ := info_parts info3
              have hroom35 : l0.length ≤ c0 := (Kd.V_reads' HO0.out).2.1
              have hC35 : Kd.F (Kd.int .i64) _ _ A0 l0.length l0 := (Kd.V_at (base := w.heap.size) HO0.out).2.2
              have q035 : (0 : Int) ≤ (a1_2 : Int) := of_decide_eq_true (by first | (with_reducible assumption) | assumption)
              have hcut35 := cut_from (P := Try.prog) 24 3 .i64 Try.underlying24 hi035 1 hsz35 A0 l0.length c0 a1_2 q035 q35
              have hr35 := Kd.F_cut (m := (a1_2 : Int).toNat) (c := c0) hC35 (by omega) hroom35
              obtain ⟨A35, hA35⟩ : ∃ A1, A1 = (if c0 = (a1_2 : Int).toNat then A0 else (A0 : Option Addr).map (·.add ((a1_2 : Int).toNat * 1))) := ⟨_, rfl⟩
              obtain ⟨c35, hc35⟩ : ∃ c1, c1 = c0 - (a1_2 : Int).toNat := ⟨_, rfl⟩
              have hy35 : y140.length = l0.length - (a1_2 : Int).toNat := (by rw [Ny140.out, List.length_drop] <;> omega)
              rw [show (l0).drop (a1_2 : Int).toNat = y140 from Ny140.out.symm] at hr35
              replace hr35 : Kd.F (Kd.int .i64) _ _ A35 y140.length y140 := (by rw [hA35]; exact hr35)
              rw [← hy35, ← hA35, ← hc35] at hcut35
              have HO144 := Aside0.mk (show Kd.V (Kd.int .i64) 3 _ w.heap.size _ (.slice A35 y140.length c35) y140 from Kd.V_mk (by rw [hy35, hc35]; exact Nat.sub_le_sub_right hroom35 _) hr35)
              have HC144 := Aside0.mk (show y140.length ≤ c35 from by rw [hy35, hc35]; exact Nat.sub_le_sub_right hroom35 _)
              clear hr35 hC35 hroom35 hi035 hsz35 hc35
              have KY35 := Aside0.mk hy35
              have KA35 := Aside0.mk hA35
              clear hy35 hA35
              replace q35 := eq_true q35
              refine start_ (n := 12) (S := fun w' => w'.cell? ⟨gb117, 0, none⟩ = some (.int .i64 a1_0) ∧ w'.cell? ⟨gb117, 1, none⟩ = some (.int .i64 a1_1) ∧ w'.cell? ⟨gb117, 2, none⟩ = some (.int .i64 a1_2) ∧ w'.cell? ⟨gb117, 3, none⟩ = some (.slice A1_3 l1_3.length c1_3)) (ds := []) #[false, false, false, false, false, false, false, false, false, false, false, false] (by kernel_rfl) rfl rfl ⟨(blk_cell BK117.out 0).trans rfl, (blk_cell BK117.out 1).trans rfl, (blk_cell BK117.out 2).trans rfl, (blk_cell BK117.out 3).trans rfl⟩ (fun hHeld => ?_); refine with_tabW spec_Cutting.tab5 spec_Cutting.bits5 (fun HT_ HW_ => ?_)
              generalize w30.drew = w33 at HO0 BK117 BK118 HB HO139 HO144 hHeld ⊢
              refine pure_ (i := 0) (N := some 25) (v := ?_) (a' := ?_) #[true, false, false, false, false, false, false, false, false, false, false, false] rfl rfl (any_of HT_.out (by kernel_rfl)) (fun _ _ _ h => h) (Or.inl ⟨by rfl, ?_⟩) ?_ ?_
              rotate_left
              · intro w'
                go_simp
                with_reducible rfl
              rotate_left
              · simp only [Act.put, List.setIfInBounds_toArray, List.set_cons_zero, List.set_cons_succ, i64_w, i32_w]
                rfl
              refine pure_ (i := 1) (N := some 26) (v := ?_) (a' := ?_) #[true, true, false, false, false, false, false, false, false, false, false, false] rfl rfl (any_of HT_.out (by kernel_rfl)) (fun _ _ _ h => h) (Or.inl ⟨by rfl, ?_⟩) ?_ ?_
              rotate_left
              · intro w'
                go_simp
                with_reducible rfl
              rotate_left
              · simp only [Act.put, List.setIfInBounds_toArray, List.set_cons_zero, List.set_cons_succ, i64_w, i32_w]
                rfl
              refine pure_ (i := 4) (N := some 29) (v := ?_) (a' := ?_) #[true, true, false, false, true, false, false, false, false, false, false, false] rfl rfl (any_of HT_.out (by kernel_rfl)) (fun _ _ _ h => h) (Or.inl ⟨by rfl, ?_⟩) ?_ ?_
              rotate_left
              · intro w'
                go_simp
                with_reducible rfl
              rotate_left
              · simp only [Act.put, List.setIfInBounds_toArray, List.set_cons_zero, List.set_cons_succ, i64_w, i32_w]
                rfl
              refine pure_ (i := 5) (N := some 30) (v := ?_) (a' := ?_) #[true, true, false, false, true, true, false, false, false, false, false, false] rfl rfl (any_of HT_.out (by kernel_rfl)) (fun _ _ _ h => h) (Or.inl ⟨by rfl, ?_⟩) ?_ ?_
              rotate_left
              · intro w'
                go_simp
                with_reducible rfl
              rotate_left
              · simp only [Act.put, List.setIfInBounds_toArray, List.set_cons_zero, List.set_cons_succ, i64_w, i32_w]
                rfl
              refine pure_ (i := 9) (N := some 34) (v := ?_) (a' := ?_) #[true, true, false, false, true, true, false, false, false, true, false, false] rfl rfl (any_of HT_.out (by kernel_rfl)) (fun _ _ _ h => h) (Or.inl ⟨by rfl, ?_⟩) ?_ ?_
              rotate_left
              · intro w'
                go_simp
                with_reducible rfl
              rotate_left
              · simp only [Act.put, List.setIfInBounds_toArray, List.set_cons_zero, List.set_cons_succ, i64_w, i32_w]
                rfl
              refine take_ (i := 2) (N := some 27) (v := ?_) (a' := ?_) #[true, true, true, false, true, true, false, false, false, true, false, false] rfl rfl (take_ofW HT_.out HW_.out (by kernel_rfl)) (fun _ _ _ h => h) (Or.inl ⟨by rfl, ?_⟩) hHeld ?_ ?_
              rotate_left
              · rintro w' ⟨s0, s1, s2, s3⟩
                go_simp
                with_reducible rfl
              rotate_left
              · simp only [Act.put, List.setIfInBounds_toArray, List.set_cons_zero, List.set_cons_succ, i64_w, i32_w]
                rfl
              refine pure_ (i := 3) (N := some 28) (v := ?_) (a' := ?_) #[true, true, true, true, true, true, false, false, false, true, false, false] rfl rfl (any_of HT_.out (by kernel_rfl)) (fun _ _ _ h => h) (Or.inl ⟨by rfl, ?_⟩) ?_ ?_
              rotate_left
              · intro w'
                go_simp
                with_reducible rfl
              rotate_left
              · simp only [Act.put, List.setIfInBounds_toArray, List.set_cons_zero, List.set_cons_succ, i64_w, i32_w]
                rfl
              refine take_ (i := 6) (N := some 31) (v := ?_) (a' := ?_) #[true, true, true, true, true, true, true, false, false, true, false, false] rfl rfl (take_ofW HT_.out HW_.out (by kernel_rfl)) (fun _ _ _ h => h) (Or.inl ⟨by rfl, ?_⟩) hHeld ?_ ?_
              rotate_left
              · rintro w' ⟨s0, s1, s2, s3⟩
                go_simp
                with_reducible rfl
              rotate_left
              · simp only [Act.put, List.setIfInBounds_toArray, List.set_cons_zero, List.set_cons_succ, i64_w, i32_w]
                rfl
              refine pure_ (i := 7) (N := some 32) (v := ?_) (a' := ?_) #[true, true, true, true, true, true, true, true, false, true, false, false] rfl rfl (any_of HT_.out (by kernel_rfl)) (fun _ _ _ h => h) (Or.inl ⟨by rfl, ?_⟩) ?_ ?_
              rotate_left
              · intro w'
                go_simp
                with_reducible rfl
              rotate_left
              · simp only [Act.put, List.setIfInBounds_toArray, List.set_cons_zero, List.set_cons_succ, i64_w, i32_w]
                rfl
              refine one_ (i := 8) (N := some 33) #[true, true, true, true, true, true, true, true, true, true, false, false] rfl rfl (one_of HT_.out (by kernel_rfl)) (by decide) (fun K hK => ?_)
              refine goes_ Try.func9 (by kernel_rfl) rfl #[.slice A0 y135.length c0, .slice A35 y140.length c35] (by rfl) rfl rfl (by (try simp only [List.map_toArray, List.map_cons, List.map_nil]); first | done | rfl | (simp only [List.length_drop, List.length_take]; rfl)) ?_
              with_reducible refine (spec_Both.calls _ _ y135 _ _ y140 t145 _ ?side1 ?side2 ?side3 ?side4 A28.out).mono ?_
              (case side1 => repeat (first | exact (Kd.V_reads' HO139.out).2.2 | (with_reducible refine Kd.C_alloc ?_ _) | (with_reducible refine Kd.C_drewN ?_ _) | (with_reducible refine Kd.C_drew ?_)))
              (case side2 => exact (Kd.V_reads' HO139.out).2.1)
              (case side3 => repeat (first | exact (Kd.V_reads' HO144.out).2.2 | (with_reducible refine Kd.C_alloc ?_ _) | (with_reducible refine Kd.C_drewN ?_ _) | (with_reducible refine Kd.C_drew ?_)))
              (case side4 => exact (Kd.V_reads' HO144.out).2.1)
              rintro e w36 ⟨v146, rfl, ho0, hb⟩
              refine ⟨_, rfl, ?_⟩
              have n0_ := Aside0.mk (Kd.V_elder' (by (with_reducible repeat (first | apply Kd.V_alloc | apply Kd.V_drewN | apply Kd.V_drew)); exact HO0.out) (Kd.R_base ho0) hb)
              have n1_ := Aside0.mk (Kd.V_elder' (by (with_reducible repeat (first | apply Kd.V_alloc | apply Kd.V_drewN | apply Kd.V_drew)); exact HO139.out) (Kd.R_base ho0) hb)
              have n2_ := Aside0.mk (Kd.V_elder' (by (with_reducible repeat (first | apply Kd.V_alloc | apply Kd.V_drewN | apply Kd.V_drew)); exact HO144.out) (Kd.R_base ho0) hb)
              have n3_ := Aside0.mk (Kd.R_lower (Kd.R_newM (M := fun k_ => (w.heap.size ≤ k_)) ho0 (below_size (by repeat (first | (with_reducible first | exact HB.out | apply below_alloc | apply pw_below_drewN | apply below_drew1 | refine below_set ?_ GE117.out | refine below_set ?_ GE118.out) | exact HB.out))) (fun k_ h_ => h_)) (below_size (by repeat (first | (with_reducible first | exact HB.out | apply below_alloc | apply pw_below_drewN | apply below_drew1 | refine below_set ?_ GE117.out | refine below_set ?_ GE118.out) | exact HB.out))))
              have n4_ := Aside0.mk (blk_below (g := gb117) (o := .cells #[.int .i64 a1_0, .int .i64 a1_1, .int .i64 a1_2, .slice A1_3 l1_3.length c1_3] 38 (0, 0)) (by (with_reducible repeat (first | refine blk_drewN ?_ _ | refine blk_drew ?_ | refine blk_alloc ?_ _)); exact BK117.out) hb)
              have n5_ := Aside0.mk (blk_below (g := gb118) (o := .cells #[.int .i64 0, .slice none 0 0, .slice none 0 0] 34 (0, 0)) (by (with_reducible repeat (first | refine blk_drewN ?_ _ | refine blk_drew ?_ | refine blk_alloc ?_ _)); exact BK118.out) hb)
              have n6_ := Aside0.mk (below_step (by repeat (first | (with_reducible first | exact HB.out | apply below_alloc | apply pw_below_drewN | apply below_drew1 | refine below_set ?_ GE117.out | refine below_set ?_ GE118.out) | exact HB.out)) hb)
              clear HO0
              clear HO139
              clear HO144
              clear BK117
              clear BK118
              clear HB
              have HO0 := n0_
              have HO139 := n1_
              have HO144 := n2_
              have HO147 := n3_
              have BK117 := n4_
              have BK118 := n5_
              have HB := n6_
              clear n0_ n1_ n2_ n3_ n4_ n5_ n6_
              (try clear hb)
              (try clear hb2)
              (try clear hk)
              (try clear hi)
              (try clear ho0)
              refine hK.out _ _ ⟨(blk_cell BK117.out 0).trans rfl, (blk_cell BK117.out 1).trans rfl, (blk_cell BK117.out 2).trans rfl, (blk_cell BK117.out 3).trans rfl⟩ (fun hHeld => ?_)
              clear hK K
              refine norm_ (a' := ?_) ?_ ?_
              rotate_left
              · show Act.put _ (some 33) _ = _
                simp only [Act.put, List.setIfInBounds_toArray, List.set_cons_zero, List.set_cons_succ, i64_w, i32_w]
                rfl
              refine pure_ (i := 10) (N := some 4) (v := ?_) (a' := ?_) #[true, true, true, true, true, true, true, true, true, true, true, false] rfl rfl (any_of HT_.out (by kernel_rfl)) (fun _ _ _ h => h) (Or.inl ⟨by rfl, ?_⟩) ?_ ?_
              rotate_left
              · intro w'
                go_simp
                with_reducible rfl
              rotate_left
              · simp only [Act.put, List.setIfInBounds_toArray, List.set_cons_zero, List.set_cons_succ, i64_w, i32_w]
                rfl
              refine one_ (i := 11) (N := none) #[true, true, true, true, true, true, true, true, true, true, true, true] rfl rfl (one_of HT_.out (by kernel_rfl)) (by decide) (fun K hK => ?_)
              have hs37 : w36.cell? ⟨gb118, 0, none⟩ = some (.int .i64 0) := (blk_cell BK118.out 0).trans rfl
              have hfs37 := blk_frozen BK118.out 0
              have hns37_0 := NB117_118.out
              have hms37_0 := NB118_117.out
              have hs38 : w36.cell? ⟨gb118, 1, none⟩ = some (.slice none 0 0) := (blk_cell BK118.out 1).trans rfl
              have hfs38 := blk_frozen BK118.out 1
              have hns38_0 := NB117_118.out
              have hms38_0 := NB118_117.out
              have hs39 : w36.cell? ⟨gb118, 2, none⟩ = some (.slice none 0 0) := (blk_cell BK118.out 2).trans rfl
              have hfs39 := blk_frozen BK118.out 2
              have hns39_0 := NB117_118.out
              have hms39_0 := NB118_117.out
              refine skip_ (w1 := ?_) (by rfl) rfl ?_ ?_
              rotate_left
              · go_simp
                rfl
              refine hK.out _ _ ⟨((cell_far (p := ⟨gb118, _, none⟩) NB117_118.out _).trans (((cell_far (p := ⟨gb118, _, none⟩) NB117_118.out _).trans (((cell_far (p := ⟨gb118, _, none⟩) NB117_118.out _).trans (hHeld.1)))))), ((cell_far (p := ⟨gb118, _, none⟩) NB117_118.out _).trans (((cell_far (p := ⟨gb118, _, none⟩) NB117_118.out _).trans (((cell_far (p := ⟨gb118, _, none⟩) NB117_118.out _).trans (hHeld.2.1)))))), ((cell_far (p := ⟨gb118, _, none⟩) NB117_118.out _).trans (((cell_far (p := ⟨gb118, _, none⟩) NB117_118.out _).trans (((cell_far (p := ⟨gb118, _, none⟩) NB117_118.out _).trans (hHeld.2.2.1)))))), ((cell_far (p := ⟨gb118, _, none⟩) NB117_118.out _).trans (((cell_far (p := ⟨gb118, _, none⟩) NB117_118.out _).trans (((cell_far (p := ⟨gb118, _, none⟩) NB117_118.out _).trans (hHeld.2.2.2))))))⟩ (fun hHeld => ?_)
              clear hK K
              refine done_ (done_of HT_.out (by kernel_rfl)) ?_
              try go_wp2
              refine bodyPost_ret (results_tc rfl _ _ gb118 34 #[.int .i64 0, .slice none 0 0, .slice none 0 0] (0, 0) _ rfl (by (with_reducible repeat (first | refine blk_drewN ?_ _ | refine blk_drew ?_ | refine blk_alloc ?_ _)); refine blk_put (cs := #[.int .i64 0, .slice none 0 0, .slice none 0 0]) ?_ 2 _ rfl; (with_reducible repeat (first | refine blk_drewN ?_ _ | refine blk_drew ?_ | refine blk_alloc ?_ _)); refine blk_put (cs := #[.int .i64 0, .slice none 0 0, .slice none 0 0]) ?_ 1 _ rfl; (with_reducible repeat (first | refine blk_drewN ?_ _ | refine blk_drew ?_ | refine blk_alloc ?_ _)); refine blk_put (cs := #[.int .i64 0, .slice none 0 0, .slice none 0 0]) ?_ 0 _ rfl; (with_reducible repeat (first | refine blk_drewN ?_ _ | refine blk_drew ?_ | refine blk_alloc ?_ _)); exact BK118.out) Try.underlying34 rfl (by kernel_rfl)) rfl ?_
              exact ⟨_, _, _, by first | rfl | (simp [errW_none, errW_some] <;> rfl) | (simp [*, errW_none, errW_some] <;> rfl), Kd.V_mono (Kd.R_V (by (with_reducible repeat (first | apply Kd.R_alloc | apply Kd.R_drewN | apply Kd.R_drew)); exact (Kd.R_far (p := ⟨gb118, 2, none⟩) (Kd.R_far (p := ⟨gb118, 1, none⟩) (Kd.R_far (p := ⟨gb118, 0, none⟩) (Kd.R_types HO147.out BK118.out (by decide)) (fun _ hk => hk.2) (.int .i64 0)) (fun _ hk => hk.2) (.slice none 0 0)) (fun _ hk => hk.2) (.slice none 0 0)))) (fun k_ hk => by first | exact ⟨.inr hk.1.1, by simp [Value.ownBlock]⟩ | exact .inr hk.1.1), Kd.V_nil _ _ _ _ _, by first | exact Kd.R_nil _ _ _ _ _ | exact Kd.N_nil _ _ _ _ _ | exact Kd.V_nil _ _ _ _ _ | exact Kd.Q_nil _ _ _ _ _ | exact Kd.S_nil _ _ _ _ _, by repeat (first | (with_reducible first | exact HB.out | apply below_alloc | apply pw_below_drewN | apply below_drew1 | refine below_set ?_ GE117.out | refine below_set ?_ GE118.out) | exact HB.out)⟩
            · rw [if_neg c27] at H
              exact absurd H (by simp)
          · rw [if_neg c26] at H
            exact absurd H (by simp)
        · rw [if_neg c25] at H
          exact absurd H (by simp)
      · rw [if_neg c24] at H
        exact absurd H (by simp)
    · rw [if_neg c23] at H
      have c23b0 : (a1_0 == 1) = false := beq_eq_false_iff_ne.mpr c23
      have c23b1 : (a1_0 != 1) = true := bne_iff_ne.mpr c23
      by_cases c40 : a1_0 = 2
      · rw [if_pos c40] at H
        have c40b0 : (a1_0 == 2) = true := beq_iff_eq.mpr c40
        have c40b1 : (a1_0 != 2) = false := bne_eq_false_iff_eq.mpr c40
        clear c40
        by_cases c41 : 0 ≤ a1_1
        · rw [if_pos c41] at H
          have c41b0 := eq_true c41
          have c41b1 : decide (0 ≤ a1_1) = true := decide_eq_true c41
          clear c41
          by_cases c42 : a1_1 ≤ a1_2
          · rw [if_pos c42] at H
            have c42b0 := eq_true c42
            have c42b1 : decide (a1_1 ≤ a1_2) = true := decide_eq_true c42
            clear c42
            by_cases c43 : a1_2 ≤ (l0.length : Int)
            · rw [if_pos c43] at H
              have c43b0 := eq_true c43
              have c43b1 : decide (a1_2 ≤ (l0.length : Int)) = true := decide_eq_true c43
              clear c43
              obtain ⟨y148, hy148⟩ : ∃ y_ : List Int, y_ = ((l0.take (a1_2 : Int).toNat).drop (a1_1 : Int).toNat) := ⟨_, rfl⟩
              replace H : (some (l0, 0, y148, ([] : List Int))) = some (r1, r2, r3, r4) := by first | (rw [hy148]; with_reducible exact H) | (have H2_ := (Option.bind_some _ _).symm.trans H; rw [hy148]; with_reducible exact H2_) | (have H2_ := (Option.bind_some _ _).symm.trans H; with_reducible exact H2_) | with_reducible exact H | (rw [hy148]; exact H) | exact H
              have Ny148 := Aside0.mk hy148
              clear hy148
              simp only [Option.some.injEq, Prod.mk.injEq] at H
              obtain ⟨rfl, rfl, rfl, rfl⟩ := H
              go_enter Try.func25, Try.ntmps25
              try go_wp2_with (first | ((with_reducible refine gate_dst (N := 3) rfl ?_); refine box_event ?hg (N := 3) ?hd (cs := #[.int .i64 a1_0, .int .i64 a1_1, .int .i64 a1_2, .slice A1_3 l1_3.length c1_3]) (t := 38) ?hr ?_; (case hd => rfl); (case hg => rfl); (case hr => first | (go_simp; done) | (go_simp; rfl)); intro gb117 hg w44 hbox hb; have n0_ := Aside0.mk (Kd.V_below (Kd.V_elderB (by (with_reducible repeat (first | apply Kd.V_alloc | apply Kd.V_drewN | apply Kd.V_drew)); exact HO0.out) gb117 (Nat.le_of_eq hg.symm)) hb); have n1_ := Aside0.mk (below_step (by repeat (first | (with_reducible first | exact HB.out | apply below_alloc | apply pw_below_drewN | apply below_drew1) | exact HB.out)) hb); have n2_ := Aside0.mk (hbox); have n3_ := Aside0.mk ((by rw [hg]; exact (below_size (by repeat (first | (with_reducible first | exact HB.out | apply below_alloc | apply pw_below_drewN | apply below_drew1) | exact HB.out))) : w.heap.size ≤ gb117)); have n4_ := Aside0.mk ((by rw [hg]; exact (below_size (by repeat (first | (with_reducible first | exact HB.out | apply below_alloc | apply pw_below_drewN | apply below_drew1) | exact HB.out))) : w.heap.size ≤ gb117)); clear HO0; clear HB; have HO0 := n0_; have HB := n1_; have BK117 := n2_; have GW117 := n3_; have GE117 := n4_; clear n0_ n1_ n2_ n3_ n4_; clear hb hbox hg) | ((with_reducible refine gate_dst (N := 5) rfl ?_); refine box_event ?hg (N := 5) ?hd (cs := #[.int .i64 0, .slice none 0 0, .slice none 0 0]) (t := 34) ?hr ?_; (case hd => rfl); (case hg => rfl); (case hr => first | (go_simp; done) | (go_simp; rfl)); intro gb118 hg w45 hbox hb; have n0_ := Aside0.mk (Kd.V_below (Kd.V_elderB (by (with_reducible repeat (first | apply Kd.V_alloc | apply Kd.V_drewN | apply Kd.V_drew)); exact HO0.out) gb118 (Nat.le_of_eq hg.symm)) hb); have n1_ := Aside0.mk (blk_below (g := gb117) (o := .cells #[.int .i64 a1_0, .int .i64 a1_1, .int .i64 a1_2, .slice A1_3 l1_3.length c1_3] 38 (0, 0)) (by (with_reducible repeat (first | refine blk_drewN ?_ _ | refine blk_drew ?_ | refine blk_alloc ?_ _)); exact BK117.out) hb); have n2_ := Aside0.mk (below_step (by repeat (first | (with_reducible first | exact HB.out | apply below_alloc | apply pw_below_drewN | apply below_drew1 | refine below_set ?_ GE117.out) | exact HB.out)) hb); have n3_ := Aside0.mk (hbox); have n4_ := Aside0.mk ((by rw [hg]; exact (below_size (by repeat (first | (with_reducible first | exact HB.out | apply below_alloc | apply pw_below_drewN | apply below_drew1 | refine below_set ?_ GE117.out) | exact HB.out))) : w.heap.size ≤ gb118)); have n5_ := Aside0.mk ((by rw [hg]; exact (below_size (by repeat (first | (with_reducible first | exact HB.out | apply below_alloc | apply pw_below_drewN | apply below_drew1 | refine below_set ?_ GE117.out) | exact HB.out))) : w.heap.size ≤ gb118)); have n6_ := Aside0.mk ((by rw [hg]; exact Nat.ne_of_lt (blk_lt (g := gb117) (o := .cells #[.int .i64 a1_0, .int .i64 a1_1, .int .i64 a1_2, .slice A1_3 l1_3.length c1_3] 38 (0, 0)) (by (with_reducible repeat (first | refine blk_drewN ?_ _ | refine blk_drew ?_ | refine blk_alloc ?_ _)); exact BK117.out)) : gb117 ≠ gb118)); have n7_ := Aside0.mk ((by rw [hg]; exact Nat.ne_of_gt (blk_lt (g := gb117) (o := .cells #[.int .i64 a1_0, .int .i64 a1_1, .int .i64 a1_2, .slice A1_3 l1_3.length c1_3] 38 (0, 0)) (by (with_reducible repeat (first | refine blk_drewN ?_ _ | refine blk_drew ?_ | refine blk_alloc ?_ _)); exact BK117.out)) : gb118 ≠ gb117)); clear HO0; clear BK117; clear HB; have HO0 := n0_; have BK117 := n1_; have HB := n2_; have BK118 := n3_; have GW118 := n4_; have GE118 := n5_; have NB117_118 := n6_; have NB118_117 := n7_; clear n0_ n1_ n2_ n3_ n4_ n5_ n6_ n7_; clear hb hbox hg; have hnb46 := NB117_118.out; have hnc46 := NB118_117.out; have hcz47_0 : w45.cell? ⟨gb117, 0, none⟩ = some (.int .i64 a1_0) := (blk_cell BK117.out 0).trans rfl; have hcz47_1 : w45.cell? ⟨gb117, 1, none⟩ = some (.int .i64 a1_1) := (blk_cell BK117.out 1).trans rfl; have hcz47_2 : w45.cell? ⟨gb117, 2, none⟩ = some (.int .i64 a1_2) := (blk_cell BK117.out 2).trans rfl; have hcz47_3 : w45.cell? ⟨gb117, 3, none⟩ = some (.slice A1_3 l1_3.length c1_3) := (blk_cell BK117.out 3).trans rfl; have hfz47_0 := blk_frozen BK117.out 0; have hfz47_1 := blk_frozen BK117.out 1; have hfz47_2 := blk_frozen BK117.out 2; have hfz47_3 := blk_frozen BK117.out 3))
              have n0_ := Aside0.mk (Kd.V_drew HO0.out)
              have n1_ := Aside0.mk (blk_drew BK117.out)
              have n2_ := Aside0.mk (blk_drew BK118.out)
              have n3_ := Aside0.mk (below_drew1 HB.out)
              clear HO0
              clear BK117
              clear BK118
              clear HB
              have HO0 := n0_
              have BK117 := n1_
              have BK118 := n2_
              have HB := n3_
              clear n0_ n1_ n2_ n3_
              have q49 : (a1_2 : Int) ≤ ((l0.length : Int) : Int) := of_decide_eq_true (by first | (with_reducible assumption) | assumption)
              obtain ⟨i049, hi049, _, hsz49, _⟩ := info_parts info3
              have hroom49 : l0.length ≤ c0 := (Kd.V_reads' HO0.out).2.1
              have hC49 : Kd.F (Kd.int .i64) _ _ A0 l0.length l0 := (Kd.V_at (base := w.heap.size) HO0.out).2.2
              have ql49 : (a1_1 : Int) ≤ (a1_2 : Int) := of_decide_eq_true (by first | (with_reducible assumption) | assumption)
              have q049 : (0 : Int) ≤ (a1_1 : Int) := of_decide_eq_true (by first | (with_reducible assumption) | assumption)
              have hcut49 := cut_mid (P := Try.prog) 24 3 .i64 .i64 Try.underlying24 hi049 1 hsz49 A0 l0.length c0 a1_1 a1_2 q049 ql49 q49 hroom49
              have hr49 := Kd.F_mid (lo := (a1_1 : Int).toNat) (hi := (a1_2 : Int).toNat) (c := c0) hC49 (by omega) (by omega) hroom49
              obtain ⟨A49, hA49⟩ : ∃ A1, A1 = (if c0 = (a1_1 : Int).toNat then A0 else (A0 : Option Addr).map (·.add ((a1_1 : Int).toNat * 1))) := ⟨_, rfl⟩
              obtain ⟨c49, hc49⟩ : ∃ c1, c1 = c0 - (a1_1 : Int).toNat := ⟨_, rfl⟩
              have hy49 : y148.length = (a1_2 : Int).toNat - (a1_1 : Int).toNat := (by rw [Ny148.out, List.length_drop, List.length_take] <;> omega)
              rw [show ((l0).take (a1_2 : Int).toNat).drop (a1_1 : Int).toNat = y148 from Ny148.out.symm] at hr49
              replace hr49 : Kd.F (Kd.int .i64) _ _ A49 y148.length y148 := (by rw [hA49]; exact hr49)
              rw [← hy49, ← hA49, ← hc49] at hcut49
              have HO152 := Aside0.mk (show Kd.V (Kd.int .i64) 3 _ w.heap.size _ (.slice A49 y148.length c49) y148 from Kd.V_mk (by rw [hy49, hc49]; exact Nat.sub_le_sub_right (Nat.le_trans (by omega) hroom49) _) hr49)
              have HC152 := Aside0.mk (show y148.length ≤ c49 from by rw [hy49, hc49]; exact Nat.sub_le_sub_right (Nat.le_trans (by omega) hroom49) _)
              clear hr49 hC49 hroom49 hi049 hsz49 hc49
              have KY49 := Aside0.mk hy49
              have KA49 := Aside0.mk hA49
              clear hy49 hA49
              replace q49 := eq_true q49
              refine start_ (n := 10) (S := fun w' => w'.cell? ⟨gb117, 0, none⟩ = some (.int .i64 a1_0) ∧ w'.cell? ⟨gb117, 1, none⟩ = some (.int .i64 a1_1) ∧ w'.cell? ⟨gb117, 2, none⟩ = some (.int .i64 a1_2) ∧ w'.cell? ⟨gb117, 3, none⟩ = some (.slice A1_3 l1_3.length c1_3)) (ds := []) #[false, false, false, false, false, false, false, false, false, false] (by kernel_rfl) rfl rfl ⟨(blk_cell BK117.out 0).trans rfl, (blk_cell BK117.out 1).trans rfl, (blk_cell BK117.out 2).trans rfl, (blk_cell BK117.out 3).trans rfl⟩ (fun hHeld => ?_); refine with_tabW spec_Cutting.tab7 spec_Cutting.bits7 (fun HT_ HW_ => ?_)
              generalize w45.drew = w48 at HO0 BK117 BK118 HB HO152 hHeld ⊢
              refine pure_ (i := 0) (N := some 37) (v := ?_) (a' := ?_) #[true, false, false, false, false, false, false, false, false, false] rfl rfl (any_of HT_.out (by kernel_rfl)) (fun _ _ _ h => h) (Or.inl ⟨by rfl, ?_⟩) ?_ ?_
              rotate_left
              · intro w'
                go_simp
                with_reducible rfl
              rotate_left
              · simp only [Act.put, List.setIfInBounds_toArray, List.set_cons_zero, List.set_cons_succ, i64_w, i32_w]
                rfl
              refine pure_ (i := 1) (N := some 38) (v := ?_) (a' := ?_) #[true, true, false, false, false, false, false, false, false, false] rfl rfl (any_of HT_.out (by kernel_rfl)) (fun _ _ _ h => h) (Or.inl ⟨by rfl, ?_⟩) ?_ ?_
              rotate_left
              · intro w'
                go_simp
                with_reducible rfl
              rotate_left
              · simp only [Act.put, List.setIfInBounds_toArray, List.set_cons_zero, List.set_cons_succ, i64_w, i32_w]
                rfl
              refine pure_ (i := 2) (N := some 39) (v := ?_) (a' := ?_) #[true, true, true, false, false, false, false, false, false, false] rfl rfl (any_of HT_.out (by kernel_rfl)) (fun _ _ _ h => h) (Or.inl ⟨by rfl, ?_⟩) ?_ ?_
              rotate_left
              · intro w'
                go_simp
                with_reducible rfl
              rotate_left
              · simp only [Act.put, List.setIfInBounds_toArray, List.set_cons_zero, List.set_cons_succ, i64_w, i32_w]
                rfl
              refine pure_ (i := 4) (N := some 41) (v := ?_) (a' := ?_) #[true, true, true, false, true, false, false, false, false, false] rfl rfl (any_of HT_.out (by kernel_rfl)) (fun _ _ _ h => h) (Or.inl ⟨by rfl, ?_⟩) ?_ ?_
              rotate_left
              · intro w'
                go_simp
                with_reducible rfl
              rotate_left
              · simp only [Act.put, List.setIfInBounds_toArray, List.set_cons_zero, List.set_cons_succ, i64_w, i32_w]
                rfl
              refine pure_ (i := 8) (N := some 4) (v := ?_) (a' := ?_) #[true, true, true, false, true, false, false, false, true, false] rfl rfl (any_of HT_.out (by kernel_rfl)) (fun _ _ _ h => h) (Or.inl ⟨by rfl, ?_⟩) ?_ ?_
              rotate_left
              · intro w'
                go_simp
                with_reducible rfl
              rotate_left
              · simp only [Act.put, List.setIfInBounds_toArray, List.set_cons_zero, List.set_cons_succ, i64_w, i32_w]
                rfl
              refine take_ (i := 3) (N := some 40) (v := ?_) (a' := ?_) #[true, true, true, true, true, false, false, false, true, false] rfl rfl (take_ofW HT_.out HW_.out (by kernel_rfl)) (fun _ _ _ h => h) (Or.inl ⟨by rfl, ?_⟩) hHeld ?_ ?_
              rotate_left
              · rintro w' ⟨s0, s1, s2, s3⟩
                go_simp
                with_reducible rfl
              rotate_left
              · simp only [Act.put, List.setIfInBounds_toArray, List.set_cons_zero, List.set_cons_succ, i64_w, i32_w]
                rfl
              refine take_ (i := 5) (N := some 42) (v := ?_) (a' := ?_) #[true, true, true, true, true, true, false, false, true, false] rfl rfl (take_ofW HT_.out HW_.out (by kernel_rfl)) (fun _ _ _ h => h) (Or.inl ⟨by rfl, ?_⟩) hHeld ?_ ?_
              rotate_left
              · rintro w' ⟨s0, s1, s2, s3⟩
                go_simp
                with_reducible rfl
              rotate_left
              · simp only [Act.put, List.setIfInBounds_toArray, List.set_cons_zero, List.set_cons_succ, i64_w, i32_w]
                rfl
              refine pure_ (i := 6) (N := some 43) (v := ?_) (a' := ?_) #[true, true, true, true, true, true, true, false, true, false] rfl rfl (any_of HT_.out (by kernel_rfl)) (fun _ _ _ h => h) (Or.inl ⟨by rfl, ?_⟩) ?_ ?_
              rotate_left
              · intro w'
                go_simp
                with_reducible rfl
              rotate_left
              · simp only [Act.put, List.setIfInBounds_toArray, List.set_cons_zero, List.set_cons_succ, i64_w, i32_w]
                rfl
              refine pure_ (i := 7) (N := some 44) (v := ?_) (a' := ?_) #[true, true, true, true, true, true, true, true, true, false] rfl rfl (any_of HT_.out (by kernel_rfl)) (fun _ _ _ h => h) (Or.inl ⟨by rfl, ?_⟩) ?_ ?_
              rotate_left
              · intro w'
                go_simp
                with_reducible rfl
              rotate_left
              · simp only [Act.put, List.setIfInBounds_toArray, List.set_cons_zero, List.set_cons_succ, i64_w, i32_w]
                rfl
              refine one_ (i := 9) (N := none) #[true, true, true, true, true, true, true, true, true, true] rfl rfl (one_of HT_.out (by kernel_rfl)) (by decide) (fun K hK => ?_)
              have hs50 : w48.cell? ⟨gb118, 0, none⟩ = some (.int .i64 0) := (blk_cell BK118.out 0).trans rfl
              have hfs50 := blk_frozen BK118.out 0
              have hns50_0 := NB117_118.out
              have hms50_0 := NB118_117.out
              have hs51 : w48.cell? ⟨gb118, 1, none⟩ = some (.slice none 0 0) := (blk_cell BK118.out 1).trans rfl
              have hfs51 := blk_frozen BK118.out 1
              have hns51_0 := NB117_118.out
              have hms51_0 := NB118_117.out
              have hs52 : w48.cell? ⟨gb118, 2, none⟩ = some (.slice none 0 0) := (blk_cell BK118.out 2).trans rfl
              have hfs52 := blk_frozen BK118.out 2
              have hns52_0 := NB117_118.out
              have hms52_0 := NB118_117.out
              refine skip_ (w1 := ?_) (by rfl) rfl ?_ ?_
              rotate_left
              · go_simp
                rfl
              refine hK.out _ _ ⟨((cell_far (p := ⟨gb118, _, none⟩) NB117_118.out _).trans (((cell_far (p := ⟨gb118, _, none⟩) NB117_118.out _).trans (((cell_far (p := ⟨gb118, _, none⟩) NB117_118.out _).trans (hHeld.1)))))), ((cell_far (p := ⟨gb118, _, none⟩) NB117_118.out _).trans (((cell_far (p := ⟨gb118, _, none⟩) NB117_118.out _).trans (((cell_far (p := ⟨gb118, _, none⟩) NB117_118.out _).trans (hHeld.2.1)))))), ((cell_far (p := ⟨gb118, _, none⟩) NB117_118.out _).trans (((cell_far (p := ⟨gb118, _, none⟩) NB117_118.out _).trans (((cell_far (p := ⟨gb118, _, none⟩) NB117_118.out _).trans (hHeld.2.2.1)))))), ((cell_far (p := ⟨gb118, _, none⟩) NB117_118.out _).trans (((cell_far (p := ⟨gb118, _, none⟩) NB117_118.out _).trans (((cell_far (p := ⟨gb118, _, none⟩) NB117_118.out _).trans (hHeld.2.2.2))))))⟩ (fun hHeld => ?_)
              clear hK K
              refine done_ (done_of HT_.out (by kernel_rfl)) ?_
              try go_wp2
              refine bodyPost_ret (results_tc rfl _ _ gb118 34 #[.int .i64 0, .slice A49 y148.length c49, .slice none 0 0] (0, 0) _ rfl (by (with_reducible repeat (first | refine blk_drewN ?_ _ | refine blk_drew ?_ | refine blk_alloc ?_ _)); refine blk_put (cs := #[.int .i64 0, .slice A49 y148.length c49, .slice none 0 0]) ?_ 2 _ rfl; (with_reducible repeat (first | refine blk_drewN ?_ _ | refine blk_drew ?_ | refine blk_alloc ?_ _)); refine blk_put (cs := #[.int .i64 0, .slice none 0 0, .slice none 0 0]) ?_ 1 _ rfl; (with_reducible repeat (first | refine blk_drewN ?_ _ | refine blk_drew ?_ | refine blk_alloc ?_ _)); refine blk_put (cs := #[.int .i64 0, .slice none 0 0, .slice none 0 0]) ?_ 0 _ rfl; (with_reducible repeat (first | refine blk_drewN ?_ _ | refine blk_drew ?_ | refine blk_alloc ?_ _)); exact BK118.out) Try.underlying34 rfl (by kernel_rfl)) rfl ?_
              exact ⟨_, _, _, by first | rfl | (simp [errW_none, errW_some] <;> rfl) | (simp [*, errW_none, errW_some] <;> rfl), by (with_reducible repeat (first | apply Kd.V_alloc | apply Kd.V_drewN | apply Kd.V_drew)); exact Kd.V_mono (Kd.V_far (p := ⟨gb118, 2, none⟩) (Kd.V_far (p := ⟨gb118, 1, none⟩) (Kd.V_far (p := ⟨gb118, 0, none⟩) (Kd.V_mono HO0.out (fun k_ hk => (⟨hk, hk.2⟩ : _ ∧ k_ ≠ gb118))) (fun _ hk => hk.2) (.int .i64 0)) (fun _ hk => hk.2) (.slice A49 y148.length c49)) (fun _ hk => hk.2) (.slice none 0 0)) (fun _ hk => ⟨hk.1.1.1, (by simp [Value.ownBlock])⟩), by (with_reducible repeat (first | apply Kd.V_alloc | apply Kd.V_drewN | apply Kd.V_drew)); exact Kd.V_mono (Kd.V_far (p := ⟨gb118, 2, none⟩) (Kd.V_far (p := ⟨gb118, 1, none⟩) (Kd.V_far (p := ⟨gb118, 0, none⟩) (Kd.V_mono HO152.out (fun k_ hk => (⟨hk, hk.2⟩ : _ ∧ k_ ≠ gb118))) (fun _ hk => hk.2) (.int .i64 0)) (fun _ hk => hk.2) (.slice A49 y148.length c49)) (fun _ hk => hk.2) (.slice none 0 0)) (fun _ hk => ⟨hk.1.1.1, (by simp [Value.ownBlock])⟩), by first | exact Kd.R_nil _ _ _ _ _ | exact Kd.N_nil _ _ _ _ _ | exact Kd.V_nil _ _ _ _ _ | exact Kd.Q_nil _ _ _ _ _ | exact Kd.S_nil _ _ _ _ _, by repeat (first | (with_reducible first | exact HB.out | apply below_alloc | apply pw_below_drewN | apply below_drew1 | refine below_set ?_ GE117.out | refine below_set ?_ GE118.out) | exact HB.out)⟩
            · rw [if_neg c43] at H
              exact absurd H (by simp)
          · rw [if_neg c42] at H
            exact absurd H (by simp)
        · rw [if_neg c41] at H
          exact absurd H (by simp)
      · rw [if_neg c40] at H
        have c40b0 : (a1_0 == 2) = false := beq_eq_false_iff_ne.mpr c40
        have c40b1 : (a1_0 != 2) = true := bne_iff_ne.mpr c40
        by_cases c53 : a1_0 = 3
        · rw [if_pos c53] at H
          have c53b0 : (a1_0 == 3) = true := beq_iff_eq.mpr c53
          have c53b1 : (a1_0 != 3) = false := bne_eq_false_iff_eq.mpr c53
          clear c53
          by_cases c54 : 0 ≤ a1_1
          · rw [if_pos c54] at H
            have c54b0 : decide (0 ≤ a1_1) = true := decide_eq_true c54
            clear c54
            by_cases c55 : a1_1 < (l0.length : Int)
            · rw [if_pos c55] at H
              have c55b0 : decide (a1_1 < (l0.length : Int)) = true := decide_eq_true c55
              clear c55
              simp only [Option.some.injEq, Prod.mk.injEq] at H
              obtain ⟨rfl, rfl, rfl, rfl⟩ := H
              go_enter Try.func25, Try.ntmps25
              try go_wp2_with (first | ((with_reducible refine gate_dst (N := 3) rfl ?_); refine box_event ?hg (N := 3) ?hd (cs := #[.int .i64 a1_0, .int .i64 a1_1, .int .i64 a1_2, .slice A1_3 l1_3.length c1_3]) (t := 38) ?hr ?_; (case hd => rfl); (case hg => rfl); (case hr => first | (go_simp; done) | (go_simp; rfl)); intro gb117 hg w56 hbox hb; have n0_ := Aside0.mk (Kd.V_below (Kd.V_elderB (by (with_reducible repeat (first | apply Kd.V_alloc | apply Kd.V_drewN | apply Kd.V_drew)); exact HO0.out) gb117 (Nat.le_of_eq hg.symm)) hb); have n1_ := Aside0.mk (below_step (by repeat (first | (with_reducible first | exact HB.out | apply below_alloc | apply pw_below_drewN | apply below_drew1) | exact HB.out)) hb); have n2_ := Aside0.mk (hbox); have n3_ := Aside0.mk ((by rw [hg]; exact (below_size (by repeat (first | (with_reducible first | exact HB.out | apply below_alloc | apply pw_below_drewN | apply below_drew1) | exact HB.out))) : w.heap.size ≤ gb117)); have n4_ := Aside0.mk ((by rw [hg]; exact (below_size (by repeat (first | (with_reducible first | exact HB.out | apply below_alloc | apply pw_below_drewN | apply below_drew1) | exact HB.out))) : w.heap.size ≤ gb117)); clear HO0; clear HB; have HO0 := n0_; have HB := n1_; have BK117 := n2_; have GW117 := n3_; have GE117 := n4_; clear n0_ n1_ n2_ n3_ n4_; clear hb hbox hg) | ((with_reducible refine gate_dst (N := 5) rfl ?_); refine box_event ?hg (N := 5) ?hd (cs := #[.int .i64 0, .slice none 0 0, .slice none 0 0]) (t := 34) ?hr ?_; (case hd => rfl); (case hg => rfl); (case hr => first | (go_simp; done) | (go_simp; rfl)); intro gb118 hg w57 hbox hb; have n0_ := Aside0.mk (Kd.V_below (Kd.V_elderB (by (with_reducible repeat (first | apply Kd.V_alloc | apply Kd.V_drewN | apply Kd.V_drew)); exact HO0.out) gb118 (Nat.le_of_eq hg.symm)) hb); have n1_ := Aside0.mk (blk_below (g := gb117) (o := .cells #[.int .i64 a1_0, .int .i64 a1_1, .int .i64 a1_2, .slice A1_3 l1_3.length c1_3] 38 (0, 0)) (by (with_reducible repeat (first | refine blk_drewN ?_ _ | refine blk_drew ?_ | refine blk_alloc ?_ _)); exact BK117.out) hb); have n2_ := Aside0.mk (below_step (by repeat (first | (with_reducible first | exact HB.out | apply below_alloc | apply pw_below_drewN | apply below_drew1 | refine below_set ?_ GE117.out) | exact HB.out)) hb); have n3_ := Aside0.mk (hbox); have n4_ := Aside0.mk ((by rw [hg]; exact (below_size (by repeat (first | (with_reducible first | exact HB.out | apply below_alloc | apply pw_below_drewN | apply below_drew1 | refine below_set ?_ GE117.out) | exact HB.out))) : w.heap.size ≤ gb118)); have n5_ := Aside0.mk ((by rw [hg]; exact (below_size (by repeat (first | (with_reducible first | exact HB.out | apply below_alloc | apply pw_below_drewN | apply below_drew1 | refine below_set ?_ GE117.out) | exact HB.out))) : w.heap.size ≤ gb118)); have n6_ := Aside0.mk ((by rw [hg]; exact Nat.ne_of_lt (blk_lt (g := gb117) (o := .cells #[.int .i64 a1_0, .int .i64 a1_1, .int .i64 a1_2, .slice A1_3 l1_3.length c1_3] 38 (0, 0)) (by (with_reducible repeat (first | refine blk_drewN ?_ _ | refine blk_drew ?_ | refine blk_alloc ?_ _)); exact BK117.out)) : gb117 ≠ gb118)); have n7_ := Aside0.mk ((by rw [hg]; exact Nat.ne_of_gt (blk_lt (g := gb117) (o := .cells #[.int .i64 a1_0, .int .i64 a1_1, .int .i64 a1_2, .slice A1_3 l1_3.length c1_3] 38 (0, 0)) (by (with_reducible repeat (first | refine blk_drewN ?_ _ | refine blk_drew ?_ | refine blk_alloc ?_ _)); exact BK117.out)) : gb118 ≠ gb117)); clear HO0; clear BK117; clear HB; have HO0 := n0_; have BK117 := n1_; have HB := n2_; have BK118 := n3_; have GW118 := n4_; have GE118 := n5_; have NB117_118 := n6_; have NB118_117 := n7_; clear n0_ n1_ n2_ n3_ n4_ n5_ n6_ n7_; clear hb hbox hg; have hnb58 := NB117_118.out; have hnc58 := NB118_117.out; have hcz59_0 : w57.cell? ⟨gb117, 0, none⟩ = some (.int .i64 a1_0) := (blk_cell BK117.out 0).trans rfl; have hcz59_1 : w57.cell? ⟨gb117, 1, none⟩ = some (.int .i64 a1_1) := (blk_cell BK117.out 1).trans rfl; have hcz59_2 : w57.cell? ⟨gb117, 2, none⟩ = some (.int .i64 a1_2) := (blk_cell BK117.out 2).trans rfl; have hcz59_3 : w57.cell? ⟨gb117, 3, none⟩ = some (.slice A1_3 l1_3.length c1_3) := (blk_cell BK117.out 3).trans rfl; have hfz59_0 := blk_frozen BK117.out 0; have hfz59_1 := blk_frozen BK117.out 1; have hfz59_2 := blk_frozen BK117.out 2; have hfz59_3 := blk_frozen BK117.out 3))
              have n0_ := Aside0.mk (Kd.V_drew HO0.out)
              have n1_ := Aside0.mk (blk_drew BK117.out)
              have n2_ := Aside0.mk (blk_drew BK118.out)
              have n3_ := Aside0.mk (below_drew1 HB.out)
              clear HO0
              clear BK117
              clear BK118
              clear HB
              have HO0 := n0_
              have BK117 := n1_
              have BK118 := n2_
              have HB := n3_
              clear n0_ n1_ n2_ n3_
              have p153 : 0 ≤ (a1_1 : Int) := of_decide_eq_true (by first | (with_reducible assumption) | assumption)
              have q153 : a1_1 < (l0.length : Int) := of_decide_eq_true (by first | (with_reducible assumption) | assumption)
              obtain ⟨ad153, e153, hx153_0⟩ := Kd.at_int (Kd.V_reads' HO0.out).2.2 a1_1 p153 q153
              cases e153
              replace p153 := eq_true p153
              replace q153 := eq_true q153
              refine start_ (n := 9) (S := fun w' => w'.cell? ⟨gb117, 0, none⟩ = some (.int .i64 a1_0) ∧ w'.cell? ⟨gb117, 1, none⟩ = some (.int .i64 a1_1) ∧ w'.cell? ⟨gb117, 2, none⟩ = some (.int .i64 a1_2) ∧ w'.cell? ⟨gb117, 3, none⟩ = some (.slice A1_3 l1_3.length c1_3) ∧ w'.cell? (ad153.add (a1_1).toNat) = some (.int .i64 (rd l0 a1_1))) (ds := []) #[false, false, false, false, false, false, false, false, false] (by kernel_rfl) rfl rfl ⟨(blk_cell BK117.out 0).trans rfl, (blk_cell BK117.out 1).trans rfl, (blk_cell BK117.out 2).trans rfl, (blk_cell BK117.out 3).trans rfl, hx153_0⟩ (fun hHeld => ?_); refine with_tabW spec_Cutting.tab9 spec_Cutting.bits9 (fun HT_ HW_ => ?_)
              generalize w57.drew = w60 at HO0 BK117 BK118 HB hx153_0 hHeld ⊢
              refine pure_ (i := 0) (N := some 47) (v := ?_) (a' := ?_) #[true, false, false, false, false, false, false, false, false] rfl rfl (any_of HT_.out (by kernel_rfl)) (fun _ _ _ h => h) (Or.inl ⟨by rfl, ?_⟩) ?_ ?_
              rotate_left
              · intro w'
                go_simp
                with_reducible rfl
              rotate_left
              · simp only [Act.put, List.setIfInBounds_toArray, List.set_cons_zero, List.set_cons_succ, i64_w, i32_w]
                rfl
              refine pure_ (i := 1) (N := some 48) (v := ?_) (a' := ?_) #[true, true, false, false, false, false, false, false, false] rfl rfl (any_of HT_.out (by kernel_rfl)) (fun _ _ _ h => h) (Or.inl ⟨by rfl, ?_⟩) ?_ ?_
              rotate_left
              · intro w'
                go_simp
                with_reducible rfl
              rotate_left
              · simp only [Act.put, List.setIfInBounds_toArray, List.set_cons_zero, List.set_cons_succ, i64_w, i32_w]
                rfl
              refine pure_ (i := 2) (N := some 49) (v := ?_) (a' := ?_) #[true, true, true, false, false, false, false, false, false] rfl rfl (any_of HT_.out (by kernel_rfl)) (fun _ _ _ h => h) (Or.inl ⟨by rfl, ?_⟩) ?_ ?_
              rotate_left
              · intro w'
                go_simp
                with_reducible rfl
              rotate_left
              · simp only [Act.put, List.setIfInBounds_toArray, List.set_cons_zero, List.set_cons_succ, i64_w, i32_w]
                rfl
              refine pure_ (i := 7) (N := some 4) (v := ?_) (a' := ?_) #[true, true, true, false, false, false, false, true, false] rfl rfl (any_of HT_.out (by kernel_rfl)) (fun _ _ _ h => h) (Or.inl ⟨by rfl, ?_⟩) ?_ ?_
              rotate_left
              · intro w'
                go_simp
                with_reducible rfl
              rotate_left
              · simp only [Act.put, List.setIfInBounds_toArray, List.set_cons_zero, List.set_cons_succ, i64_w, i32_w]
                rfl
              refine take_ (i := 3) (N := some 50) (v := ?_) (a' := ?_) #[true, true, true, true, false, false, false, true, false] rfl rfl (take_ofW HT_.out HW_.out (by kernel_rfl)) (fun _ _ _ h => h) (Or.inl ⟨by rfl, ?_⟩) hHeld ?_ ?_
              rotate_left
              · rintro w' ⟨s0, s1, s2, s3, s4⟩
                go_simp
                with_reducible rfl
              rotate_left
              · simp only [Act.put, List.setIfInBounds_toArray, List.set_cons_zero, List.set_cons_succ, i64_w, i32_w]
                rfl
              refine pure_ (i := 4) (N := some 51) (v := ?_) (a' := ?_) #[true, true, true, true, true, false, false, true, false] rfl rfl (any_of HT_.out (by kernel_rfl)) (fun _ _ _ h => h) (Or.inl ⟨by rfl, ?_⟩) ?_ ?_
              rotate_left
              · intro w'
                go_simp
                with_reducible rfl
              rotate_left
              · simp only [Act.put, List.setIfInBounds_toArray, List.set_cons_zero, List.set_cons_succ, i64_w, i32_w]
                rfl
              refine take_ (i := 5) (N := some 52) (v := ?_) (a' := ?_) #[true, true, true, true, true, true, false, true, false] rfl rfl (take_ofW HT_.out HW_.out (by kernel_rfl)) (fun _ _ _ h => h) (Or.inl ⟨by rfl, ?_⟩) hHeld ?_ ?_
              rotate_left
              · rintro w' ⟨s0, s1, s2, s3, s4⟩
                go_simp
                with_reducible rfl
              rotate_left
              · simp only [Act.put, List.setIfInBounds_toArray, List.set_cons_zero, List.set_cons_succ, i64_w, i32_w]
                rfl
              refine pure_ (i := 6) (N := some 53) (v := ?_) (a' := ?_) #[true, true, true, true, true, true, true, true, false] rfl rfl (any_of HT_.out (by kernel_rfl)) (fun _ _ _ h => h) (Or.inl ⟨by rfl, ?_⟩) ?_ ?_
              rotate_left
              · intro w'
                go_simp
                with_reducible rfl
              rotate_left
              · simp only [Act.put, List.setIfInBounds_toArray, List.set_cons_zero, List.set_cons_succ, i64_w, i32_w]
                rfl
              refine one_ (i := 8) (N := none) #[true, true, true, true, true, true, true, true, true] rfl rfl (one_of HT_.out (by kernel_rfl)) (by decide) (fun K hK => ?_)
              have hs61 : w60.cell? ⟨gb118, 0, none⟩ = some (.int .i64 0) := (blk_cell BK118.out 0).trans rfl
              have hfs61 := blk_frozen BK118.out 0
              have hns61_0 := NB117_118.out
              have hms61_0 := NB118_117.out
              have hs62 : w60.cell? ⟨gb118, 1, none⟩ = some (.slice none 0 0) := (blk_cell BK118.out 1).trans rfl
              have hfs62 := blk_frozen BK118.out 1
              have hns62_0 := NB117_118.out
              have hms62_0 := NB118_117.out
              have hs63 : w60.cell? ⟨gb118, 2, none⟩ = some (.slice none 0 0) := (blk_cell BK118.out 2).trans rfl
              have hfs63 := blk_frozen BK118.out 2
              have hns63_0 := NB117_118.out
              have hms63_0 := NB118_117.out
              refine skip_ (w1 := ?_) (by rfl) rfl ?_ ?_
              rotate_left
              · go_simp
                rfl
              refine hK.out _ _ ⟨((cell_far (p := ⟨gb118, _, none⟩) NB117_118.out _).trans (((cell_far (p := ⟨gb118, _, none⟩) NB117_118.out _).trans (((cell_far (p := ⟨gb118, _, none⟩) NB117_118.out _).trans (hHeld.1)))))), ((cell_far (p := ⟨gb118, _, none⟩) NB117_118.out _).trans (((cell_far (p := ⟨gb118, _, none⟩) NB117_118.out _).trans (((cell_far (p := ⟨gb118, _, none⟩) NB117_118.out _).trans (hHeld.2.1)))))), ((cell_far (p := ⟨gb118, _, none⟩) NB117_118.out _).trans (((cell_far (p := ⟨gb118, _, none⟩) NB117_118.out _).trans (((cell_far (p := ⟨gb118, _, none⟩) NB117_118.out _).trans (hHeld.2.2.1)))))), ((cell_far (p := ⟨gb118, _, none⟩) NB117_118.out _).trans (((cell_far (p := ⟨gb118, _, none⟩) NB117_118.out _).trans (((cell_far (p := ⟨gb118, _, none⟩) NB117_118.out _).trans (hHeld.2.2.2.1)))))), ((cell_far (p := ⟨gb118, _, none⟩) (Cut_away HO0.out (fun _ hk => hk.2) p153 q153) _).trans (((cell_far (p := ⟨gb118, _, none⟩) (Cut_away HO0.out (fun _ hk => hk.2) p153 q153) _).trans (((cell_far (p := ⟨gb118, _, none⟩) (Cut_away HO0.out (fun _ hk => hk.2) p153 q153) _).trans (hHeld.2.2.2.2))))))⟩ (fun hHeld => ?_)
              clear hK K
              refine done_ (done_of HT_.out (by kernel_rfl)) ?_
              try go_wp2
              refine bodyPost_ret (results_tc rfl _ _ gb118 34 #[.int .i64 (rd l0 a1_1), .slice none 0 0, .slice none 0 0] (0, 0) _ rfl (by (with_reducible repeat (first | refine blk_drewN ?_ _ | refine blk_drew ?_ | refine blk_alloc ?_ _)); refine blk_put (cs := #[.int .i64 (rd l0 a1_1), .slice none 0 0, .slice none 0 0]) ?_ 2 _ rfl; (with_reducible repeat (first | refine blk_drewN ?_ _ | refine blk_drew ?_ | refine blk_alloc ?_ _)); refine blk_put (cs := #[.int .i64 (rd l0 a1_1), .slice none 0 0, .slice none 0 0]) ?_ 1 _ rfl; (with_reducible repeat (first | refine blk_drewN ?_ _ | refine blk_drew ?_ | refine blk_alloc ?_ _)); refine blk_put (cs := #[.int .i64 0, .slice none 0 0, .slice none 0 0]) ?_ 0 _ rfl; (with_reducible repeat (first | refine blk_drewN ?_ _ | refine blk_drew ?_ | refine blk_alloc ?_ _)); exact BK118.out) Try.underlying34 rfl (by kernel_rfl)) rfl ?_
              exact ⟨_, _, _, by first | rfl | (simp [errW_none, errW_some] <;> rfl) | (simp [*, errW_none, errW_some] <;> rfl), by (with_reducible repeat (first | apply Kd.V_alloc | apply Kd.V_drewN | apply Kd.V_drew)); exact Kd.V_mono (Kd.V_far (p := ⟨gb118, 2, none⟩) (Kd.V_far (p := ⟨gb118, 1, none⟩) (Kd.V_far (p := ⟨gb118, 0, none⟩) (Kd.V_mono HO0.out (fun k_ hk => (⟨hk, hk.2⟩ : _ ∧ k_ ≠ gb118))) (fun _ hk => hk.2) (.int .i64 (rd l0 a1_1))) (fun _ hk => hk.2) (.slice none 0 0)) (fun _ hk => hk.2) (.slice none 0 0)) (fun _ hk => ⟨hk.1.1.1, (by simp [Value.ownBlock])⟩), Kd.V_nil _ _ _ _ _, by first | exact Kd.R_nil _ _ _ _ _ | exact Kd.N_nil _ _ _ _ _ | exact Kd.V_nil _ _ _ _ _ | exact Kd.Q_nil _ _ _ _ _ | exact Kd.S_nil _ _ _ _ _, by repeat (first | (with_reducible first | exact HB.out | apply below_alloc | apply pw_below_drewN | apply below_drew1 | refine below_set ?_ GE117.out | refine below_set ?_ GE118.out) | exact HB.out)⟩
            · rw [if_neg c55] at H
              exact absurd H (by simp)
          · rw [if_neg c54] at H
            exact absurd H (by simp)
        · rw [if_neg c53] at H
          have c53b0 : (a1_0 == 3) = false := beq_eq_false_iff_ne.mpr c53
          have c53b1 : (a1_0 != 3) = true := bne_iff_ne.mpr c53
          have HC64 := Aside0.mk H
          clear H
          go_enter Try.func25, Try.ntmps25
          go_upto_if 54 with (first | ((with_reducible refine gate_dst (N := 3) rfl ?_); refine box_event ?hg (N := 3) ?hd (cs := #[.int .i64 a1_0, .int .i64 a1_1, .int .i64 a1_2, .slice A1_3 l1_3.length c1_3]) (t := 38) ?hr ?_; (case hd => rfl); (case hg => rfl); (case hr => first | (go_simp; done) | (go_simp; rfl)); intro gb117 hg w65 hbox hb; have n0_ := Aside0.mk (Kd.V_below (Kd.V_elderB (by (with_reducible repeat (first | apply Kd.V_alloc | apply Kd.V_drewN | apply Kd.V_drew)); exact HO0.out) gb117 (Nat.le_of_eq hg.symm)) hb); have n1_ := Aside0.mk (below_step (by repeat (first | (with_reducible first | exact HB.out | apply below_alloc | apply pw_below_drewN | apply below_drew1) | exact HB.out)) hb); have n2_ := Aside0.mk (hbox); have n3_ := Aside0.mk ((by rw [hg]; exact (below_size (by repeat (first | (with_reducible first | exact HB.out | apply below_alloc | apply pw_below_drewN | apply below_drew1) | exact HB.out))) : w.heap.size ≤ gb117)); have n4_ := Aside0.mk ((by rw [hg]; exact (below_size (by repeat (first | (with_reducible first | exact HB.out | apply below_alloc | apply pw_below_drewN | apply below_drew1) | exact HB.out))) : w.heap.size ≤ gb117)); clear HO0; clear HB; have HO0 := n0_; have HB := n1_; have BK117 := n2_; have GW117 := n3_; have GE117 := n4_; clear n0_ n1_ n2_ n3_ n4_; clear hb hbox hg) | ((with_reducible refine gate_dst (N := 5) rfl ?_); refine box_event ?hg (N := 5) ?hd (cs := #[.int .i64 0, .slice none 0 0, .slice none 0 0]) (t := 34) ?hr ?_; (case hd => rfl); (case hg => rfl); (case hr => first | (go_simp; done) | (go_simp; rfl)); intro gb118 hg w66 hbox hb; have n0_ := Aside0.mk (Kd.V_below (Kd.V_elderB (by (with_reducible repeat (first | apply Kd.V_alloc | apply Kd.V_drewN | apply Kd.V_drew)); exact HO0.out) gb118 (Nat.le_of_eq hg.symm)) hb); have n1_ := Aside0.mk (blk_below (g := gb117) (o := .cells #[.int .i64 a1_0, .int .i64 a1_1, .int .i64 a1_2, .slice A1_3 l1_3.length c1_3] 38 (0, 0)) (by (with_reducible repeat (first | refine blk_drewN ?_ _ | refine blk_drew ?_ | refine blk_alloc ?_ _)); exact BK117.out) hb); have n2_ := Aside0.mk (below_step (by repeat (first | (with_reducible first | exact HB.out | apply below_alloc | apply pw_below_drewN | apply below_drew1 | refine below_set ?_ GE117.out) | exact HB.out)) hb); have n3_ := Aside0.mk (hbox); have n4_ := Aside0.mk ((by rw [hg]; exact (below_size (by repeat (first | (with_reducible first | exact HB.out | apply below_alloc | apply pw_below_drewN | apply below_drew1 | refine below_set ?_ GE117.out) | exact HB.out))) : w.heap.size ≤ gb118)); have n5_ := Aside0.mk ((by rw [hg]; exact (below_size (by repeat (first | (with_reducible first | exact HB.out | apply below_alloc | apply pw_below_drewN | apply below_drew1 | refine below_set ?_ GE117.out) | exact HB.out))) : w.heap.size ≤ gb118)); have n6_ := Aside0.mk ((by rw [hg]; exact Nat.ne_of_lt (blk_lt (g := gb117) (o := .cells #[.int .i64 a1_0, .int .i64 a1_1, .int .i64 a1_2, .slice A1_3 l1_3.length c1_3] 38 (0, 0)) (by (with_reducible repeat (first | refine blk_drewN ?_ _ | refine blk_drew ?_ | refine blk_alloc ?_ _)); exact BK117.out)) : gb117 ≠ gb118)); have n7_ := Aside0.mk ((by rw [hg]; exact Nat.ne_of_gt (blk_lt (g := gb117) (o := .cells #[.int .i64 a1_0, .int .i64 a1_1, .int .i64 a1_2, .slice A1_3 l1_3.length c1_3] 38 (0, 0)) (by (with_reducible repeat (first | refine blk_drewN ?_ _ | refine blk_drew ?_ | refine blk_alloc ?_ _)); exact BK117.out)) : gb118 ≠ gb117)); clear HO0; clear BK117; clear HB; have HO0 := n0_; have BK117 := n1_; have HB := n2_; have BK118 := n3_; have GW118 := n4_; have GE118 := n5_; have NB117_118 := n6_; have NB118_117 := n7_; clear n0_ n1_ n2_ n3_ n4_ n5_ n6_ n7_; clear hb hbox hg; have hnb67 := NB117_118.out; have hnc67 := NB118_117.out; have hcz68_0 : w66.cell? ⟨gb117, 0, none⟩ = some (.int .i64 a1_0) := (blk_cell BK117.out 0).trans rfl; have hcz68_1 : w66.cell? ⟨gb117, 1, none⟩ = some (.int .i64 a1_1) := (blk_cell BK117.out 1).trans rfl; have hcz68_2 : w66.cell? ⟨gb117, 2, none⟩ = some (.int .i64 a1_2) := (blk_cell BK117.out 2).trans rfl; have hcz68_3 : w66.cell? ⟨gb117, 3, none⟩ = some (.slice A1_3 l1_3.length c1_3) := (blk_cell BK117.out 3).trans rfl; have hfz68_0 := blk_frozen BK117.out 0; have hfz68_1 := blk_frozen BK117.out 1; have hfz68_2 := blk_frozen BK117.out 2; have hfz68_3 := blk_frozen BK117.out 3))
          (try simp only [Act.put, List.setIfInBounds_toArray, List.set_cons_zero, List.set_cons_succ])
          go_cut [54] (fun v54 wc => ∃ (kq : Nat) (x54_63 : Bool), v54 = .bool x54_63 ∧ Aside0 (spec_Cutting.j0 kq l0 a1_0 x54_63 a1_0 a1_1 a1_2 l1_3 = some (r1, r2, r3, r4)) ∧ Aside0 (kq ≤ k) ∧ Aside0 (Kd.V (Kd.int .i64) 3 wc w.heap.size (fun k_ => (P0_ k_ ∨ w.heap.size ≤ k_) ∧ k_ ≠ gb117 ∧ k_ ≠ gb118) (.slice A0 l0.length c0) l0) ∧ Aside0 (wc.heap[gb117]? = some (.cells #[.int .i64 a1_0, .int .i64 a1_1, .int .i64 a1_2, (.slice A1_3 l1_3.length c1_3)] 38 (0, 0))) ∧ Aside0 (wc.heap[gb118]? = some (.cells #[.int .i64 0, (.slice none 0 0), (.slice none 0 0)] 34 (0, 0))) ∧ Aside0 (Below w.heap.size w wc))
          case first =>
            have H := HC64.out
            clear HC64
            by_cases c69 : a1_0 = 4
            · rw [if_pos c69] at H
              have c69b0 : (a1_0 == 4) = true := beq_iff_eq.mpr c69
              have c69b1 : (a1_0 != 4) = false := bne_eq_false_iff_eq.mpr c69
              clear c69
              (first | rw [c69b0] | (simp only [i64_w, i32_w]; rw [c69b0]) | skip)
              have H' := Aside0.mk H
              clear H
              go_wp2
              go_meet
              case rel => exact ⟨_, ((a1_0 == 4)), (by first | rfl | (simp; done) | (simp [*]; done)), H', ⟨by first | omega | exact Nat.le_refl _⟩, ⟨by (with_reducible repeat (first | apply Kd.V_alloc | apply Kd.V_drewN | apply Kd.V_drew)); exact Kd.V_mono HO0.out (fun _ hk => ⟨hk.1.1, ⟨hk.1.2, hk.2⟩⟩)⟩, ⟨by (with_reducible repeat (first | refine blk_drewN ?_ _ | refine blk_drew ?_ | refine blk_alloc ?_ _)); exact BK117.out⟩, ⟨by (with_reducible repeat (first | refine blk_drewN ?_ _ | refine blk_drew ?_ | refine blk_alloc ?_ _)); exact BK118.out⟩, ⟨by repeat (first | (with_reducible first | exact HB.out | apply below_alloc | apply pw_below_drewN | apply below_drew1 | refine below_set ?_ GE117.out | refine below_set ?_ GE118.out) | exact HB.out)⟩⟩
            · rw [if_neg c69] at H
              have c69b0 : (a1_0 == 4) = false := beq_eq_false_iff_ne.mpr c69
              have c69b1 : (a1_0 != 4) = true := bne_iff_ne.mpr c69
              (first | rw [c69b0] | (simp only [i64_w, i32_w]; rw [c69b0]) | skip)
              have H' := Aside0.mk H
              clear H
              go_wp2
              go_meet
              case rel => exact ⟨_, ((a1_0 == 11)), (by first | rfl | (simp; done) | (simp [*]; done)), H', ⟨by first | omega | exact Nat.le_refl _⟩, ⟨by (with_reducible repeat (first | apply Kd.V_alloc | apply Kd.V_drewN | apply Kd.V_drew)); exact Kd.V_mono HO0.out (fun _ hk => ⟨hk.1.1, ⟨hk.1.2, hk.2⟩⟩)⟩, ⟨by (with_reducible repeat (first | refine blk_drewN ?_ _ | refine blk_drew ?_ | refine blk_alloc ?_ _)); exact BK117.out⟩, ⟨by (with_reducible repeat (first | refine blk_drewN ?_ _ | refine blk_drew ?_ | refine blk_alloc ?_ _)); exact BK118.out⟩, ⟨by repeat (first | (with_reducible first | exact HB.out | apply below_alloc | apply pw_below_drewN | apply below_drew1 | refine below_set ?_ GE117.out | refine below_set ?_ GE118.out) | exact HB.out)⟩⟩
          case rest =>
            clear HC64
            try clear c1
            try clear p1
            try clear q1
            try clear hx1
            try clear c2
            try clear p2
            try clear c3
            try clear c3b0
            try clear c3b1
            try clear q3
            try clear c4
            try clear q4
            try clear c5
            try clear c6
            try clear c9
            try clear p15
            try clear q15
            try clear hx15
            try clear c23
            try clear c23b0
            try clear c23b1
            try clear c24
            try clear c24b0
            try clear c24b1
            try clear c25
            try clear c25b0
            try clear c25b1
            try clear c26
            try clear c26b0
            try clear c26b1
            try clear c27
            try clear c27b0
            try clear c27b1
            try clear c31
            try clear q34
            try clear c35
            try clear q35
            try clear c40
            try clear c40b0
            try clear c40b1
            try clear c41
            try clear c41b0
            try clear c41b1
            try clear c42
            try clear c42b0
            try clear c42b1
            try clear c43
            try clear c43b0
            try clear c43b1
            try clear c46
            try clear c49
            try clear q49
            try clear c53
            try clear c53b0
            try clear c53b1
            try clear c54
            try clear c54b0
            try clear c55
            try clear c55b0
            try clear c58
            try clear c67
            try clear c69
            try clear c69b0
            try clear c69b1
            try clear hcz32_0
            try clear hcz32_1
            try clear hcz32_2
            try clear hcz32_3
            try clear hcz47_0
            try clear hcz47_1
            try clear hcz47_2
            try clear hcz47_3
            try clear hcz59_0
            try clear hcz59_1
            try clear hcz59_2
            try clear hcz59_3
            try clear hcz68_0
            try clear hcz68_1
            try clear hcz68_2
            try clear hcz68_3
            try clear hfz32_0
            try clear hfz32_1
            try clear hfz32_2
            try clear hfz32_3
            try clear hfz47_0
            try clear hfz47_1
            try clear hfz47_2
            try clear hfz47_3
            try clear hfz59_0
            try clear hfz59_1
            try clear hfz59_2
            try clear hfz59_3
            try clear hfz68_0
            try clear hfz68_1
            try clear hfz68_2
            try clear hfz68_3
            try clear hx153_0
            try clear p153
            try clear q035
            try clear q049
            try clear q153
            try clear q34
            try clear q35
            try clear q49
            obtain ⟨kq, x54_63, rfl, HA, HJ63, HO_0, BK117, BK118, HB⟩ := hcut
            cases kq with
            | zero => exact absurd HA.out (by simp [spec_Cutting.j0])
            | succ kj63 =>
              have H := HA.out
              clear HA
              simp only [spec_Cutting.j0] at H
              by_cases c70 : x54_63 = true
              · subst c70
                have H1 : (some (l0, 0, l0, ([] : List Int))) = some (r1, r2, r3, r4) := by rw [if_pos rfl] at H; exact H
                clear H
                have H := H1
                clear H1
                simp only [Option.some.injEq, Prod.mk.injEq] at H
                obtain ⟨rfl, rfl, rfl, rfl⟩ := H
                have hnb71 := NB118_117.out
                have hnc71 := NB117_118.out
                have hcz72_0 : wc.cell? ⟨gb118, 0, none⟩ = some (.int .i64 0) := (blk_cell BK118.out 0).trans rfl
                have hcz72_1 : wc.cell? ⟨gb118, 1, none⟩ = some (.slice none 0 0) := (blk_cell BK118.out 1).trans rfl
                have hcz72_2 : wc.cell? ⟨gb118, 2, none⟩ = some (.slice none 0 0) := (blk_cell BK118.out 2).trans rfl
                have hfz72_0 := blk_frozen BK118.out 0
                have hfz72_1 := blk_frozen BK118.out 1
                have hfz72_2 := blk_frozen BK118.out 2
                go_wp2
                refine bodyPost_ret (results_tc rfl _ _ gb118 34 #[.int .i64 0, .slice A0 l0.length c0, .slice none 0 0] (0, 0) _ rfl (by (with_reducible repeat (first | refine blk_drewN ?_ _ | refine blk_drew ?_ | refine blk_alloc ?_ _)); refine blk_put (cs := #[.int .i64 0, .slice A0 l0.length c0, .slice none 0 0]) ?_ 2 _ rfl; (with_reducible repeat (first | refine blk_drewN ?_ _ | refine blk_drew ?_ | refine blk_alloc ?_ _)); refine blk_put (cs := #[.int .i64 0, .slice none 0 0, .slice none 0 0]) ?_ 1 _ rfl; (with_reducible repeat (first | refine blk_drewN ?_ _ | refine blk_drew ?_ | refine blk_alloc ?_ _)); refine blk_put (cs := #[.int .i64 0, .slice none 0 0, .slice none 0 0]) ?_ 0 _ rfl; (with_reducible repeat (first | refine blk_drewN ?_ _ | refine blk_drew ?_ | refine blk_alloc ?_ _)); exact BK118.out) Try.underlying34 rfl (by kernel_rfl)) rfl ?_
                exact ⟨_, _, _, by first | rfl | (simp [errW_none, errW_some] <;> rfl) | (simp [*, errW_none, errW_some] <;> rfl), by (with_reducible repeat (first | apply Kd.V_alloc | apply Kd.V_drewN | apply Kd.V_drew)); exact Kd.V_mono (Kd.V_far (p := ⟨gb118, 2, none⟩) (Kd.V_far (p := ⟨gb118, 1, none⟩) (Kd.V_far (p := ⟨gb118, 0, none⟩) (Kd.V_mono HO_0.out (fun k_ hk => (⟨hk, hk.2.2⟩ : _ ∧ k_ ≠ gb118))) (fun _ hk => hk.2) (.int .i64 0)) (fun _ hk => hk.2) (.slice A0 l0.length c0)) (fun _ hk => hk.2) (.slice none 0 0)) (fun _ hk => ⟨hk.1.1, (by simp [Value.ownBlock])⟩), by (with_reducible repeat (first | apply Kd.V_alloc | apply Kd.V_drewN | apply Kd.V_drew)); exact Kd.V_mono (Kd.V_far (p := ⟨gb118, 2, none⟩) (Kd.V_far (p := ⟨gb118, 1, none⟩) (Kd.V_far (p := ⟨gb118, 0, none⟩) (Kd.V_mono HO_0.out (fun k_ hk => (⟨hk, hk.2.2⟩ : _ ∧ k_ ≠ gb118))) (fun _ hk => hk.2) (.int .i64 0)) (fun _ hk => hk.2) (.slice A0 l0.length c0)) (fun _ hk => hk.2) (.slice none 0 0)) (fun _ hk => ⟨hk.1.1, (by simp [Value.ownBlock])⟩), by first | exact Kd.R_nil _ _ _ _ _ | exact Kd.N_nil _ _ _ _ _ | exact Kd.V_nil _ _ _ _ _ | exact Kd.Q_nil _ _ _ _ _ | exact Kd.S_nil _ _ _ _ _, by repeat (first | (with_reducible first | exact HB.out | apply below_alloc | apply pw_below_drewN | apply below_drew1 | refine below_set ?_ GE117.out | refine below_set ?_ GE118.out) | exact HB.out)⟩
              · replace c70 := Bool.eq_false_iff.mpr c70
                subst c70
                have H1 : (if a1_0 = 5 then (some (l0, (l0.length : Int), ([] : List Int), ([] : List Int))) else (if a1_0 = 6 then (if 0 ≤ a1_1 then (if a1_1 ≤ (l0.length : Int) then ((spec_Both.f (l0.drop (a1_1 : Int).toNat) (l0.take (a1_1 : Int).toNat)).bind fun t164 => (some (t164, 0, ([] : List Int), ([] : List Int)))) else (none)) else (none)) else (if a1_0 = 7 then ((spec_Both.f l0 l1_3).bind fun t167 => (some (t167, 0, ([] : List Int), ([] : List Int)))) else (if a1_0 = 8 then ((spec_Both.f l1_3 l0).bind fun t170 => (some (t170, 0, ([] : List Int), ([] : List Int)))) else (if a1_0 = 9 then (if 0 ≤ a1_1 then (if a1_1 ≤ (l0.length : Int) then (some ((l0.take (a1_1 : Int).toNat), 0, ([] : List Int), ([] : List Int))) else (none)) else (none)) else (if a1_0 = 10 then (if 0 ≤ a1_1 then (if a1_1 ≤ (l0.length : Int) then (some ((l0.drop (a1_1 : Int).toNat), 0, ([] : List Int), ([] : List Int))) else (none)) else (none)) else (some (l0, 0, ([] : List Int), ([] : List Int))))))))) = some (r1, r2, r3, r4) := by rw [if_neg (show ¬ (false = true) by decide)] at H; exact H
                clear H
                have H := H1
                clear H1
                by_cases c73 : a1_0 = 5
                · rw [if_pos c73] at H
                  have c73b0 : (a1_0 == 5) = true := beq_iff_eq.mpr c73
                  have c73b1 : (a1_0 != 5) = false := bne_eq_false_iff_eq.mpr c73
                  clear c73
                  simp only [Option.some.injEq, Prod.mk.injEq] at H
                  obtain ⟨rfl, rfl, rfl, rfl⟩ := H
                  have hnb74 := NB118_117.out
                  have hnc74 := NB117_118.out
                  have hcz75_0 : wc.cell? ⟨gb118, 0, none⟩ = some (.int .i64 0) := (blk_cell BK118.out 0).trans rfl
                  have hcz75_1 : wc.cell? ⟨gb118, 1, none⟩ = some (.slice none 0 0) := (blk_cell BK118.out 1).trans rfl
                  have hcz75_2 : wc.cell? ⟨gb118, 2, none⟩ = some (.slice none 0 0) := (blk_cell BK118.out 2).trans rfl
                  have hfz75_0 := blk_frozen BK118.out 0
                  have hfz75_1 := blk_frozen BK118.out 1
                  have hfz75_2 := blk_frozen BK118.out 2
                  go_wp2
                  refine bodyPost_ret (results_tc rfl _ _ gb118 34 #[.int .i64 (l0.length : Int), .slice none 0 0, .slice none 0 0] (0, 0) _ rfl (by (with_reducible repeat (first | refine blk_drewN ?_ _ | refine blk_drew ?_ | refine blk_alloc ?_ _)); refine blk_put (cs := #[.int .i64 (l0.length : Int), .slice none 0 0, .slice none 0 0]) ?_ 2 _ rfl; (with_reducible repeat (first | refine blk_drewN ?_ _ | refine blk_drew ?_ | refine blk_alloc ?_ _)); refine blk_put (cs := #[.int .i64 (l0.length : Int), .slice none 0 0, .slice none 0 0]) ?_ 1 _ rfl; (with_reducible repeat (first | refine blk_drewN ?_ _ | refine blk_drew ?_ | refine blk_alloc ?_ _)); refine blk_put (cs := #[.int .i64 0, .slice none 0 0, .slice none 0 0]) ?_ 0 _ rfl; (with_reducible repeat (first | refine blk_drewN ?_ _ | refine blk_drew ?_ | refine blk_alloc ?_ _)); exact BK118.out) Try.underlying34 rfl (by kernel_rfl)) rfl ?_
                  exact ⟨_, _, _, by first | rfl | (simp [errW_none, errW_some] <;> rfl) | (simp [*, errW_none, errW_some] <;> rfl), by (with_reducible repeat (first | apply Kd.V_alloc | apply Kd.V_drewN | apply Kd.V_drew)); exact Kd.V_mono (Kd.V_far (p := ⟨gb118, 2, none⟩) (Kd.V_far (p := ⟨gb118, 1, none⟩) (Kd.V_far (p := ⟨gb118, 0, none⟩) (Kd.V_mono HO_0.out (fun k_ hk => (⟨hk, hk.2.2⟩ : _ ∧ k_ ≠ gb118))) (fun _ hk => hk.2) (.int .i64 (l0.length : Int))) (fun _ hk => hk.2) (.slice none 0 0)) (fun _ hk => hk.2) (.slice none 0 0)) (fun _ hk => ⟨hk.1.1, (by simp [Value.ownBlock])⟩), Kd.V_nil _ _ _ _ _, by first | exact Kd.R_nil _ _ _ _ _ | exact Kd.N_nil _ _ _ _ _ | exact Kd.V_nil _ _ _ _ _ | exact Kd.Q_nil _ _ _ _ _ | exact Kd.S_nil _ _ _ _ _, by repeat (first | (with_reducible first | exact HB.out | apply below_alloc | apply pw_below_drewN | apply below_drew1 | refine below_set ?_ GE117.out | refine below_set ?_ GE118.out) | exact HB.out)⟩
                · rw [if_neg c73] at H
                  have c73b0 : (a1_0 == 5) = false := beq_eq_false_iff_ne.mpr c73
                  have c73b1 : (a1_0 != 5) = true := bne_iff_ne.mpr c73
                  by_cases c76 : a1_0 = 6
                  · rw [if_pos c76] at H
                    have c76b0 : (a1_0 == 6) = true := beq_iff_eq.mpr c76
                    have c76b1 : (a1_0 != 6) = false := bne_eq_false_iff_eq.mpr c76
                    clear c76
                    by_cases c77 : 0 ≤ a1_1
                    · rw [if_pos c77] at H
                      have c77b0 := eq_true c77
                      have c77b1 : decide (0 ≤ a1_1) = true := decide_eq_true c77
                      clear c77
                      by_cases c78 : a1_1 ≤ (l0.length : Int)
                      · rw [if_pos c78] at H
                        have c78b0 := eq_true c78
                        have c78b1 : decide (a1_1 ≤ (l0.length : Int)) = true := decide_eq_true c78
                        clear c78
                        obtain ⟨y154, hy154⟩ : ∃ y_ : List Int, y_ = (l0.drop (a1_1 : Int).toNat) := ⟨_, rfl⟩
                        replace H : ((spec_Both.f y154 (l0.take (a1_1 : Int).toNat)).bind fun t164 => (some (t164, 0, ([] : List Int), ([] : List Int)))) = some (r1, r2, r3, r4) := by first | (rw [hy154]; with_reducible exact H) | (have H2_ := (Option.bind_some _ _).symm.trans H; rw [hy154]; with_reducible exact H2_) | (have H2_ := (Option.bind_some _ _).symm.trans H; with_reducible exact H2_) | with_reducible exact H | (rw [hy154]; exact H) | exact H
                        have Ny154 := Aside0.mk hy154
                        clear hy154
                        have c79b0 := eq_true (of_decide_eq_true (by first | (with_reducible assumption) | assumption) : 0 ≤ a1_1)
                        have c80b0 := eq_true (of_decide_eq_true (by first | (with_reducible assumption) | assumption) : a1_1 ≤ (l0.length : Int))
                        obtain ⟨y159, hy159⟩ : ∃ y_ : List Int, y_ = (l0.take (a1_1 : Int).toNat) := ⟨_, rfl⟩
                        replace H : ((spec_Both.f y154 y159).bind fun t164 => (some (t164, 0, ([] : List Int), ([] : List Int)))) = some (r1, r2, r3, r4) := by first | (rw [hy159]; with_reducible exact H) | (have H2_ := (Option.bind_some _ _).symm.trans H; rw [hy159]; with_reducible exact H2_) | (have H2_ := (Option.bind_some _ _).symm.trans H; with_reducible exact H2_) | with_reducible exact H | (rw [hy159]; exact H) | exact H
                        have Ny159 := Aside0.mk hy159
                        clear hy159
                        replace H := Option.bind_eq_some_iff.mp H
                        obtain ⟨t164, A810, H⟩ := H
                        replace H : (some (t164, 0, ([] : List Int), ([] : List Int))) = some (r1, r2, r3, r4) := H
                        have A81 := Aside0.mk A810
                        clear A810
                        simp only [Option.some.injEq, Prod.mk.injEq] at H
                        obtain ⟨rfl, rfl, rfl, rfl⟩ := H
                        try go_wp2
                        have n0_ := Aside0.mk (Kd.V_drew HO_0.out)
                        have n1_ := Aside0.mk (blk_drew BK117.out)
                        have n2_ := Aside0.mk (blk_drew BK118.out)
                        have n3_ := Aside0.mk (below_drew1 HB.out)
                        clear HO_0
                        clear BK117
                        clear BK118
                        clear HB
                        have HO_0 := n0_
                        have BK117 := n1_
                        have BK118 := n2_
                        have HB := n3_
                        clear n0_ n1_ n2_ n3_
                        have q83 : (a1_1 : Int) ≤ ((l0.length : Int) : Int) := of_decide_eq_true (by first | (with_reducible assumption) | assumption)
                        obtain ⟨i083, hi083, _, hsz83, _⟩ := info_parts info3
                        have hroom83 : l0.length ≤ c0 := (Kd.V_reads' HO_0.out).2.1
                        have hC83 : Kd.F (Kd.int .i64) _ _ A0 l0.length l0 := (Kd.V_at (base := w.heap.size) HO_0.out).2.2
                        have q083 : (0 : Int) ≤ (a1_1 : Int) := of_decide_eq_true (by first | (with_reducible assumption) | assumption)
                        have hcut83 := cut_from (P := Try.prog) 24 3 .i64 Try.underlying24 hi083 1 hsz83 A0 l0.length c0 a1_1 q083 q83
                        have hr83 := Kd.F_cut (m := (a1_1 : Int).toNat) (c := c0) hC83 (by omega) hroom83
                        obtain ⟨A83, hA83⟩ : ∃ A1, A1 = (if c0 = (a1_1 : Int).toNat then A0 else (A0 : Option Addr).map (·.add ((a1_1 : Int).toNat * 1))) := ⟨_, rfl⟩
                        obtain ⟨c83, hc83⟩ : ∃ c1, c1 = c0 - (a1_1 : Int).toNat := ⟨_, rfl⟩
                        have hy83 : y154.length = l0.length - (a1_1 : Int).toNat := (by rw [Ny154.out, List.length_drop] <;> omega)
                        rw [show (l0).drop (a1_1 : Int).toNat = y154 from Ny154.out.symm] at hr83
                        replace hr83 : Kd.F (Kd.int .i64) _ _ A83 y154.length y154 := (by rw [hA83]; exact hr83)
                        rw [← hy83, ← hA83, ← hc83] at hcut83
                        have HO158 := Aside0.mk (show Kd.V (Kd.int .i64) 3 _ w.heap.size _ (.slice A83 y154.length c83) y154 from Kd.V_mk (by rw [hy83, hc83]; exact Nat.sub_le_sub_right hroom83 _) hr83)
                        have HC158 := Aside0.mk (show y154.length ≤ c83 from by rw [hy83, hc83]; exact Nat.sub_le_sub_right hroom83 _)
                        clear hr83 hC83 hroom83 hi083 hsz83 hc83
                        have KY83 := Aside0.mk hy83
                        have KA83 := Aside0.mk hA83
                        clear hy83 hA83
                        replace q83 := eq_true q83
                        have q84 : (a1_1 : Int) ≤ ((l0.length : Int) : Int) := of_decide_eq_true (by first | (with_reducible assumption) | assumption)
                        obtain ⟨i084, hi084, _, hsz84, _⟩ := info_parts info3
                        have hroom84 : l0.length ≤ c0 := (Kd.V_reads' HO_0.out).2.1
                        have hC84 : Kd.F (Kd.int .i64) _ _ A0 l0.length l0 := (Kd.V_at (base := w.heap.size) HO_0.out).2.2
                        have hcut84 := cut_to (P := Try.prog) 24 3 .i64 Try.underlying24 hi084 A0 l0.length c0 a1_1 (of_decide_eq_true (by first | (with_reducible assumption) | assumption)) q84 hroom84
                        have hr84 := Kd.F_take (m := (a1_1 : Int).toNat) hC84 (by omega)
                        have hy84 : y159.length = (a1_1 : Int).toNat := (by rw [Ny159.out, List.length_take]; omega)
                        rw [← Ny159.out] at hr84
                        rw [← hy84] at hcut84
                        have HO163 := Aside0.mk (show Kd.V (Kd.int .i64) 3 _ w.heap.size _ (.slice A0 y159.length c0) y159 from Kd.V_mk (by omega) hr84)
                        have HC163 := Aside0.mk (show y159.length ≤ c0 from by omega)
                        clear hr84 hC84 hroom84 hi084 hsz84
                        have KY84 := Aside0.mk hy84
                        clear hy84
                        replace q84 := eq_true q84
                        refine start_ (n := 12) (S := fun w' => w'.cell? ⟨gb117, 0, none⟩ = some (.int .i64 a1_0) ∧ w'.cell? ⟨gb117, 1, none⟩ = some (.int .i64 a1_1) ∧ w'.cell? ⟨gb117, 2, none⟩ = some (.int .i64 a1_2) ∧ w'.cell? ⟨gb117, 3, none⟩ = some (.slice A1_3 l1_3.length c1_3)) (ds := []) #[false, false, false, false, false, false, false, false, false, false, false, false] (by kernel_rfl) rfl rfl ⟨(blk_cell BK117.out 0).trans rfl, (blk_cell BK117.out 1).trans rfl, (blk_cell BK117.out 2).trans rfl, (blk_cell BK117.out 3).trans rfl⟩ (fun hHeld => ?_); refine with_tabW spec_Cutting.tab16 spec_Cutting.bits16 (fun HT_ HW_ => ?_)
                        generalize wc.drew = w82 at HO_0 BK117 BK118 HB HO158 HO163 hHeld ⊢
                        refine pure_ (i := 0) (N := some 68) (v := ?_) (a' := ?_) #[true, false, false, false, false, false, false, false, false, false, false, false] rfl rfl (any_of HT_.out (by kernel_rfl)) (fun _ _ _ h => h) (Or.inl ⟨by rfl, ?_⟩) ?_ ?_
                        rotate_left
                        · intro w'
                          go_simp
                          with_reducible rfl
                        rotate_left
                        · simp only [Act.put, List.setIfInBounds_toArray, List.set_cons_zero, List.set_cons_succ, i64_w, i32_w]
                          rfl
                        refine pure_ (i := 1) (N := some 69) (v := ?_) (a' := ?_) #[true, true, false, false, false, false, false, false, false, false, false, false] rfl rfl (any_of HT_.out (by kernel_rfl)) (fun _ _ _ h => h) (Or.inl ⟨by rfl, ?_⟩) ?_ ?_
                        rotate_left
                        · intro w'
                          go_simp
                          with_reducible rfl
                        rotate_left
                        · simp only [Act.put, List.setIfInBounds_toArray, List.set_cons_zero, List.set_cons_succ, i64_w, i32_w]
                          rfl
                        refine pure_ (i := 4) (N := some 72) (v := ?_) (a' := ?_) #[true, true, false, false, true, false, false, false, false, false, false, false] rfl rfl (any_of HT_.out (by kernel_rfl)) (fun _ _ _ h => h) (Or.inl ⟨by rfl, ?_⟩) ?_ ?_
                        rotate_left
                        · intro w'
                          go_simp
                          with_reducible rfl
                        rotate_left
                        · simp only [Act.put, List.setIfInBounds_toArray, List.set_cons_zero, List.set_cons_succ, i64_w, i32_w]
                          rfl
                        refine pure_ (i := 5) (N := some 73) (v := ?_) (a' := ?_) #[true, true, false, false, true, true, false, false, false, false, false, false] rfl rfl (any_of HT_.out (by kernel_rfl)) (fun _ _ _ h => h) (Or.inl ⟨by rfl, ?_⟩) ?_ ?_
                        rotate_left
                        · intro w'
                          go_simp
                          with_reducible rfl
                        rotate_left
                        · simp only [Act.put, List.setIfInBounds_toArray, List.set_cons_zero, List.set_cons_succ, i64_w, i32_w]
                          rfl
                        refine pure_ (i := 9) (N := some 77) (v := ?_) (a' := ?_) #[true, true, false, false, true, true, false, false, false, true, false, false] rfl rfl (any_of HT_.out (by kernel_rfl)) (fun _ _ _ h => h) (Or.inl ⟨by rfl, ?_⟩) ?_ ?_
                        rotate_left
                        · intro w'
                          go_simp
                          with_reducible rfl
                        rotate_left
                        · simp only [Act.put, List.setIfInBounds_toArray, List.set_cons_zero, List.set_cons_succ, i64_w, i32_w]
                          rfl
                        refine take_ (i := 2) (N := some 70) (v := ?_) (a' := ?_) #[true, true, true, false, true, true, false, false, false, true, false, false] rfl rfl (take_ofW HT_.out HW_.out (by kernel_rfl)) (fun _ _ _ h => h) (Or.inl ⟨by rfl, ?_⟩) hHeld ?_ ?_
                        rotate_left
                        · rintro w' ⟨s0, s1, s2, s3⟩
                          go_simp
                          with_reducible rfl
                        rotate_left
                        · simp only [Act.put, List.setIfInBounds_toArray, List.set_cons_zero, List.set_cons_succ, i64_w, i32_w]
                          rfl
                        refine pure_ (i := 3) (N := some 71) (v := ?_) (a' := ?_) #[true, true, true, true, true, true, false, false, false, true, false, false] rfl rfl (any_of HT_.out (by kernel_rfl)) (fun _ _ _ h => h) (Or.inl ⟨by rfl, ?_⟩) ?_ ?_
                        rotate_left
                        · intro w'
                          go_simp
                          with_reducible rfl
                        rotate_left
                        · simp only [Act.put, List.setIfInBounds_toArray, List.set_cons_zero, List.set_cons_succ, i64_w, i32_w]
                          rfl
                        refine take_ (i := 6) (N := some 74) (v := ?_) (a' := ?_) #[true, true, true, true, true, true, true, false, false, true, false, false] rfl rfl (take_ofW HT_.out HW_.out (by kernel_rfl)) (fun _ _ _ h => h) (Or.inl ⟨by rfl, ?_⟩) hHeld ?_ ?_
                        rotate_left
                        · rintro w' ⟨s0, s1, s2, s3⟩
                          go_simp
                          with_reducible rfl
                        rotate_left
                        · simp only [Act.put, List.setIfInBounds_toArray, List.set_cons_zero, List.set_cons_succ, i64_w, i32_w]
                          rfl
                        refine pure_ (i := 7) (N := some 75) (v := ?_) (a' := ?_) #[true, true, true, true, true, true, true, true, false, true, false, false] rfl rfl (any_of HT_.out (by kernel_rfl)) (fun _ _ _ h => h) (Or.inl ⟨by rfl, ?_⟩) ?_ ?_
                        rotate_left
                        · intro w'
                          go_simp
                          with_reducible rfl
                        rotate_left
                        · simp only [Act.put, List.setIfInBounds_toArray, List.set_cons_zero, List.set_cons_succ, i64_w, i32_w]
                          rfl
                        refine one_ (i := 8) (N := some 76) #[true, true, true, true, true, true, true, true, true, true, false, false] rfl rfl (one_of HT_.out (by kernel_rfl)) (by decide) (fun K hK => ?_)
                        refine goes_ Try.func9 (by kernel_rfl) rfl #[.slice A83 y154.length c83, .slice A0 y159.length c0] (by rfl) rfl rfl (by (try simp only [List.map_toArray, List.map_cons, List.map_nil]); first | done | rfl | (simp only [List.length_drop, List.length_take]; rfl)) ?_
                        with_reducible refine (spec_Both.calls _ _ y154 _ _ y159 t164 _ ?side1 ?side2 ?side3 ?side4 A81.out).mono ?_
                        (case side1 => repeat (first | exact (Kd.V_reads' HO158.out).2.2 | (with_reducible refine Kd.C_alloc ?_ _) | (with_reducible refine Kd.C_drewN ?_ _) | (with_reducible refine Kd.C_drew ?_)))
                        (case side2 => exact (Kd.V_reads' HO158.out).2.1)
                        (case side3 => repeat (first | exact (Kd.V_reads' HO163.out).2.2 | (with_reducible refine Kd.C_alloc ?_ _) | (with_reducible refine Kd.C_drewN ?_ _) | (with_reducible refine Kd.C_drew ?_)))
                        (case side4 => exact (Kd.V_reads' HO163.out).2.1)
                        rintro e w85 ⟨v165, rfl, ho0, hb⟩
                        refine ⟨_, rfl, ?_⟩
                        have n0_ := Aside0.mk (Kd.V_elder' (by (with_reducible repeat (first | apply Kd.V_alloc | apply Kd.V_drewN | apply Kd.V_drew)); exact HO_0.out) (Kd.R_base ho0) hb)
                        have n1_ := Aside0.mk (Kd.V_elder' (by (with_reducible repeat (first | apply Kd.V_alloc | apply Kd.V_drewN | apply Kd.V_drew)); exact HO158.out) (Kd.R_base ho0) hb)
                        have n2_ := Aside0.mk (Kd.V_elder' (by (with_reducible repeat (first | apply Kd.V_alloc | apply Kd.V_drewN | apply Kd.V_drew)); exact HO163.out) (Kd.R_base ho0) hb)
                        have n3_ := Aside0.mk (Kd.R_lower (Kd.R_newM (M := fun k_ => (w.heap.size ≤ k_)) ho0 (below_size (by repeat (first | (with_reducible first | exact HB.out | apply below_alloc | apply pw_below_drewN | apply below_drew1 | refine below_set ?_ GE117.out | refine below_set ?_ GE118.out) | exact HB.out))) (fun k_ h_ => h_)) (below_size (by repeat (first | (with_reducible first | exact HB.out | apply below_alloc | apply pw_below_drewN | apply below_drew1 | refine below_set ?_ GE117.out | refine below_set ?_ GE118.out) | exact HB.out))))
                        have n4_ := Aside0.mk (blk_below (g := gb117) (o := .cells #[.int .i64 a1_0, .int .i64 a1_1, .int .i64 a1_2, .slice A1_3 l1_3.length c1_3] 38 (0, 0)) (by (with_reducible repeat (first | refine blk_drewN ?_ _ | refine blk_drew ?_ | refine blk_alloc ?_ _)); exact BK117.out) hb)
                        have n5_ := Aside0.mk (blk_below (g := gb118) (o := .cells #[.int .i64 0, .slice none 0 0, .slice none 0 0] 34 (0, 0)) (by (with_reducible repeat (first | refine blk_drewN ?_ _ | refine blk_drew ?_ | refine blk_alloc ?_ _)); exact BK118.out) hb)
                        have n6_ := Aside0.mk (below_step (by repeat (first | (with_reducible first | exact HB.out | apply below_alloc | apply pw_below_drewN | apply below_drew1 | refine below_set ?_ GE117.out | refine below_set ?_ GE118.out) | exact HB.out)) hb)
                        clear HO_0
                        clear HO158
                        clear HO163
                        clear BK117
                        clear BK118
                        clear HB
                        have HO_0 := n0_
                        have HO158 := n1_
                        have HO163 := n2_
                        have HO166 := n3_
                        have BK117 := n4_
                        have BK118 := n5_
                        have HB := n6_
                        clear n0_ n1_ n2_ n3_ n4_ n5_ n6_
                        (try clear hb)
                        (try clear hb2)
                        (try clear hk)
                        (try clear hi)
                        (try clear ho0)
                        refine hK.out _ _ ⟨(blk_cell BK117.out 0).trans rfl, (blk_cell BK117.out 1).trans rfl, (blk_cell BK117.out 2).trans rfl, (blk_cell BK117.out 3).trans rfl⟩ (fun hHeld => ?_)
                        clear hK K
                        refine norm_ (a' := ?_) ?_ ?_
                        rotate_left
                        · show Act.put _ (some 76) _ = _
                          simp only [Act.put, List.setIfInBounds_toArray, List.set_cons_zero, List.set_cons_succ, i64_w, i32_w]
                          rfl
                        refine pure_ (i := 10) (N := some 4) (v := ?_) (a' := ?_) #[true, true, true, true, true, true, true, true, true, true, true, false] rfl rfl (any_of HT_.out (by kernel_rfl)) (fun _ _ _ h => h) (Or.inl ⟨by rfl, ?_⟩) ?_ ?_
                        rotate_left
                        · intro w'
                          go_simp
                          with_reducible rfl
                        rotate_left
                        · simp only [Act.put, List.setIfInBounds_toArray, List.set_cons_zero, List.set_cons_succ, i64_w, i32_w]
                          rfl
                        refine one_ (i := 11) (N := none) #[true, true, true, true, true, true, true, true, true, true, true, true] rfl rfl (one_of HT_.out (by kernel_rfl)) (by decide) (fun K hK => ?_)
                        have hs86 : w85.cell? ⟨gb118, 0, none⟩ = some (.int .i64 0) := (blk_cell BK118.out 0).trans rfl
                        have hfs86 := blk_frozen BK118.out 0
                        have hns86_0 := NB117_118.out
                        have hms86_0 := NB118_117.out
                        have hs87 : w85.cell? ⟨gb118, 1, none⟩ = some (.slice none 0 0) := (blk_cell BK118.out 1).trans rfl
                        have hfs87 := blk_frozen BK118.out 1
                        have hns87_0 := NB117_118.out
                        have hms87_0 := NB118_117.out
                        have hs88 : w85.cell? ⟨gb118, 2, none⟩ = some (.slice none 0 0) := (blk_cell BK118.out 2).trans rfl
                        have hfs88 := blk_frozen BK118.out 2
                        have hns88_0 := NB117_118.out
                        have hms88_0 := NB118_117.out
                        refine skip_ (w1 := ?_) (by rfl) rfl ?_ ?_
                        rotate_left
                        · go_simp
                          rfl
                        refine hK.out _ _ ⟨((cell_far (p := ⟨gb118, _, none⟩) NB117_118.out _).trans (((cell_far (p := ⟨gb118, _, none⟩) NB117_118.out _).trans (((cell_far (p := ⟨gb118, _, none⟩) NB117_118.out _).trans (hHeld.1)))))), ((cell_far (p := ⟨gb118, _, none⟩) NB117_118.out _).trans (((cell_far (p := ⟨gb118, _, none⟩) NB117_118.out _).trans (((cell_far (p := ⟨gb118, _, none⟩) NB117_118.out _).trans (hHeld.2.1)))))), ((cell_far (p := ⟨gb118, _, none⟩) NB117_118.out _).trans (((cell_far (p := ⟨gb118, _, none⟩) NB117_118.out _).trans (((cell_far (p := ⟨gb118, _, none⟩) NB117_118.out _).trans (hHeld.2.2.1)))))), ((cell_far (p := ⟨gb118, _, none⟩) NB117_118.out _).trans (((cell_far (p := ⟨gb118, _, none⟩) NB117_118.out _).trans (((cell_far (p := ⟨gb118, _, none⟩) NB117_118.out _).trans (hHeld.2.2.2))))))⟩ (fun hHeld => ?_)
                        clear hK K
                        refine done_ (done_of HT_.out (by kernel_rfl)) ?_
                        try go_wp2
                        refine bodyPost_ret (results_tc rfl _ _ gb118 34 #[.int .i64 0, .slice none 0 0, .slice none 0 0] (0, 0) _ rfl (by (with_reducible repeat (first | refine blk_drewN ?_ _ | refine blk_drew ?_ | refine blk_alloc ?_ _)); refine blk_put (cs := #[.int .i64 0, .slice none 0 0, .slice none 0 0]) ?_ 2 _ rfl; (with_reducible repeat (first | refine blk_drewN ?_ _ | refine blk_drew ?_ | refine blk_alloc ?_ _)); refine blk_put (cs := #[.int .i64 0, .slice none 0 0, .slice none 0 0]) ?_ 1 _ rfl; (with_reducible repeat (first | refine blk_drewN ?_ _ | refine blk_drew ?_ | refine blk_alloc ?_ _)); refine blk_put (cs := #[.int .i64 0, .slice none 0 0, .slice none 0 0]) ?_ 0 _ rfl; (with_reducible repeat (first | refine blk_drewN ?_ _ | refine blk_drew ?_ | refine blk_alloc ?_ _)); exact BK118.out) Try.underlying34 rfl (by kernel_rfl)) rfl ?_
                        exact ⟨_, _, _, by first | rfl | (simp [errW_none, errW_some] <;> rfl) | (simp [*, errW_none, errW_some] <;> rfl), Kd.V_mono (Kd.R_V (by (with_reducible repeat (first | apply Kd.R_alloc | apply Kd.R_drewN | apply Kd.R_drew)); exact (Kd.R_far (p := ⟨gb118, 2, none⟩) (Kd.R_far (p := ⟨gb118, 1, none⟩) (Kd.R_far (p := ⟨gb118, 0, none⟩) (Kd.R_types HO166.out BK118.out (by decide)) (fun _ hk => hk.2) (.int .i64 0)) (fun _ hk => hk.2) (.slice none 0 0)) (fun _ hk => hk.2) (.slice none 0 0)))) (fun k_ hk => by first | exact ⟨.inr hk.1.1, by simp [Value.ownBlock]⟩ | exact .inr hk.1.1), Kd.V_nil _ _ _ _ _, by first | exact Kd.R_nil _ _ _ _ _ | exact Kd.N_nil _ _ _ _ _ | exact Kd.V_nil _ _ _ _ _ | exact Kd.Q_nil _ _ _ _ _ | exact Kd.S_nil _ _ _ _ _, by repeat (first | (with_reducible first | exact HB.out | apply below_alloc | apply pw_below_drewN | apply below_drew1 | refine below_set ?_ GE117.out | refine below_set ?_ GE118.out) | exact HB.out)⟩
                      · rw [if_neg c78] at H
                        exact absurd H (by simp)
                    · rw [if_neg c77] at H
                      exact absurd H (by simp)
                  · rw [if_neg c76] at H
                    have c76b0 : (a1_0 == 6) = false := beq_eq_false_iff_ne.mpr c76
                    have c76b1 : (a1_0 != 6) = true := bne_iff_ne.mpr c76
                    by_cases c89 : a1_0 = 7
                    · rw [if_pos c89] at H
                      have c89b0 : (a1_0 == 7) = true := beq_iff_eq.mpr c89
                      have c89b1 : (a1_0 != 7) = false := bne_eq_false_iff_eq.mpr c89
                      clear c89
                      replace H := Option.bind_eq_some_iff.mp H
                      obtain ⟨t167, A900, H⟩ := H
                      replace H : (some (t167, 0, ([] : List Int), ([] : List Int))) = some (r1, r2, r3, r4) := H
                      have A90 := Aside0.mk A900
                      clear A900
                      simp only [Option.some.injEq, Prod.mk.injEq] at H
                      obtain ⟨rfl, rfl, rfl, rfl⟩ := H
                      have hnb91 := NB117_118.out
                      have hnc91 := NB118_117.out
                      have hcz92_0 : wc.cell? ⟨gb117, 0, none⟩ = some (.int .i64 a1_0) := (blk_cell BK117.out 0).trans rfl
                      have hcz92_1 : wc.cell? ⟨gb117, 1, none⟩ = some (.int .i64 a1_1) := (blk_cell BK117.out 1).trans rfl
                      have hcz92_2 : wc.cell? ⟨gb117, 2, none⟩ = some (.int .i64 a1_2) := (blk_cell BK117.out 2).trans rfl
                      have hcz92_3 : wc.cell? ⟨gb117, 3, none⟩ = some (.slice A1_3 l1_3.length c1_3) := (blk_cell BK117.out 3).trans rfl
                      have hfz92_0 := blk_frozen BK117.out 0
                      have hfz92_1 := blk_frozen BK117.out 1
                      have hfz92_2 := blk_frozen BK117.out 2
                      have hfz92_3 := blk_frozen BK117.out 3
                      go_wp2_with (first | ((with_reducible refine gate_callee (f := 9) rfl ?_); refine goesL_ (some 83) rfl rfl Try.func9 (by kernel_rfl) rfl #[.slice A0 l0.length c0, .slice A1_3 l1_3.length c1_3] rfl (by (try simp only [List.map_toArray, List.map_cons, List.map_nil]); first | done | rfl | (simp only [List.length_drop, List.length_take]; rfl)) ?_; (with_reducible refine (spec_Both.calls _ _ l0 _ _ l1_3 t167 _ ?side1 ?side2 ?side3 ?side4 A90.out).mono ?_); (case side1 => repeat (first | exact (Kd.V_reads' HO_0.out).2.2 | (with_reducible refine Kd.C_alloc ?_ _) | (with_reducible refine Kd.C_drewN ?_ _) | (with_reducible refine Kd.C_drew ?_))); (case side2 => exact (Kd.V_reads' HO_0.out).2.1); (case side3 => repeat (first | exact (Kd.C_below HR1_3.out HB.out) | (with_reducible refine Kd.C_alloc ?_ _) | (with_reducible refine Kd.C_drewN ?_ _) | (with_reducible refine Kd.C_drew ?_))); (case side4 => exact HC1_3.out); rintro e w93 ⟨v168, rfl, ho0, hb⟩; refine ⟨_, rfl, ?_⟩; have n0_ := Aside0.mk (Kd.V_elder' (by (with_reducible repeat (first | apply Kd.V_alloc | apply Kd.V_drewN | apply Kd.V_drew)); exact HO_0.out) (Kd.R_base ho0) hb); have n1_ := Aside0.mk (Kd.R_lower (Kd.R_newM (M := fun k_ => (w.heap.size ≤ k_)) ho0 (below_size (by repeat (first | (with_reducible first | exact HB.out | apply below_alloc | apply pw_below_drewN | apply below_drew1 | refine below_set ?_ GE117.out | refine below_set ?_ GE118.out) | exact HB.out))) (fun k_ h_ => h_)) (below_size (by repeat (first | (with_reducible first | exact HB.out | apply below_alloc | apply pw_below_drewN | apply below_drew1 | refine below_set ?_ GE117.out | refine below_set ?_ GE118.out) | exact HB.out)))); have n2_ := Aside0.mk (blk_below (g := gb117) (o := .cells #[.int .i64 a1_0, .int .i64 a1_1, .int .i64 a1_2, .slice A1_3 l1_3.length c1_3] 38 (0, 0)) (by (with_reducible repeat (first | refine blk_drewN ?_ _ | refine blk_drew ?_ | refine blk_alloc ?_ _)); exact BK117.out) hb); have n3_ := Aside0.mk (blk_below (g := gb118) (o := .cells #[.int .i64 0, .slice none 0 0, .slice none 0 0] 34 (0, 0)) (by (with_reducible repeat (first | refine blk_drewN ?_ _ | refine blk_drew ?_ | refine blk_alloc ?_ _)); exact BK118.out) hb); have n4_ := Aside0.mk (below_step (by repeat (first | (with_reducible first | exact HB.out | apply below_alloc | apply pw_below_drewN | apply below_drew1 | refine below_set ?_ GE117.out | refine below_set ?_ GE118.out) | exact HB.out)) hb); clear HO_0; clear BK117; clear BK118; clear HB; have HO_0 := n0_; have HO169 := n1_; have BK117 := n2_; have BK118 := n3_; have HB := n4_; clear n0_ n1_ n2_ n3_ n4_; (try clear hb); (try clear hb2); (try clear hk); (try clear hi); (try clear ho0); have hcz94_0 : w93.cell? ⟨gb118, 0, none⟩ = some (.int .i64 0) := (blk_cell BK118.out 0).trans rfl; have hcz94_1 : w93.cell? ⟨gb118, 1, none⟩ = some (.slice none 0 0) := (blk_cell BK118.out 1).trans rfl; have hcz94_2 : w93.cell? ⟨gb118, 2, none⟩ = some (.slice none 0 0) := (blk_cell BK118.out 2).trans rfl; have hfz94_0 := blk_frozen BK118.out 0; have hfz94_1 := blk_frozen BK118.out 1; have hfz94_2 := blk_frozen BK118.out 2))
                      refine bodyPost_ret (results_tc rfl _ _ gb118 34 #[.int .i64 0, .slice none 0 0, .slice none 0 0] (0, 0) _ rfl (by (with_reducible repeat (first | refine blk_drewN ?_ _ | refine blk_drew ?_ | refine blk_alloc ?_ _)); refine blk_put (cs := #[.int .i64 0, .slice none 0 0, .slice none 0 0]) ?_ 2 _ rfl; (with_reducible repeat (first | refine blk_drewN ?_ _ | refine blk_drew ?_ | refine blk_alloc ?_ _)); refine blk_put (cs := #[.int .i64 0, .slice none 0 0, .slice none 0 0]) ?_ 1 _ rfl; (with_reducible repeat (first | refine blk_drewN ?_ _ | refine blk_drew ?_ | refine blk_alloc ?_ _)); refine blk_put (cs := #[.int .i64 0, .slice none 0 0, .slice none 0 0]) ?_ 0 _ rfl; (with_reducible repeat (first | refine blk_drewN ?_ _ | refine blk_drew ?_ | refine blk_alloc ?_ _)); exact BK118.out) Try.underlying34 rfl (by kernel_rfl)) rfl ?_
                      exact ⟨_, _, _, by first | rfl | (simp [errW_none, errW_some] <;> rfl) | (simp [*, errW_none, errW_some] <;> rfl), Kd.V_mono (Kd.R_V (by (with_reducible repeat (first | apply Kd.R_alloc | apply Kd.R_drewN | apply Kd.R_drew)); exact (Kd.R_far (p := ⟨gb118, 2, none⟩) (Kd.R_far (p := ⟨gb118, 1, none⟩) (Kd.R_far (p := ⟨gb118, 0, none⟩) (Kd.R_types HO169.out BK118.out (by decide)) (fun _ hk => hk.2) (.int .i64 0)) (fun _ hk => hk.2) (.slice none 0 0)) (fun _ hk => hk.2) (.slice none 0 0)))) (fun k_ hk => by first | exact ⟨.inr hk.1.1, by simp [Value.ownBlock]⟩ | exact .inr hk.1.1), Kd.V_nil _ _ _ _ _, by first | exact Kd.R_nil _ _ _ _ _ | exact Kd.N_nil _ _ _ _ _ | exact Kd.V_nil _ _ _ _ _ | exact Kd.Q_nil _ _ _ _ _ | exact Kd.S_nil _ _ _ _ _, by repeat (first | (with_reducible first | exact HB.out | apply below_alloc | apply pw_below_drewN | apply below_drew1 | refine below_set ?_ GE117.out | refine below_set ?_ GE118.out) | exact HB.out)⟩
                    · rw [if_neg c89] at H
                      have c89b0 : (a1_0 == 7) = false := beq_eq_false_iff_ne.mpr c89
                      have c89b1 : (a1_0 != 7) = true := bne_iff_ne.mpr c89
                      by_cases c95 : a1_0 = 8
                      · rw [if_pos c95] at H
                        have c95b0 : (a1_0 == 8) = true := beq_iff_eq.mpr c95
                        have c95b1 : (a1_0 != 8) = false := bne_eq_false_iff_eq.mpr c95
                        clear c95
                        replace H := Option.bind_eq_some_iff.mp H
                        obtain ⟨t170, A960, H⟩ := H
                        replace H : (some (t170, 0, ([] : List Int), ([] : List Int))) = some (r1, r2, r3, r4) := H
                        have A96 := Aside0.mk A960
                        clear A960
                        simp only [Option.some.injEq, Prod.mk.injEq] at H
                        obtain ⟨rfl, rfl, rfl, rfl⟩ := H
                        have hnb97 := NB117_118.out
                        have hnc97 := NB118_117.out
                        have hcz98_0 : wc.cell? ⟨gb117, 0, none⟩ = some (.int .i64 a1_0) := (blk_cell BK117.out 0).trans rfl
                        have hcz98_1 : wc.cell? ⟨gb117, 1, none⟩ = some (.int .i64 a1_1) := (blk_cell BK117.out 1).trans rfl
                        have hcz98_2 : wc.cell? ⟨gb117, 2, none⟩ = some (.int .i64 a1_2) := (blk_cell BK117.out 2).trans rfl
                        have hcz98_3 : wc.cell? ⟨gb117, 3, none⟩ = some (.slice A1_3 l1_3.length c1_3) := (blk_cell BK117.out 3).trans rfl
                        have hfz98_0 := blk_frozen BK117.out 0
                        have hfz98_1 := blk_frozen BK117.out 1
                        have hfz98_2 := blk_frozen BK117.out 2
                        have hfz98_3 := blk_frozen BK117.out 3
                        go_wp2_with (first | ((with_reducible refine gate_callee (f := 9) rfl ?_); refine goesL_ (some 90) rfl rfl Try.func9 (by kernel_rfl) rfl #[.slice A1_3 l1_3.length c1_3, .slice A0 l0.length c0] rfl (by (try simp only [List.map_toArray, List.map_cons, List.map_nil]); first | done | rfl | (simp only [List.length_drop, List.length_take]; rfl)) ?_; (with_reducible refine (spec_Both.calls _ _ l1_3 _ _ l0 t170 _ ?side1 ?side2 ?side3 ?side4 A96.out).mono ?_); (case side1 => repeat (first | exact (Kd.C_below HR1_3.out HB.out) | (with_reducible refine Kd.C_alloc ?_ _) | (with_reducible refine Kd.C_drewN ?_ _) | (with_reducible refine Kd.C_drew ?_))); (case side2 => exact HC1_3.out); (case side3 => repeat (first | exact (Kd.V_reads' HO_0.out).2.2 | (with_reducible refine Kd.C_alloc ?_ _) | (with_reducible refine Kd.C_drewN ?_ _) | (with_reducible refine Kd.C_drew ?_))); (case side4 => exact (Kd.V_reads' HO_0.out).2.1); rintro e w99 ⟨v171, rfl, ho0, hb⟩; refine ⟨_, rfl, ?_⟩; have n0_ := Aside0.mk (Kd.V_elder' (by (with_reducible repeat (first | apply Kd.V_alloc | apply Kd.V_drewN | apply Kd.V_drew)); exact HO_0.out) (Kd.R_base ho0) hb); have n1_ := Aside0.mk (Kd.R_lower (Kd.R_newM (M := fun k_ => (w.heap.size ≤ k_)) ho0 (below_size (by repeat (first | (with_reducible first | exact HB.out | apply below_alloc | apply pw_below_drewN | apply below_drew1 | refine below_set ?_ GE117.out | refine below_set ?_ GE118.out) | exact HB.out))) (fun k_ h_ => h_)) (below_size (by repeat (first | (with_reducible first | exact HB.out | apply below_alloc | apply pw_below_drewN | apply below_drew1 | refine below_set ?_ GE117.out | refine below_set ?_ GE118.out) | exact HB.out)))); have n2_ := Aside0.mk (blk_below (g := gb117) (o := .cells #[.int .i64 a1_0, .int .i64 a1_1, .int .i64 a1_2, .slice A1_3 l1_3.length c1_3] 38 (0, 0)) (by (with_reducible repeat (first | refine blk_drewN ?_ _ | refine blk_drew ?_ | refine blk_alloc ?_ _)); exact BK117.out) hb); have n3_ := Aside0.mk (blk_below (g := gb118) (o := .cells #[.int .i64 0, .slice none 0 0, .slice none 0 0] 34 (0, 0)) (by (with_reducible repeat (first | refine blk_drewN ?_ _ | refine blk_drew ?_ | refine blk_alloc ?_ _)); exact BK118.out) hb); have n4_ := Aside0.mk (below_step (by repeat (first | (with_reducible first | exact HB.out | apply below_alloc | apply pw_below_drewN | apply below_drew1 | refine below_set ?_ GE117.out | refine below_set ?_ GE118.out) | exact HB.out)) hb); clear HO_0; clear BK117; clear BK118; clear HB; have HO_0 := n0_; have HO172 := n1_; have BK117 := n2_; have BK118 := n3_; have HB := n4_; clear n0_ n1_ n2_ n3_ n4_; (try clear hb); (try clear hb2); (try clear hk); (try clear hi); (try clear ho0); have hcz100_0 : w99.cell? ⟨gb118, 0, none⟩ = some (.int .i64 0) := (blk_cell BK118.out 0).trans rfl; have hcz100_1 : w99.cell? ⟨gb118, 1, none⟩ = some (.slice none 0 0) := (blk_cell BK118.out 1).trans rfl; have hcz100_2 : w99.cell? ⟨gb118, 2, none⟩ = some (.slice none 0 0) := (blk_cell BK118.out 2).trans rfl; have hfz100_0 := blk_frozen BK118.out 0; have hfz100_1 := blk_frozen BK118.out 1; have hfz100_2 := blk_frozen BK118.out 2))
                        refine bodyPost_ret (results_tc rfl _ _ gb118 34 #[.int .i64 0, .slice none 0 0, .slice none 0 0] (0, 0) _ rfl (by (with_reducible repeat (first | refine blk_drewN ?_ _ | refine blk_drew ?_ | refine blk_alloc ?_ _)); refine blk_put (cs := #[.int .i64 0, .slice none 0 0, .slice none 0 0]) ?_ 2 _ rfl; (with_reducible repeat (first | refine blk_drewN ?_ _ | refine blk_drew ?_ | refine blk_alloc ?_ _)); refine blk_put (cs := #[.int .i64 0, .slice none 0 0, .slice none 0 0]) ?_ 1 _ rfl; (with_reducible repeat (first | refine blk_drewN ?_ _ | refine blk_drew ?_ | refine blk_alloc ?_ _)); refine blk_put (cs := #[.int .i64 0, .slice none 0 0, .slice none 0 0]) ?_ 0 _ rfl; (with_reducible repeat (first | refine blk_drewN ?_ _ | refine blk_drew ?_ | refine blk_alloc ?_ _)); exact BK118.out) Try.underlying34 rfl (by kernel_rfl)) rfl ?_
                        exact ⟨_, _, _, by first | rfl | (simp [errW_none, errW_some] <;> rfl) | (simp [*, errW_none, errW_some] <;> rfl), Kd.V_mono (Kd.R_V (by (with_reducible repeat (first | apply Kd.R_alloc | apply Kd.R_drewN | apply Kd.R_drew)); exact (Kd.R_far (p := ⟨gb118, 2, none⟩) (Kd.R_far (p := ⟨gb118, 1, none⟩) (Kd.R_far (p := ⟨gb118, 0, none⟩) (Kd.R_types HO172.out BK118.out (by decide)) (fun _ hk => hk.2) (.int .i64 0)) (fun _ hk => hk.2) (.slice none 0 0)) (fun _ hk => hk.2) (.slice none 0 0)))) (fun k_ hk => by first | exact ⟨.inr hk.1.1, by simp [Value.ownBlock]⟩ | exact .inr hk.1.1), Kd.V_nil _ _ _ _ _, by first | exact Kd.R_nil _ _ _ _ _ | exact Kd.N_nil _ _ _ _ _ | exact Kd.V_nil _ _ _ _ _ | exact Kd.Q_nil _ _ _ _ _ | exact Kd.S_nil _ _ _ _ _, by repeat (first | (with_reducible first | exact HB.out | apply below_alloc | apply pw_below_drewN | apply below_drew1 | refine below_set ?_ GE117.out | refine below_set ?_ GE118.out) | exact HB.out)⟩
                      · rw [if_neg c95] at H
                        have c95b0 : (a1_0 == 8) = false := beq_eq_false_iff_ne.mpr c95
                        have c95b1 : (a1_0 != 8) = true := bne_iff_ne.mpr c95
                        by_cases c101 : a1_0 = 9
                        · rw [if_pos c101] at H
                          have c101b0 : (a1_0 == 9) = true := beq_iff_eq.mpr c101
                          have c101b1 : (a1_0 != 9) = false := bne_eq_false_iff_eq.mpr c101
                          clear c101
                          by_cases c102 : 0 ≤ a1_1
                          · rw [if_pos c102] at H
                            have c102b0 := eq_true c102
                            have c102b1 : decide (0 ≤ a1_1) = true := decide_eq_true c102
                            clear c102
                            by_cases c103 : a1_1 ≤ (l0.length : Int)
                            · rw [if_pos c103] at H
                              have c103b0 := eq_true c103
                              have c103b1 : decide (a1_1 ≤ (l0.length : Int)) = true := decide_eq_true c103
                              clear c103
                              obtain ⟨y173, hy173⟩ : ∃ y_ : List Int, y_ = (l0.take (a1_1 : Int).toNat) := ⟨_, rfl⟩
                              replace H : (some (y173, 0, ([] : List Int), ([] : List Int))) = some (r1, r2, r3, r4) := by first | (rw [hy173]; with_reducible exact H) | (have H2_ := (Option.bind_some _ _).symm.trans H; rw [hy173]; with_reducible exact H2_) | (have H2_ := (Option.bind_some _ _).symm.trans H; with_reducible exact H2_) | with_reducible exact H | (rw [hy173]; exact H) | exact H
                              have Ny173 := Aside0.mk hy173
                              clear hy173
                              simp only [Option.some.injEq, Prod.mk.injEq] at H
                              obtain ⟨rfl, rfl, rfl, rfl⟩ := H
                              have hnb104 := NB117_118.out
                              have hnc104 := NB118_117.out
                              have hcz105_0 : wc.cell? ⟨gb117, 0, none⟩ = some (.int .i64 a1_0) := (blk_cell BK117.out 0).trans rfl
                              have hcz105_1 : wc.cell? ⟨gb117, 1, none⟩ = some (.int .i64 a1_1) := (blk_cell BK117.out 1).trans rfl
                              have hcz105_2 : wc.cell? ⟨gb117, 2, none⟩ = some (.int .i64 a1_2) := (blk_cell BK117.out 2).trans rfl
                              have hcz105_3 : wc.cell? ⟨gb117, 3, none⟩ = some (.slice A1_3 l1_3.length c1_3) := (blk_cell BK117.out 3).trans rfl
                              have hfz105_0 := blk_frozen BK117.out 0
                              have hfz105_1 := blk_frozen BK117.out 1
                              have hfz105_2 := blk_frozen BK117.out 2
                              have hfz105_3 := blk_frozen BK117.out 3
                              have q106 : (a1_1 : Int) ≤ ((l0.length : Int) : Int) := of_decide_eq_true (by first | (with_reducible assumption) | assumption)
                              obtain ⟨i0106, hi0106, _, hsz106, _⟩ := info_parts info3
                              have hroom106 : l0.length ≤ c0 := (Kd.V_reads' HO_0.out).2.1
                              have hC106 : Kd.F (Kd.int .i64) _ _ A0 l0.length l0 := (Kd.V_at (base := w.heap.size) HO_0.out).2.2
                              have hcut106 := cut_to (P := Try.prog) 24 3 .i64 Try.underlying24 hi0106 A0 l0.length c0 a1_1 (of_decide_eq_true (by first | (with_reducible assumption) | assumption)) q106 hroom106
                              have hr106 := Kd.F_take (m := (a1_1 : Int).toNat) hC106 (by omega)
                              have hy106 : y173.length = (a1_1 : Int).toNat := (by rw [Ny173.out, List.length_take]; omega)
                              rw [← Ny173.out] at hr106
                              rw [← hy106] at hcut106
                              have HO177 := Aside0.mk (show Kd.V (Kd.int .i64) 3 _ w.heap.size _ (.slice A0 y173.length c0) y173 from Kd.V_mk (by omega) hr106)
                              have HC177 := Aside0.mk (show y173.length ≤ c0 from by omega)
                              clear hr106 hC106 hroom106 hi0106 hsz106
                              have KY106 := Aside0.mk hy106
                              clear hy106
                              replace q106 := eq_true q106
                              have hcz107_0 : wc.cell? ⟨gb118, 0, none⟩ = some (.int .i64 0) := (blk_cell BK118.out 0).trans rfl
                              have hcz107_1 : wc.cell? ⟨gb118, 1, none⟩ = some (.slice none 0 0) := (blk_cell BK118.out 1).trans rfl
                              have hcz107_2 : wc.cell? ⟨gb118, 2, none⟩ = some (.slice none 0 0) := (blk_cell BK118.out 2).trans rfl
                              have hfz107_0 := blk_frozen BK118.out 0
                              have hfz107_1 := blk_frozen BK118.out 1
                              have hfz107_2 := blk_frozen BK118.out 2
                              go_wp2
                              refine bodyPost_ret (results_tc rfl _ _ gb118 34 #[.int .i64 0, .slice none 0 0, .slice none 0 0] (0, 0) _ rfl (by (with_reducible repeat (first | refine blk_drewN ?_ _ | refine blk_drew ?_ | refine blk_alloc ?_ _)); refine blk_put (cs := #[.int .i64 0, .slice none 0 0, .slice none 0 0]) ?_ 2 _ rfl; (with_reducible repeat (first | refine blk_drewN ?_ _ | refine blk_drew ?_ | refine blk_alloc ?_ _)); refine blk_put (cs := #[.int .i64 0, .slice none 0 0, .slice none 0 0]) ?_ 1 _ rfl; (with_reducible repeat (first | refine blk_drewN ?_ _ | refine blk_drew ?_ | refine blk_alloc ?_ _)); refine blk_put (cs := #[.int .i64 0, .slice none 0 0, .slice none 0 0]) ?_ 0 _ rfl; (with_reducible repeat (first | refine blk_drewN ?_ _ | refine blk_drew ?_ | refine blk_alloc ?_ _)); exact BK118.out) Try.underlying34 rfl (by kernel_rfl)) rfl ?_
                              exact ⟨_, _, _, by first | rfl | (simp [errW_none, errW_some] <;> rfl) | (simp [*, errW_none, errW_some] <;> rfl), by (with_reducible repeat (first | apply Kd.V_alloc | apply Kd.V_drewN | apply Kd.V_drew)); exact Kd.V_mono (Kd.V_far (p := ⟨gb118, 2, none⟩) (Kd.V_far (p := ⟨gb118, 1, none⟩) (Kd.V_far (p := ⟨gb118, 0, none⟩) (Kd.V_mono HO177.out (fun k_ hk => (⟨hk, hk.2.2⟩ : _ ∧ k_ ≠ gb118))) (fun _ hk => hk.2) (.int .i64 0)) (fun _ hk => hk.2) (.slice none 0 0)) (fun _ hk => hk.2) (.slice none 0 0)) (fun _ hk => ⟨hk.1.1, (by simp [Value.ownBlock])⟩), Kd.V_nil _ _ _ _ _, by first | exact Kd.R_nil _ _ _ _ _ | exact Kd.N_nil _ _ _ _ _ | exact Kd.V_nil _ _ _ _ _ | exact Kd.Q_nil _ _ _ _ _ | exact Kd.S_nil _ _ _ _ _, by repeat (first | (with_reducible first | exact HB.out | apply below_alloc | apply pw_below_drewN | apply below_drew1 | refine below_set ?_ GE117.out | refine below_set ?_ GE118.out) | exact HB.out)⟩
                            · rw [if_neg c103] at H
                              exact absurd H (by simp)
                          · rw [if_neg c102] at H
                            exact absurd H (by simp)
                        · rw [if_neg c101] at H
                          have c101b0 : (a1_0 == 9) = false := beq_eq_false_iff_ne.mpr c101
                          have c101b1 : (a1_0 != 9) = true := bne_iff_ne.mpr c101
                          by_cases c108 : a1_0 = 10
                          · rw [if_pos c108] at H
                            have c108b0 : (a1_0 == 10) = true := beq_iff_eq.mpr c108
                            have c108b1 : (a1_0 != 10) = false := bne_eq_false_iff_eq.mpr c108
                            clear c108
                            by_cases c109 : 0 ≤ a1_1
                            · rw [if_pos c109] at H
                              have c109b0 := eq_true c109
                              have c109b1 : decide (0 ≤ a1_1) = true := decide_eq_true c109
                              clear c109
                              by_cases c110 : a1_1 ≤ (l0.length : Int)
                              · rw [if_pos c110] at H
                                have c110b0 := eq_true c110
                                have c110b1 : decide (a1_1 ≤ (l0.length : Int)) = true := decide_eq_true c110
                                clear c110
                                obtain ⟨y178, hy178⟩ : ∃ y_ : List Int, y_ = (l0.drop (a1_1 : Int).toNat) := ⟨_, rfl⟩
                                replace H : (some (y178, 0, ([] : List Int), ([] : List Int))) = some (r1, r2, r3, r4) := by first | (rw [hy178]; with_reducible exact H) | (have H2_ := (Option.bind_some _ _).symm.trans H; rw [hy178]; with_reducible exact H2_) | (have H2_ := (Option.bind_some _ _).symm.trans H; with_reducible exact H2_) | with_reducible exact H | (rw [hy178]; exact H) | exact H
                                have Ny178 := Aside0.mk hy178
                                clear hy178
                                simp only [Option.some.injEq, Prod.mk.injEq] at H
                                obtain ⟨rfl, rfl, rfl, rfl⟩ := H
                                have hnb111 := NB117_118.out
                                have hnc111 := NB118_117.out
                                have hcz112_0 : wc.cell? ⟨gb117, 0, none⟩ = some (.int .i64 a1_0) := (blk_cell BK117.out 0).trans rfl
                                have hcz112_1 : wc.cell? ⟨gb117, 1, none⟩ = some (.int .i64 a1_1) := (blk_cell BK117.out 1).trans rfl
                                have hcz112_2 : wc.cell? ⟨gb117, 2, none⟩ = some (.int .i64 a1_2) := (blk_cell BK117.out 2).trans rfl
                                have hcz112_3 : wc.cell? ⟨gb117, 3, none⟩ = some (.slice A1_3 l1_3.length c1_3) := (blk_cell BK117.out 3).trans rfl
                                have hfz112_0 := blk_frozen BK117.out 0
                                have hfz112_1 := blk_frozen BK117.out 1
                                have hfz112_2 := blk_frozen BK117.out 2
                                have hfz112_3 := blk_frozen BK117.out 3
                                have q113 : (a1_1 : Int) ≤ ((l0.length : Int) : Int) := of_decide_eq_true (by first | (with_reducible assumption) | assumption)
                                obtain ⟨i0113, hi0113, _, hsz113, _⟩ := info_parts info3
                                have hroom113 : l0.length ≤ c0 := (Kd.V_reads' HO_0.out).2.1
                                have hC113 : Kd.F (Kd.int .i64) _ _ A0 l0.length l0 := (Kd.V_at (base := w.heap.size) HO_0.out).2.2
                                have q0113 : (0 : Int) ≤ (a1_1 : Int) := of_decide_eq_true (by first | (with_reducible assumption) | assumption)
                                have hcut113 := cut_from (P := Try.prog) 24 3 .i64 Try.underlying24 hi0113 1 hsz113 A0 l0.length c0 a1_1 q0113 q113
                                have hr113 := Kd.F_cut (m := (a1_1 : Int).toNat) (c := c0) hC113 (by omega) hroom113
                                obtain ⟨A113, hA113⟩ : ∃ A1, A1 = (if c0 = (a1_1 : Int).toNat then A0 else (A0 : Option Addr).map (·.add ((a1_1 : Int).toNat * 1))) := ⟨_, rfl⟩
                                obtain ⟨c113, hc113⟩ : ∃ c1, c1 = c0 - (a1_1 : Int).toNat := ⟨_, rfl⟩
                                have hy113 : y178.length = l0.length - (a1_1 : Int).toNat := (by rw [Ny178.out, List.length_drop] <;> omega)
                                rw [show (l0).drop (a1_1 : Int).toNat = y178 from Ny178.out.symm] at hr113
                                replace hr113 : Kd.F (Kd.int .i64) _ _ A113 y178.length y178 := (by rw [hA113]; exact hr113)
                                rw [← hy113, ← hA113, ← hc113] at hcut113
                                have HO182 := Aside0.mk (show Kd.V (Kd.int .i64) 3 _ w.heap.size _ (.slice A113 y178.length c113) y178 from Kd.V_mk (by rw [hy113, hc113]; exact Nat.sub_le_sub_right hroom113 _) hr113)
                                have HC182 := Aside0.mk (show y178.length ≤ c113 from by rw [hy113, hc113]; exact Nat.sub_le_sub_right hroom113 _)
                                clear hr113 hC113 hroom113 hi0113 hsz113 hc113
                                have KY113 := Aside0.mk hy113
                                have KA113 := Aside0.mk hA113
                                clear hy113 hA113
                                replace q113 := eq_true q113
                                have hcz114_0 : wc.cell? ⟨gb118, 0, none⟩ = some (.int .i64 0) := (blk_cell BK118.out 0).trans rfl
                                have hcz114_1 : wc.cell? ⟨gb118, 1, none⟩ = some (.slice none 0 0) := (blk_cell BK118.out 1).trans rfl
                                have hcz114_2 : wc.cell? ⟨gb118, 2, none⟩ = some (.slice none 0 0) := (blk_cell BK118.out 2).trans rfl
                                have hfz114_0 := blk_frozen BK118.out 0
                                have hfz114_1 := blk_frozen BK118.out 1
                                have hfz114_2 := blk_frozen BK118.out 2
                                go_wp2
                                refine bodyPost_ret (results_tc rfl _ _ gb118 34 #[.int .i64 0, .slice none 0 0, .slice none 0 0] (0, 0) _ rfl (by (with_reducible repeat (first | refine blk_drewN ?_ _ | refine blk_drew ?_ | refine blk_alloc ?_ _)); refine blk_put (cs := #[.int .i64 0, .slice none 0 0, .slice none 0 0]) ?_ 2 _ rfl; (with_reducible repeat (first | refine blk_drewN ?_ _ | refine blk_drew ?_ | refine blk_alloc ?_ _)); refine blk_put (cs := #[.int .i64 0, .slice none 0 0, .slice none 0 0]) ?_ 1 _ rfl; (with_reducible repeat (first | refine blk_drewN ?_ _ | refine blk_drew ?_ | refine blk_alloc ?_ _)); refine blk_put (cs := #[.int .i64 0, .slice none 0 0, .slice none 0 0]) ?_ 0 _ rfl; (with_reducible repeat (first | refine blk_drewN ?_ _ | refine blk_drew ?_ | refine blk_alloc ?_ _)); exact BK118.out) Try.underlying34 rfl (by kernel_rfl)) rfl ?_
                                exact ⟨_, _, _, by first | rfl | (simp [errW_none, errW_some] <;> rfl) | (simp [*, errW_none, errW_some] <;> rfl), by (with_reducible repeat (first | apply Kd.V_alloc | apply Kd.V_drewN | apply Kd.V_drew)); exact Kd.V_mono (Kd.V_far (p := ⟨gb118, 2, none⟩) (Kd.V_far (p := ⟨gb118, 1, none⟩) (Kd.V_far (p := ⟨gb118, 0, none⟩) (Kd.V_mono HO182.out (fun k_ hk => (⟨hk, hk.2.2⟩ : _ ∧ k_ ≠ gb118))) (fun _ hk => hk.2) (.int .i64 0)) (fun _ hk => hk.2) (.slice none 0 0)) (fun _ hk => hk.2) (.slice none 0 0)) (fun _ hk => ⟨hk.1.1, (by simp [Value.ownBlock])⟩), Kd.V_nil _ _ _ _ _, by first | exact Kd.R_nil _ _ _ _ _ | exact Kd.N_nil _ _ _ _ _ | exact Kd.V_nil _ _ _ _ _ | exact Kd.Q_nil _ _ _ _ _ | exact Kd.S_nil _ _ _ _ _, by repeat (first | (with_reducible first | exact HB.out | apply below_alloc | apply pw_below_drewN | apply below_drew1 | refine below_set ?_ GE117.out | refine below_set ?_ GE118.out) | exact HB.out)⟩
                              · rw [if_neg c110] at H
                                exact absurd H (by simp)
                            · rw [if_neg c109] at H
                              exact absurd H (by simp)
                          · rw [if_neg c108] at H
                            have c108b0 : (a1_0 == 10) = false := beq_eq_false_iff_ne.mpr c108
                            have c108b1 : (a1_0 != 10) = true := bne_iff_ne.mpr c108
                            simp only [Option.some.injEq, Prod.mk.injEq] at H
                            obtain ⟨rfl, rfl, rfl, rfl⟩ := H
                            have hnb115 := NB118_117.out
                            have hnc115 := NB117_118.out
                            have hcz116_0 : wc.cell? ⟨gb118, 0, none⟩ = some (.int .i64 0) := (blk_cell BK118.out 0).trans rfl
                            have hcz116_1 : wc.cell? ⟨gb118, 1, none⟩ = some (.slice none 0 0) := (blk_cell BK118.out 1).trans rfl
                            have hcz116_2 : wc.cell? ⟨gb118, 2, none⟩ = some (.slice none 0 0) := (blk_cell BK118.out 2).trans rfl
                            have hfz116_0 := blk_frozen BK118.out 0
                            have hfz116_1 := blk_frozen BK118.out 1
                            have hfz116_2 := blk_frozen BK118.out 2
                            go_wp2
                            refine bodyPost_ret (results_tc rfl _ _ gb118 34 #[.int .i64 0, .slice none 0 0, .slice none 0 0] (0, 0) _ rfl (by (with_reducible repeat (first | refine blk_drewN ?_ _ | refine blk_drew ?_ | refine blk_alloc ?_ _)); refine blk_put (cs := #[.int .i64 0, .slice none 0 0, .slice none 0 0]) ?_ 2 _ rfl; (with_reducible repeat (first | refine blk_drewN ?_ _ | refine blk_drew ?_ | refine blk_alloc ?_ _)); refine blk_put (cs := #[.int .i64 0, .slice none 0 0, .slice none 0 0]) ?_ 1 _ rfl; (with_reducible repeat (first | refine blk_drewN ?_ _ | refine blk_drew ?_ | refine blk_alloc ?_ _)); refine blk_put (cs := #[.int .i64 0, .slice none 0 0, .slice none 0 0]) ?_ 0 _ rfl; (with_reducible repeat (first | refine blk_drewN ?_ _ | refine blk_drew ?_ | refine blk_alloc ?_ _)); exact BK118.out) Try.underlying34 rfl (by kernel_rfl)) rfl ?_
                            exact ⟨_, _, _, by first | rfl | (simp [errW_none, errW_some] <;> rfl) | (simp [*, errW_none, errW_some] <;> rfl), by (with_reducible repeat (first | apply Kd.V_alloc | apply Kd.V_drewN | apply Kd.V_drew)); exact Kd.V_mono (Kd.V_far (p := ⟨gb118, 2, none⟩) (Kd.V_far (p := ⟨gb118, 1, none⟩) (Kd.V_far (p := ⟨gb118, 0, none⟩) (Kd.V_mono HO_0.out (fun k_ hk => (⟨hk, hk.2.2⟩ : _ ∧ k_ ≠ gb118))) (fun _ hk => hk.2) (.int .i64 0)) (fun _ hk => hk.2) (.slice none 0 0)) (fun _ hk => hk.2) (.slice none 0 0)) (fun _ hk => ⟨hk.1.1, (by simp [Value.ownBlock])⟩), Kd.V_nil _ _ _ _ _, by first | exact Kd.R_nil _ _ _ _ _ | exact Kd.N_nil _ _ _ _ _ | exact Kd.V_nil _ _ _ _ _ | exact Kd.Q_nil _ _ _ _ _ | exact Kd.S_nil _ _ _ _ _, by repeat (first | (with_reducible first | exact HB.out | apply below_alloc | apply pw_below_drewN | apply below_drew1 | refine below_set ?_ GE117.out | refine below_set ?_ GE118.out) | exact HB.out)⟩

end Go.Proofs.Ytdlnpmbnedmmnaa.QFnRopeInsertJoins
