/- The machine's side of a law, as the kit's print writes it; of the functions that the print doesn't cover this session's own contracts stand in it: no condition. -/
import Derived.Test.YtjlcebgfknfelaaAvlI
import Derived.Test.YtjlcebgfknfelaaQFnAvlRunsx0
namespace Go.Proofs.Ytjlcebgfknfelaa.QFnAvlRuns
open Go.RowKit Go.Proofs.YtjlcebgfknfelaaW.PrintWords Go.Proofs.YtjlcebgfknfelaaW.PrintLast Go.Proofs.YtjlcebgfknfelaaW.PrintMore
attribute [local go_sem] max2_int min2_int max_two min_two max_three min_three max_four min_four   -- for this text's walks alone
set_option linter.unusedVariables false
set_option linter.unusedSimpArgs false

-- NOT PRINTED: function 81 (avl_node_int_int_getHeight)

/-! ### zgeneric_Max_int: function 95 -/
def zgeneric_Max_int.f (a0 : Int) (a1 : Int) : Option (Int) := if a0 > a1 then (some a0) else (some a1)
set_option maxHeartbeats 8000000 in
set_option maxRecDepth 100000 in
theorem zgeneric_Max_int.calls (a0 : Int) (a1 : Int) (r : Int) (w : World) (h : zgeneric_Max_int.f a0 a1 = some r) :
    Calls Try.prog 95 #[.int .i64 a0, .int .i64 a1] w fun e w' => e = .returned (.int .i64 r) ∧ Drawn0 w w' := by
  have H : (if a0 > a1 then (some a0) else (some a1)) = some r := h
  clear h
  by_cases c3 : a0 > a1
  · rw [if_pos c3] at H
    have c3b0 : decide (a1 < a0) = true := decide_eq_true c3
    clear c3
    obtain rfl := Option.some.inj H
    go_enter Try.func95, Try.ntmps95
    go_wp2
    go_ret
    exact ⟨by first | rfl | (simp; done) | (simp [*]; done), by repeat (first | exact Drawn0.refl _ | apply Drawn0.step)⟩
  · rw [if_neg c3] at H
    have c3b0 : decide (a1 < a0) = false := decide_eq_false c3
    clear c3
    obtain rfl := Option.some.inj H
    go_enter Try.func95, Try.ntmps95
    go_wp2
    go_ret
    exact ⟨by first | rfl | (simp; done) | (simp [*]; done), by repeat (first | exact Drawn0.refl _ | apply Drawn0.step)⟩

-- NOT PRINTED: function 80 (avl_node_int_int_recalculateHeight)

-- NOT PRINTED: function 77 (avl_node_int_int_rotateRight)

-- NOT PRINTED: function 78 (avl_node_int_int_rotateLeft)

-- NOT PRINTED: function 58 (avl_node_int_int_rebalanceTree)

-- NOT PRINTED: function 96 (zgeneric_Compare_int)

-- NOT PRINTED: function 83 (avl_node_int_int_add)

-- NOT PRINTED: function 60 (avl_Tree_int_int_Put)

-- NOT PRINTED: function 97 (avl_node_int_int_findSmallest)

-- NOT PRINTED: function 84 (avl_node_int_int_remove)

-- NOT PRINTED: function 61 (avl_Tree_int_int_Remove)

-- NOT PRINTED: function 85 (avl_node_int_int_search)

-- NOT PRINTED: function 62 (avl_Tree_int_int_Get)

-- NOT PRINTED: function 86 (avl_node_int_int_size)

-- NOT PRINTED: function 63 (avl_Tree_int_int_Size)

-- NOT PRINTED: function 87 (avl_node_int_int_each)

-- NOT PRINTED: function 64 (avl_Tree_int_int_Each)

-- NOT PRINTED: function 66 (avl_Tree_int_int_Height)

-- NOT PRINTED: function 45 (impl_avlDo)

-- NOT PRINTED: function 46 (avl_New_int_int)

-- NOT PRINTED: function 47 (impl_less)

/-! ### impl_AvlRun: function 23 -/
def told_of (p : Avl.Told4) : S46 := ⟨p.1, p.2.1, p.2.2.1, p.2.2.2⟩
def impl_AvlRun.f (l0 : List Int) (l1 : List (S66)) : Option (List (S46)) :=
  if l0.length ≤ 2147483647 then (if l1.length ≤ 2147483647 then some ((Avl.toldT l0 .nil (l1.map fun x => (x.f0, x.f1, x.f2))).map told_of) else none) else none
theorem impl_AvlRun.calls (A0 : Option Addr) (c0 : Nat) (l0 : List Int) (A1 : Option Addr) (c1 : Nat) (l1 : List (S66)) (r : List (S46)) (w : World) (hr0 : Kd.C (Kd.int .i64) w A0 l0.length l0) (hc0 : l0.length ≤ c0) (hr1 : Kd.C k66 w A1 l1.length l1) (hc1 : l1.length ≤ c1) (h : impl_AvlRun.f l0 l1 = some r) :
    Calls Try.prog 23 #[.slice A0 l0.length c0, .slice A1 l1.length c1] w fun e w' => ∃ v0_ : Value, e = .returned (v0_) ∧ Kd.S k46 46 w' w.heap.size (fun _ => True) v0_ r ∧ Below w.heap.size w w' := by
  unfold impl_AvlRun.f at h
  by_cases q1 : l0.length ≤ 2147483647
  · rw [if_pos q1] at h
    by_cases q2 : l1.length ≤ 2147483647
    · rw [if_pos q2] at h
      obtain rfl := Option.some.inj h
      have hC := Row.C_iso hr1
      have hl : (l1.map fun x : S66 => (x.f0, x.f1, x.f2)).length = l1.length := List.length_map ..
      have H := Avl.AvlRun_any A0 c0 l0 A1 c1 (l1.map fun x : S66 => (x.f0, x.f1, x.f2)) w hr0 q1 (by rw [hl]; exact hC) (by rw [hl]; exact q2)
      rw [hl] at H
      refine H.mono ?_
      rintro e w' ⟨v, he, hS, hB⟩
      refine ⟨v, he, Row.S_iso ?_, hB⟩
      rw [List.map_map, show ((fun x : S46 => (x.f0, x.f1, x.f2, x.f3)) ∘ told_of) = id from rfl, List.map_id]
      exact hS
    · rw [if_neg q2] at h; cases h
  · rw [if_neg q1] at h; cases h

/-! ### spec_Rank: function 50 -/
def spec_Rank.f (l0 : List Int) (a1 : Int) : Option (Int) := if (l0.length : Int) = 0 then (some a1) else (if 0 ≤ (Int.tmod (wrap64 ((Int.tmod a1 (l0.length : Int)) + (l0.length : Int))) (l0.length : Int)) then (if (Int.tmod (wrap64 ((Int.tmod a1 (l0.length : Int)) + (l0.length : Int))) (l0.length : Int)) < (l0.length : Int) then (some (rd l0 (Int.tmod (wrap64 ((Int.tmod a1 (l0.length : Int)) + (l0.length : Int))) (l0.length : Int)))) else (none)) else (none))
set_option maxHeartbeats 8000000 in
set_option maxRecDepth 100000 in
theorem spec_Rank.calls (A0 : Option Addr) (c0 : Nat) (l0 : List Int) (a1 : Int) (r : Int) (w : World) (hr0 : Kd.C (Kd.int .i64) w A0 l0.length l0) (hc0 : l0.length ≤ c0) (h : spec_Rank.f l0 a1 = some r) :
    Calls Try.prog 50 #[.slice A0 l0.length c0, .int .i64 a1] w fun e w' => e = .returned (.int .i64 r) ∧ Drawn0 w w' := by
  have HR0 := Aside0.mk hr0
  have HC0 := Aside0.mk hc0
  clear hr0 hc0
  have H : (if (l0.length : Int) = 0 then (some a1) else (if 0 ≤ (Int.tmod (wrap64 ((Int.tmod a1 (l0.length : Int)) + (l0.length : Int))) (l0.length : Int)) then (if (Int.tmod (wrap64 ((Int.tmod a1 (l0.length : Int)) + (l0.length : Int))) (l0.length : Int)) < (l0.length : Int) then (some (rd l0 (Int.tmod (wrap64 ((Int.tmod a1 (l0.length : Int)) + (l0.length : Int))) (l0.length : Int)))) else (none)) else (none))) = some r := h
  clear h
  by_cases c3 : (l0.length : Int) = 0
  · rw [if_pos c3] at H
    have c3b0 : ((l0.length : Int) == 0) = true := beq_iff_eq.mpr c3
    have c3b1 : ((l0.length : Int) != 0) = false := bne_eq_false_iff_eq.mpr c3
    clear c3
    obtain rfl := Option.some.inj H
    go_enter Try.func50, Try.ntmps50
    go_wp2
    go_ret
    exact ⟨by first | rfl | (simp; done) | (simp [*]; done), by repeat (first | exact Drawn0.refl _ | apply Drawn0.step)⟩
  · rw [if_neg c3] at H
    have c3b0 : ((l0.length : Int) == 0) = false := beq_eq_false_iff_ne.mpr c3
    have c3b1 : ((l0.length : Int) != 0) = true := bne_iff_ne.mpr c3
    have c3b2 : ¬ (l0 = []) := fun h_ => c3 (by rw [h_]; rfl)
    obtain ⟨ji4, hji4⟩ : ∃ j_ : Int, (Int.tmod (wrap64 ((Int.tmod a1 (l0.length : Int)) + (l0.length : Int))) (l0.length : Int)) = j_ := ⟨_, rfl⟩
    replace H : (if 0 ≤ (ji4) then (if (ji4) < (l0.length : Int) then (some (rd l0 (ji4))) else (none)) else (none)) = some r := by first | (rw [hji4] at H; exact H) | (simp only [hji4] at H ⊢; exact H)
    by_cases c5 : 0 ≤ (ji4)
    · rw [if_pos c5] at H
      have c5b0 : decide (0 ≤ (ji4)) = true := decide_eq_true c5
      clear c5
      by_cases c6 : (ji4) < (l0.length : Int)
      · rw [if_pos c6] at H
        have c6b0 : decide ((ji4) < (l0.length : Int)) = true := decide_eq_true c6
        clear c6
        obtain rfl := Option.some.inj H
        have p104 : 0 ≤ ((ji4) : Int) := of_decide_eq_true (by first | (with_reducible assumption) | assumption)
        have q104 : (ji4) < (l0.length : Int) := of_decide_eq_true (by first | (with_reducible assumption) | assumption)
        obtain ⟨ad104, e104, hx104_0⟩ := Kd.at_int HR0.out (ji4) p104 q104
        cases e104
        replace p104 := eq_true p104
        replace q104 := eq_true q104
        go_enter Try.func50, Try.ntmps50
        go_wp2
        go_ret
        exact ⟨by first | rfl | (simp; done) | (simp only [← hji4] <;> (first | rfl | simp)) | (simp [*]; done), by repeat (first | exact Drawn0.refl _ | apply Drawn0.step)⟩
      · rw [if_neg c6] at H
        exact absurd H (by simp)
    · rw [if_neg c5] at H
      exact absurd H (by simp)

/-! ### spec_Alike: function 37 -/
def spec_Alike.f (l0 : List Int) (a1 : Int) (a2 : Int) : Option (Bool) := (spec_Rank.f l0 a1).bind fun t105 => ((spec_Rank.f l0 a2).bind fun t106 => (some (t105 == t106)))
set_option maxHeartbeats 8000000 in
set_option maxRecDepth 100000 in
theorem spec_Alike.calls (A0 : Option Addr) (c0 : Nat) (l0 : List Int) (a1 : Int) (a2 : Int) (r : Bool) (w : World) (hr0 : Kd.C (Kd.int .i64) w A0 l0.length l0) (hc0 : l0.length ≤ c0) (h : spec_Alike.f l0 a1 a2 = some r) :
    Calls Try.prog 37 #[.slice A0 l0.length c0, .int .i64 a1, .int .i64 a2] w fun e w' => e = .returned (.bool r) ∧ Drawn0 w w' := by
  have HR0 := Aside0.mk hr0
  have HC0 := Aside0.mk hc0
  clear hr0 hc0
  have H : ((spec_Rank.f l0 a1).bind fun t105 => ((spec_Rank.f l0 a2).bind fun t106 => (some (t105 == t106)))) = some r := h
  clear h
  replace H := Option.bind_eq_some_iff.mp H
  obtain ⟨t105, A40, H⟩ := H
  replace H : ((spec_Rank.f l0 a2).bind fun t106 => (some (t105 == t106))) = some r := H
  have A4 := Aside0.mk A40
  clear A40
  replace H := Option.bind_eq_some_iff.mp H
  obtain ⟨t106, A50, H⟩ := H
  replace H : (some (t105 == t106)) = some r := H
  have A5 := Aside0.mk A50
  clear A50
  obtain rfl := Option.some.inj H
  go_enter Try.func37, Try.ntmps37
  go_wp2_with (first | ((with_reducible refine gate_callee (f := 50) rfl ?_); refine goesL_ (some 9) rfl rfl Try.func50 (by kernel_rfl) rfl #[.slice A0 l0.length c0, .int .i64 a1] rfl (by (try simp only [List.map_toArray, List.map_cons, List.map_nil]); first | done | rfl | (simp only [List.length_drop, List.length_take]; rfl)) ?_; (with_reducible refine (spec_Rank.calls _ _ l0 a1 t105 _ ?side1 ?side2 A4.out).mono ?_); (case side1 => repeat (first | exact HR0.out | (with_reducible refine Kd.C_alloc ?_ _) | (with_reducible refine Kd.C_drewN ?_ _) | (with_reducible refine Kd.C_drew ?_))); (case side2 => exact HC0.out); rintro e w' ⟨rfl, ⟨nd, rfl⟩⟩; refine ⟨_, rfl, ?_⟩) | ((with_reducible refine gate_callee (f := 50) rfl ?_); refine goesL_ (some 12) rfl rfl Try.func50 (by kernel_rfl) rfl #[.slice A0 l0.length c0, .int .i64 a2] rfl (by (try simp only [List.map_toArray, List.map_cons, List.map_nil]); first | done | rfl | (simp only [List.length_drop, List.length_take]; rfl)) ?_; (with_reducible refine (spec_Rank.calls _ _ l0 a2 t106 _ ?side1 ?side2 A5.out).mono ?_); (case side1 => repeat (first | exact HR0.out | (with_reducible refine Kd.C_alloc ?_ _) | (with_reducible refine Kd.C_drewN ?_ _) | (with_reducible refine Kd.C_drew ?_))); (case side2 => exact HC0.out); rintro e w' ⟨rfl, ⟨nd, rfl⟩⟩; refine ⟨_, rfl, ?_⟩))
  go_ret
  exact ⟨by first | rfl | (simp; done) | (simp [*]; done), by repeat (first | exact Drawn0.refl _ | apply Drawn0.step)⟩

/-! ### spec_Tree_find: function 89 -/
def spec_Tree_find.l0 : Nat → List Int → Int → Int → List Int → List Int → Option (Int × Bool)
  | 0, _, _, _, _, _ => none
  | k + 1, x1, x2, x8, x108000, x108001 => if x8 < (x108000.length : Int) then (if 0 ≤ x8 then ((spec_Rank.f x1 (rd x108000 x8)).bind fun t109 => ((spec_Rank.f x1 x2).bind fun t110 => (if t109 < t110 then (spec_Tree_find.l0 k x1 x2 (wrap64 (x8 + 1)) x108000 x108001) else ((spec_Alike.f x1 (rd x108000 x8) x2).bind fun t112 => (some (x8, t112)))))) else (none)) else (some (x8, false))
def spec_Tree_find.f (k : Nat) (l0_0 : List Int) (l0_1 : List Int) (l1 : List Int) (a2 : Int) : Option (Int × Bool) := spec_Tree_find.l0 k l1 a2 0 l0_0 l0_1
theorem spec_Tree_find.mono_l : ∀ k, (∀ y0 y1 y2 y3 y4, LeO (spec_Tree_find.l0 k y0 y1 y2 y3 y4) (spec_Tree_find.l0 (k + 1) y0 y1 y2 y3 y4))
  | 0 => fun _ _ _ _ _ r h => by simp [spec_Tree_find.l0] at h
  | k + 1 => by
    have ih0 := spec_Tree_find.mono_l k
    · intro y0 y1 y2 y3 y4
      unfold spec_Tree_find.l0
      repeat' first
      | (with_reducible exact ih0 _ _ _ _ _)
      | (with_reducible exact LeO.refl _)
      | (with_reducible exact LeO.none _)
      | (with_reducible refine LeO.ite ?_ ?_)
      | (with_reducible refine LeO.bind ?_ (fun _ => ?_))
      | exact ih0 _ _ _ _ _
      | exact LeO.none _
      | refine LeO.ite ?_ ?_
      | refine LeO.bind ?_ (fun _ => ?_)
theorem spec_Tree_find.mono : ∀ a0 a1 a2 a3 k, LeO (spec_Tree_find.f k a0 a1 a2 a3) (spec_Tree_find.f (k + 1) a0 a1 a2 a3) := by
  intro a0 a1 a2 a3 k
  have ih0 := spec_Tree_find.mono_l k
  unfold spec_Tree_find.f
  repeat' first
      | (with_reducible exact ih0 _ _ _ _ _)
      | (with_reducible exact LeO.refl _)
      | (with_reducible exact LeO.none _)
      | (with_reducible refine LeO.ite ?_ ?_)
      | (with_reducible refine LeO.bind ?_ (fun _ => ?_))
      | exact ih0 _ _ _ _ _
      | exact LeO.none _
      | refine LeO.ite ?_ ?_
      | refine LeO.bind ?_ (fun _ => ?_)
set_option maxHeartbeats 8000000 in
set_option maxRecDepth 100000 in
theorem spec_Tree_find.calls (k : Nat) (A0_0 : Option Addr) (c0_0 : Nat) (l0_0 : List Int) (A0_1 : Option Addr) (c0_1 : Nat) (l0_1 : List Int) (A1 : Option Addr) (c1 : Nat) (l1 : List Int) (a2 : Int) (r1 : Int) (r2 : Bool) (w : World) (hr0_0 : Kd.C (Kd.int .i64) w A0_0 l0_0.length l0_0) (hc0_0 : l0_0.length ≤ c0_0) (hr0_1 : Kd.C (Kd.int .i64) w A0_1 l0_1.length l0_1) (hc0_1 : l0_1.length ≤ c0_1) (hr1 : Kd.C (Kd.int .i64) w A1 l1.length l1) (hc1 : l1.length ≤ c1) (h : spec_Tree_find.f k l0_0 l0_1 l1 a2 = some (r1, r2)) :
    Calls Try.prog 89 #[.agg #[.slice A0_0 l0_0.length c0_0, .slice A0_1 l0_1.length c0_1], .slice A1 l1.length c1, .int .i64 a2] w fun e w' => e = .returned (.tuple #[.int .i64 r1, .bool r2]) ∧ Below w.heap.size w w' := by
  have hu26 := Try.underlying26
  have HR0_0 := Aside0.mk hr0_0
  have HC0_0 := Aside0.mk hc0_0
  clear hr0_0 hc0_0
  have HR0_1 := Aside0.mk hr0_1
  have HC0_1 := Aside0.mk hc0_1
  clear hr0_1 hc0_1
  have HR1 := Aside0.mk hr1
  have HC1 := Aside0.mk hc1
  clear hr1 hc1
  have HB := Aside0.mk (Below.refl w.heap.size w)
  have H : (spec_Tree_find.l0 k l1 a2 0 l0_0 l0_1) = some (r1, r2) := h
  clear h
  have H' := Aside0.mk H
  clear H
  go_enter Try.func89, Try.ntmps89
  go_wp2_with (first | ((with_reducible refine gate_dst (N := 3) rfl ?_); refine box_event ?hg (N := 3) ?hd (cs := #[.slice A0_0 l0_0.length c0_0, .slice A0_1 l0_1.length c0_1]) (t := 26) ?hr ?_; (case hd => rfl); (case hg => rfl); (case hr => first | (go_simp; done) | (go_simp; rfl)); intro gb107 hg w4 hbox hb; have n0_ := Aside0.mk (below_step (by repeat (first | (with_reducible first | exact HB.out | apply below_alloc | apply pw_below_drewN | apply below_drew1) | exact HB.out)) hb); have n1_ := Aside0.mk (hbox); have n2_ := Aside0.mk ((by rw [hg]; exact (below_size (by repeat (first | (with_reducible first | exact HB.out | apply below_alloc | apply pw_below_drewN | apply below_drew1) | exact HB.out))) : w.heap.size ≤ gb107)); have n3_ := Aside0.mk ((by rw [hg]; exact (below_size (by repeat (first | (with_reducible first | exact HB.out | apply below_alloc | apply pw_below_drewN | apply below_drew1) | exact HB.out))) : w.heap.size ≤ gb107)); clear HB; have HB := n0_; have BK107 := n1_; have GW107 := n2_; have GE107 := n3_; clear n0_ n1_ n2_ n3_; clear hb hbox hg))
  go_loopg [8] k (fun kq v8 w' => ∃ (x8_1 : Int), v8 = .int .i64 x8_1 ∧ Aside0 (spec_Tree_find.l0 kq l1 a2 x8_1 l0_0 l0_1 = some (r1, r2)) ∧ Aside0 (kq ≤ k) ∧ Aside0 (w'.heap[gb107]? = some (.cells #[(.slice A0_0 l0_0.length c0_0), (.slice A0_1 l0_1.length c0_1)] 26 (0, 0))) ∧ Aside0 (Below w.heap.size w w'))
  case atStart => exact ⟨(0), (by first | rfl | (simp; done) | (simp [*]; done)), H', ⟨Nat.le_refl _⟩, ⟨by (with_reducible repeat (first | refine blk_drewN ?_ _ | refine blk_drew ?_ | refine blk_alloc ?_ _)); exact BK107.out⟩, ⟨by repeat (first | (with_reducible first | exact HB.out | apply below_alloc | apply pw_below_drewN | apply below_drew1 | refine below_set ?_ GE107.out) | exact HB.out)⟩⟩
  case round =>
    clear H'
    try clear c1
    try clear p2
    obtain ⟨x8_1, rfl, HA, HK1, BK107, HB⟩ := hrel
    cases gk with
    | zero => exact absurd HA.out (by simp [spec_Tree_find.l0])
    | succ k1 =>
      have H := HA.out
      clear HA
      simp only [spec_Tree_find.l0] at H
      by_cases c5 : x8_1 < (l0_0.length : Int)
      · rw [if_pos c5] at H
        have c5b0 : decide (x8_1 < (l0_0.length : Int)) = true := decide_eq_true c5
        clear c5
        by_cases c6 : 0 ≤ x8_1
        · rw [if_pos c6] at H
          have c6b0 : decide (0 ≤ x8_1) = true := decide_eq_true c6
          clear c6
          replace H := Option.bind_eq_some_iff.mp H
          obtain ⟨t109, A70, H⟩ := H
          replace H : ((spec_Rank.f l1 a2).bind fun t110 => (if t109 < t110 then (spec_Tree_find.l0 k1 l1 a2 (wrap64 (x8_1 + 1)) l0_0 l0_1) else ((spec_Alike.f l1 (rd l0_0 x8_1) a2).bind fun t112 => (some (x8_1, t112))))) = some (r1, r2) := H
          have A7 := Aside0.mk A70
          clear A70
          replace H := Option.bind_eq_some_iff.mp H
          obtain ⟨t110, A80, H⟩ := H
          replace H : (if t109 < t110 then (spec_Tree_find.l0 k1 l1 a2 (wrap64 (x8_1 + 1)) l0_0 l0_1) else ((spec_Alike.f l1 (rd l0_0 x8_1) a2).bind fun t112 => (some (x8_1, t112)))) = some (r1, r2) := H
          have A8 := Aside0.mk A80
          clear A80
          by_cases c9 : t109 < t110
          · rw [if_pos c9] at H
            have c9b0 : decide (t109 < t110) = true := decide_eq_true c9
            clear c9
            have H' := Aside0.mk H
            clear H
            have hcz10_0 : wr.cell? ⟨gb107, 0, none⟩ = some (.slice A0_0 l0_0.length c0_0) := (blk_cell BK107.out 0).trans rfl
            have hcz10_1 : wr.cell? ⟨gb107, 1, none⟩ = some (.slice A0_1 l0_1.length c0_1) := (blk_cell BK107.out 1).trans rfl
            have hfz10_0 := blk_frozen BK107.out 0
            have hfz10_1 := blk_frozen BK107.out 1
            have p108 : 0 ≤ (x8_1 : Int) := of_decide_eq_true (by first | (with_reducible assumption) | assumption)
            have q108 : x8_1 < (l0_0.length : Int) := of_decide_eq_true (by first | (with_reducible assumption) | assumption)
            obtain ⟨ad108, e108, hx108_0⟩ := Kd.at_int HR0_0.out x8_1 p108 q108
            cases e108
            replace hx108_0 := (HB.out.cell (World.block_lt_of_cell? w _ hx108_0)).trans hx108_0
            replace p108 := eq_true p108
            replace q108 := eq_true q108
            go_wp2_with (first | (go_at_call 50; (with_reducible refine (spec_Rank.calls _ _ l1 (rd l0_0 x8_1) t109 _ ?side1 ?side2 A7.out).mono ?_); (case side1 => repeat (first | exact (Kd.C_below HR1.out HB.out) | (with_reducible refine Kd.C_alloc ?_ _) | (with_reducible refine Kd.C_drewN ?_ _) | (with_reducible refine Kd.C_drew ?_))); (case side2 => exact HC1.out); rintro e w' ⟨rfl, ⟨nd, rfl⟩⟩) | (go_at_call 50; (with_reducible refine (spec_Rank.calls _ _ l1 a2 t110 _ ?side1 ?side2 A8.out).mono ?_); (case side1 => repeat (first | exact (Kd.C_below HR1.out (by repeat (first | (with_reducible first | exact HB.out | apply below_alloc | apply pw_below_drewN | apply below_drew1 | refine below_set ?_ GE107.out) | exact HB.out))) | (with_reducible refine Kd.C_alloc ?_ _) | (with_reducible refine Kd.C_drewN ?_ _) | (with_reducible refine Kd.C_drew ?_))); (case side2 => exact HC1.out); rintro e w' ⟨rfl, ⟨nd, rfl⟩⟩))
            go_roundg k1
            case measure => have := HK1.out; omega
            case rel => exact ⟨(wrap64 (x8_1 + 1)), (by first | rfl | (simp; done) | (simp [*]; done)), H', ⟨by have := HK1.out; omega⟩, ⟨by (with_reducible repeat (first | refine blk_drewN ?_ _ | refine blk_drew ?_ | refine blk_alloc ?_ _)); exact BK107.out⟩, ⟨by repeat (first | (with_reducible first | exact HB.out | apply below_alloc | apply pw_below_drewN | apply below_drew1 | refine below_set ?_ GE107.out) | exact HB.out)⟩⟩
          · rw [if_neg c9] at H
            have c9b0 : decide (t109 < t110) = false := decide_eq_false c9
            clear c9
            replace H := Option.bind_eq_some_iff.mp H
            obtain ⟨t112, A110, H⟩ := H
            replace H : (some (x8_1, t112)) = some (r1, r2) := H
            have A11 := Aside0.mk A110
            clear A110
            simp only [Option.some.injEq, Prod.mk.injEq] at H
            obtain ⟨rfl, rfl⟩ := H
            have hcz12_0 : wr.cell? ⟨gb107, 0, none⟩ = some (.slice A0_0 l0_0.length c0_0) := (blk_cell BK107.out 0).trans rfl
            have hcz12_1 : wr.cell? ⟨gb107, 1, none⟩ = some (.slice A0_1 l0_1.length c0_1) := (blk_cell BK107.out 1).trans rfl
            have hfz12_0 := blk_frozen BK107.out 0
            have hfz12_1 := blk_frozen BK107.out 1
            have p108 : 0 ≤ (x8_1 : Int) := of_decide_eq_true (by first | (with_reducible assumption) | assumption)
            have q108 : x8_1 < (l0_0.length : Int) := of_decide_eq_true (by first | (with_reducible assumption) | assumption)
            obtain ⟨ad108, e108, hx108_0⟩ := Kd.at_int HR0_0.out x8_1 p108 q108
            cases e108
            replace hx108_0 := (HB.out.cell (World.block_lt_of_cell? w _ hx108_0)).trans hx108_0
            replace p108 := eq_true p108
            replace q108 := eq_true q108
            go_wp2_with (first | (go_at_call 50; (with_reducible refine (spec_Rank.calls _ _ l1 (rd l0_0 x8_1) t109 _ ?side1 ?side2 A7.out).mono ?_); (case side1 => repeat (first | exact (Kd.C_below HR1.out HB.out) | (with_reducible refine Kd.C_alloc ?_ _) | (with_reducible refine Kd.C_drewN ?_ _) | (with_reducible refine Kd.C_drew ?_))); (case side2 => exact HC1.out); rintro e w' ⟨rfl, ⟨nd, rfl⟩⟩) | (go_at_call 50; (with_reducible refine (spec_Rank.calls _ _ l1 a2 t110 _ ?side1 ?side2 A8.out).mono ?_); (case side1 => repeat (first | exact (Kd.C_below HR1.out (by repeat (first | (with_reducible first | exact HB.out | apply below_alloc | apply pw_below_drewN | apply below_drew1 | refine below_set ?_ GE107.out) | exact HB.out))) | (with_reducible refine Kd.C_alloc ?_ _) | (with_reducible refine Kd.C_drewN ?_ _) | (with_reducible refine Kd.C_drew ?_))); (case side2 => exact HC1.out); rintro e w' ⟨rfl, ⟨nd, rfl⟩⟩; have p111 : 0 ≤ (x8_1 : Int) := of_decide_eq_true (by first | (with_reducible assumption) | assumption); have q111 : x8_1 < (l0_0.length : Int) := of_decide_eq_true (by first | (with_reducible assumption) | assumption); obtain ⟨ad111, e111, hx111_0⟩ := Kd.at_int HR0_0.out x8_1 p111 q111; obtain rfl : ad108 = ad111 := (by injection e111); replace hx111_0 := (HB.out.cell (World.block_lt_of_cell? w _ hx111_0)).trans hx111_0; replace p111 := eq_true p111; replace q111 := eq_true q111) | (go_at_call 37; (with_reducible refine (spec_Alike.calls _ _ l1 (rd l0_0 x8_1) a2 t112 _ ?side1 ?side2 A11.out).mono ?_); (case side1 => repeat (first | exact (Kd.C_below HR1.out (by repeat (first | (with_reducible first | exact HB.out | apply below_alloc | apply pw_below_drewN | apply below_drew1 | refine below_set ?_ GE107.out) | exact HB.out))) | (with_reducible refine Kd.C_alloc ?_ _) | (with_reducible refine Kd.C_drewN ?_ _) | (with_reducible refine Kd.C_drew ?_))); (case side2 => exact HC1.out); rintro e w' ⟨rfl, ⟨nd, rfl⟩⟩))
            go_ret2
            exact ⟨by first | rfl | (simp [errW_none, errW_some] <;> rfl) | (simp [*, errW_none, errW_some] <;> rfl), by repeat (first | (with_reducible first | exact HB.out | apply below_alloc | apply pw_below_drewN | apply below_drew1 | refine below_set ?_ GE107.out) | exact HB.out)⟩
        · rw [if_neg c6] at H
          exact absurd H (by simp)
      · rw [if_neg c5] at H
        have c5b0 : decide (x8_1 < (l0_0.length : Int)) = false := decide_eq_false c5
        clear c5
        simp only [Option.some.injEq, Prod.mk.injEq] at H
        obtain ⟨rfl, rfl⟩ := H
        have hcz13_0 : wr.cell? ⟨gb107, 0, none⟩ = some (.slice A0_0 l0_0.length c0_0) := (blk_cell BK107.out 0).trans rfl
        have hcz13_1 : wr.cell? ⟨gb107, 1, none⟩ = some (.slice A0_1 l0_1.length c0_1) := (blk_cell BK107.out 1).trans rfl
        have hfz13_0 := blk_frozen BK107.out 0
        have hfz13_1 := blk_frozen BK107.out 1
        go_wp2
        go_ret2
        exact ⟨by first | rfl | (simp [errW_none, errW_some] <;> rfl) | (simp [*, errW_none, errW_some] <;> rfl), by repeat (first | (with_reducible first | exact HB.out | apply below_alloc | apply pw_below_drewN | apply below_drew1 | refine below_set ?_ GE107.out) | exact HB.out)⟩

/-! ### spec_put: function 90 -/
def spec_put.f (l0 : List Int) (a1 : Int) (a2 : Int) : Option (List Int) := (some (([] : List Int) : List Int)).bind fun y113 => (if 0 ≤ a1 then (if a1 ≤ (l0.length : Int) then (if y113.length + (l0.take (a1 : Int).toNat).length < 17592186044416 then ((some (y113 ++ (l0.take (a1 : Int).toNat) : List Int)).bind fun y117 => (if y117.length < 17592186044416 then ((some (y117 ++ [a2] : List Int)).bind fun y120 => (if y120.length + (l0.drop (a1 : Int).toNat).length < 17592186044416 then (some (y120 ++ (l0.drop (a1 : Int).toNat))) else (none))) else (none))) else (none)) else (none)) else (none))
set_option maxHeartbeats 8000000 in
set_option maxRecDepth 100000 in
theorem spec_put.calls (A0 : Option Addr) (c0 : Nat) (l0 : List Int) (a1 : Int) (a2 : Int) (r : List Int) (w : World) (hr0 : Kd.C (Kd.int .i64) w A0 l0.length l0) (hc0 : l0.length ≤ c0) (h : spec_put.f l0 a1 a2 = some r) :
    Calls Try.prog 90 #[.slice A0 l0.length c0, .int .i64 a1, .int .i64 a2] w fun e w' => ∃ v0_ : Value, e = .returned (v0_) ∧ Kd.R (Kd.int .i64) 3 w' w.heap.size (fun _ => True) v0_ r ∧ Below w.heap.size w w' := by
  have HR0 := Aside0.mk hr0
  have HC0 := Aside0.mk hc0
  clear hr0 hc0
  have HB := Aside0.mk (Below.refl w.heap.size w)
  have H : ((some (([] : List Int) : List Int)).bind fun y113 => (if 0 ≤ a1 then (if a1 ≤ (l0.length : Int) then (if y113.length + (l0.take (a1 : Int).toNat).length < 17592186044416 then ((some (y113 ++ (l0.take (a1 : Int).toNat) : List Int)).bind fun y117 => (if y117.length < 17592186044416 then ((some (y117 ++ [a2] : List Int)).bind fun y120 => (if y120.length + (l0.drop (a1 : Int).toNat).length < 17592186044416 then (some (y120 ++ (l0.drop (a1 : Int).toNat))) else (none))) else (none))) else (none)) else (none)) else (none))) = some r := h
  clear h
  obtain ⟨y113, hy113⟩ : ∃ y_ : List Int, y_ = (([] : List Int)) := ⟨_, rfl⟩
  replace H : (if 0 ≤ a1 then (if a1 ≤ (l0.length : Int) then (if y113.length + (l0.take (a1 : Int).toNat).length < 17592186044416 then ((some (y113 ++ (l0.take (a1 : Int).toNat) : List Int)).bind fun y117 => (if y117.length < 17592186044416 then ((some (y117 ++ [a2] : List Int)).bind fun y120 => (if y120.length + (l0.drop (a1 : Int).toNat).length < 17592186044416 then (some (y120 ++ (l0.drop (a1 : Int).toNat))) else (none))) else (none))) else (none)) else (none)) else (none)) = some r := by first | (rw [hy113]; with_reducible exact H) | (have H2_ := (Option.bind_some _ _).symm.trans H; rw [hy113]; with_reducible exact H2_) | (have H2_ := (Option.bind_some _ _).symm.trans H; with_reducible exact H2_) | with_reducible exact H | (rw [hy113]; exact H) | exact H
  have Ny113 := Aside0.mk hy113
  clear hy113
  by_cases c4 : 0 ≤ a1
  · rw [if_pos c4] at H
    have c4b0 := eq_true c4
    have c4b1 : decide (0 ≤ a1) = true := decide_eq_true c4
    clear c4
    by_cases c5 : a1 ≤ (l0.length : Int)
    · rw [if_pos c5] at H
      have c5b0 := eq_true c5
      have c5b1 : decide (a1 ≤ (l0.length : Int)) = true := decide_eq_true c5
      clear c5
      by_cases c6 : y113.length + (l0.take (a1 : Int).toNat).length < 17592186044416
      · rw [if_pos c6] at H
        have LMc6 := Aside0.mk c6
        clear c6
        obtain ⟨y117, hy117⟩ : ∃ y_ : List Int, y_ = (y113 ++ (l0.take (a1 : Int).toNat)) := ⟨_, rfl⟩
        replace H : (if y117.length < 17592186044416 then ((some (y117 ++ [a2] : List Int)).bind fun y120 => (if y120.length + (l0.drop (a1 : Int).toNat).length < 17592186044416 then (some (y120 ++ (l0.drop (a1 : Int).toNat))) else (none))) else (none)) = some r := by first | (rw [hy117]; with_reducible exact H) | (have H2_ := (Option.bind_some _ _).symm.trans H; rw [hy117]; with_reducible exact H2_) | (have H2_ := (Option.bind_some _ _).symm.trans H; with_reducible exact H2_) | with_reducible exact H | (rw [hy117]; exact H) | exact H
        have Ny117 := Aside0.mk hy117
        clear hy117
        by_cases c7 : y117.length < 17592186044416
        · rw [if_pos c7] at H
          have LMc7 := Aside0.mk c7
          clear c7
          obtain ⟨y120, hy120⟩ : ∃ y_ : List Int, y_ = (y117 ++ [a2]) := ⟨_, rfl⟩
          replace H : (if y120.length + (l0.drop (a1 : Int).toNat).length < 17592186044416 then (some (y120 ++ (l0.drop (a1 : Int).toNat))) else (none)) = some r := by first | (rw [hy120]; with_reducible exact H) | (have H2_ := (Option.bind_some _ _).symm.trans H; rw [hy120]; with_reducible exact H2_) | (have H2_ := (Option.bind_some _ _).symm.trans H; with_reducible exact H2_) | with_reducible exact H | (rw [hy120]; exact H) | exact H
          have Ny120 := Aside0.mk hy120
          clear hy120
          have c8b0 := eq_true (of_decide_eq_true (by first | (with_reducible assumption) | assumption) : 0 ≤ a1)
          have c9b0 := eq_true (of_decide_eq_true (by first | (with_reducible assumption) | assumption) : a1 ≤ (l0.length : Int))
          by_cases c10 : y120.length + (l0.drop (a1 : Int).toNat).length < 17592186044416
          · rw [if_pos c10] at H
            have LMc10 := Aside0.mk c10
            clear c10
            obtain ⟨y124, hy124⟩ : ∃ y_ : List Int, y_ = (y120 ++ (l0.drop (a1 : Int).toNat)) := ⟨_, rfl⟩
            replace H : (some y124) = some r := by first | (rw [hy124]; with_reducible exact H) | (have H2_ := (Option.bind_some _ _).symm.trans H; rw [hy124]; with_reducible exact H2_) | (have H2_ := (Option.bind_some _ _).symm.trans H; with_reducible exact H2_) | with_reducible exact H | (rw [hy124]; exact H) | exact H
            have Ny124 := Aside0.mk hy124
            clear hy124
            obtain rfl := Option.some.inj H
            go_enter Try.func90, Try.ntmps90
            go_wp2_with (first | ((with_reducible refine gate_dst (N := 8) rfl ?_); refine Kd.R_lit (Kd.int .i64) _ 3 ?hg (N := 8) ?hd (xs := ([] : List Int)) (inner := []) (ok := fun _ => True) (okp := fun _ => True) ?hr ?hp (fun _ hk => hk) trivial (Below.refl _ _) (Nat.le_refl _) (by simp) ?_; (case hd => rfl); (case hg => rfl); (case hr => first | (go_simp; done) | (go_simp; rfl)); (case hp => exact (Reps.none _ _)); intro v114 w11 ho12 hb hg_ hnew_; clear hg_ hnew_; (first | rw [← Ny113.out] at ho12 | (simp only [Int.reduceToNat] at ho12; rw [← Ny113.out] at ho12)); have n0_ := Aside0.mk (Kd.R_lower ho12 (below_size (by repeat (first | (with_reducible first | exact HB.out | apply below_alloc | apply pw_below_drewN | apply below_drew1) | exact HB.out)))); have n1_ := Aside0.mk (below_step (by repeat (first | (with_reducible first | exact HB.out | apply below_alloc | apply pw_below_drewN | apply below_drew1) | exact HB.out)) hb); clear HB; have HO115 := n0_; have HB := n1_; clear n0_ n1_; clear hb ho12; obtain ⟨i013, hi013, _, hsz13, _⟩ := info_parts info3; obtain ⟨hcut13, hA13, hC13⟩ := print_take_of (P := Try.prog) (Value.int .i64) 0 24 3 .i64 Try.underlying24 hi013 hsz13 A0 c0 l0 a1 (of_decide_eq_true (by first | (with_reducible assumption) | assumption)) (of_decide_eq_true (by first | (with_reducible assumption) | assumption)) HC0.out; have HR116 := Aside0.mk (Kd.C_of_reads (h1 := fun _ => rfl) (hA13 _ (Kd.reads_of_C HR0.out))); have HC116 := Aside0.mk hC13; clear hA13 hC13 hi013 hsz13) | ((with_reducible refine gate_builtin (b := .append) (xs := #[.tmp 8, .tmp 11]) rfl ?_); at_builtin; refine Kd.R_append_rows (Kd.int .i64) (w0 := w) w.heap.size rfl (.tmp 8) (.tmp 11) 24 3 (.int .i64 0) 8 rfl Try.underlying24 info3 rfl (by decide) (by omega) v114 y113 (l0.take (a1 : Int).toNat) _ _ _ (fun _ => True) (fun _ => False) rfl rfl ?aO ?aR (fun _ _ h => h) (fun _ h => h.elim) ?aF ?aB ?aS ?aL ?_; (case aR => first | (refine Eq.mp (congrArg (fun n_ => ReadsRow _ _ _ _ n_ _) (show (l0.take (a1 : Int).toNat).length = a1.toNat from (by rw [List.length_take]; have h_ : (a1 : Int) ≤ (l0.length : Int) := of_decide_eq_true (by first | (with_reducible assumption) | assumption); omega))) ?_; repeat (first | exact (Kd.C_below HR116.out HB.out) | (with_reducible refine Kd.C_alloc ?_ _) | (with_reducible refine Kd.C_drewN ?_ _) | (with_reducible refine Kd.C_drew ?_))) | (repeat (first | exact (Kd.C_below HR116.out HB.out) | (with_reducible refine Kd.C_alloc ?_ _) | (with_reducible refine Kd.C_drewN ?_ _) | (with_reducible refine Kd.C_drew ?_)))); (case aB => exact (by repeat (first | (with_reducible first | exact HB.out | apply below_alloc | apply pw_below_drewN | apply below_drew1) | exact HB.out))); (case aF => exact (fun _ _ => trivial)); (case aO => exact (by (with_reducible repeat (first | apply Kd.R_alloc | apply Kd.R_drewN | apply Kd.R_drew)); exact HO115.out)); (case aS => exact (below_size (by repeat (first | (with_reducible first | exact HB.out | apply below_alloc | apply pw_below_drewN | apply below_drew1) | exact HB.out)))); (case aL => have := LMc6.out; have hlx_ := (show (l0.take (a1 : Int).toNat).length = a1.toNat from (by rw [List.length_take]; have h_ : (a1 : Int) ≤ (l0.length : Int) := of_decide_eq_true (by first | (with_reducible assumption) | assumption); omega)); omega); intro v118 w14 ho hb hg hat; rw [← Ny117.out] at ho; have n0_ := Aside0.mk (hb); have n1_ := Aside0.mk (ho); clear HB; clear HO115; have HB := n0_; have HO119 := n1_; clear n0_ n1_; clear ho hb hg hat) | ((with_reducible refine gate_builtin (b := .append) (xs := #[.tmp 13, .tmp 15]) rfl ?_); at_builtin; refine Kd.R_append (Kd.int .i64) (w0 := w) w.heap.size rfl (.tmp 13) (.tmp 15) 24 3 (.int .i64 0) 8 rfl Try.underlying24 info3 rfl (by decide) (by omega) v118 y117 a2 [.int .i64 a2] (fun _ => True) (fun _ => False) rfl rfl ?aP (fun _ hk => hk.elim) ?aF ?aO ?aB ?aS ?aL ?_; (case aP => exact rfl); (case aB => exact (by repeat (first | (with_reducible first | exact HB.out | apply below_alloc | apply pw_below_drewN | apply below_drew1) | exact HB.out))); (case aF => exact (fun _ _ => trivial)); (case aO => exact (by (with_reducible repeat (first | apply Kd.R_alloc | apply Kd.R_drewN | apply Kd.R_drew)); exact HO119.out)); (case aS => exact (below_size (by repeat (first | (with_reducible first | exact HB.out | apply below_alloc | apply pw_below_drewN | apply below_drew1) | exact HB.out)))); (case aL => have := LMc7.out; omega); intro v121 w15 ho hb hg hat; rw [← Ny120.out] at ho; have n0_ := Aside0.mk (hb); have n1_ := Aside0.mk (ho); clear HB; clear HO119; have HB := n0_; have HO122 := n1_; clear n0_ n1_; clear ho hb hg hat; obtain ⟨i016, hi016, _, hsz16, _⟩ := info_parts info3; obtain ⟨A16, hcut16, hA16, hC16⟩ := print_drop_of (P := Try.prog) (Value.int .i64) 0 24 3 .i64 Try.underlying24 hi016 hsz16 A0 c0 l0 a1 (of_decide_eq_true (by first | (with_reducible assumption) | assumption)) (of_decide_eq_true (by first | (with_reducible assumption) | assumption)) HC0.out; have HR123 := Aside0.mk (Kd.C_of_reads (h1 := fun _ => rfl) (hA16 _ (Kd.reads_of_C HR0.out))); have HC123 := Aside0.mk hC16; clear hA16 hC16 hi016 hsz16) | ((with_reducible refine gate_builtin (b := .append) (xs := #[.tmp 17, .tmp 20]) rfl ?_); at_builtin; refine Kd.R_append_rows (Kd.int .i64) (w0 := w) w.heap.size rfl (.tmp 17) (.tmp 20) 24 3 (.int .i64 0) 8 rfl Try.underlying24 info3 rfl (by decide) (by omega) v121 y120 (l0.drop (a1 : Int).toNat) _ _ _ (fun _ => True) (fun _ => False) rfl rfl ?aO ?aR (fun _ _ h => h) (fun _ h => h.elim) ?aF ?aB ?aS ?aL ?_; (case aR => first | (rw [← show (l0.drop (a1 : Int).toNat).length = (l0.length - a1.toNat) from List.length_drop]; repeat (first | exact (Kd.C_below HR123.out HB.out) | (with_reducible refine Kd.C_alloc ?_ _) | (with_reducible refine Kd.C_drewN ?_ _) | (with_reducible refine Kd.C_drew ?_))) | (repeat (first | exact (Kd.C_below HR123.out HB.out) | (with_reducible refine Kd.C_alloc ?_ _) | (with_reducible refine Kd.C_drewN ?_ _) | (with_reducible refine Kd.C_drew ?_)))); (case aB => exact (by repeat (first | (with_reducible first | exact HB.out | apply below_alloc | apply pw_below_drewN | apply below_drew1) | exact HB.out))); (case aF => exact (fun _ _ => trivial)); (case aO => exact (by (with_reducible repeat (first | apply Kd.R_alloc | apply Kd.R_drewN | apply Kd.R_drew)); exact HO122.out)); (case aS => exact (below_size (by repeat (first | (with_reducible first | exact HB.out | apply below_alloc | apply pw_below_drewN | apply below_drew1) | exact HB.out)))); (case aL => have := LMc10.out; have hlx_ := (show (l0.drop (a1 : Int).toNat).length = (l0.length - a1.toNat) from List.length_drop); omega); intro v125 w17 ho hb hg hat; rw [← Ny124.out] at ho; have n0_ := Aside0.mk (hb); have n1_ := Aside0.mk (ho); clear HB; clear HO122; have HB := n0_; have HO126 := n1_; clear n0_ n1_; clear ho hb hg hat))
            go_ret
            exact ⟨_, by first | rfl | (simp [errW_none, errW_some] <;> rfl) | (simp [*, errW_none, errW_some] <;> rfl), by (with_reducible repeat (first | apply Kd.R_alloc | apply Kd.R_drewN | apply Kd.R_drew)); exact HO126.out, by repeat (first | (with_reducible first | exact HB.out | apply below_alloc | apply pw_below_drewN | apply below_drew1) | exact HB.out)⟩
          · rw [if_neg c10] at H
            exact absurd H (by simp)
        · rw [if_neg c7] at H
          exact absurd H (by simp)
      · rw [if_neg c6] at H
        exact absurd H (by simp)
    · rw [if_neg c5] at H
      exact absurd H (by simp)
  · rw [if_neg c4] at H
    exact absurd H (by simp)

/-! ### spec_cut: function 91 -/
def spec_cut.f (l0 : List Int) (a1 : Int) : Option (List Int) := (some (([] : List Int) : List Int)).bind fun y127 => (if 0 ≤ a1 then (if a1 ≤ (l0.length : Int) then (if y127.length + (l0.take (a1 : Int).toNat).length < 17592186044416 then ((some (y127 ++ (l0.take (a1 : Int).toNat) : List Int)).bind fun y131 => (if 0 ≤ (wrap64 (a1 + 1)) then (if (wrap64 (a1 + 1)) ≤ (l0.length : Int) then (if y131.length + (l0.drop ((wrap64 (a1 + 1)) : Int).toNat).length < 17592186044416 then (some (y131 ++ (l0.drop ((wrap64 (a1 + 1)) : Int).toNat))) else (none)) else (none)) else (none))) else (none)) else (none)) else (none))
set_option maxHeartbeats 8000000 in
set_option maxRecDepth 100000 in
theorem spec_cut.calls (A0 : Option Addr) (c0 : Nat) (l0 : List Int) (a1 : Int) (r : List Int) (w : World) (hr0 : Kd.C (Kd.int .i64) w A0 l0.length l0) (hc0 : l0.length ≤ c0) (h : spec_cut.f l0 a1 = some r) :
    Calls Try.prog 91 #[.slice A0 l0.length c0, .int .i64 a1] w fun e w' => ∃ v0_ : Value, e = .returned (v0_) ∧ Kd.R (Kd.int .i64) 3 w' w.heap.size (fun _ => True) v0_ r ∧ Below w.heap.size w w' := by
  have HR0 := Aside0.mk hr0
  have HC0 := Aside0.mk hc0
  clear hr0 hc0
  have HB := Aside0.mk (Below.refl w.heap.size w)
  have H : ((some (([] : List Int) : List Int)).bind fun y127 => (if 0 ≤ a1 then (if a1 ≤ (l0.length : Int) then (if y127.length + (l0.take (a1 : Int).toNat).length < 17592186044416 then ((some (y127 ++ (l0.take (a1 : Int).toNat) : List Int)).bind fun y131 => (if 0 ≤ (wrap64 (a1 + 1)) then (if (wrap64 (a1 + 1)) ≤ (l0.length : Int) then (if y131.length + (l0.drop ((wrap64 (a1 + 1)) : Int).toNat).length < 17592186044416 then (some (y131 ++ (l0.drop ((wrap64 (a1 + 1)) : Int).toNat))) else (none)) else (none)) else (none))) else (none)) else (none)) else (none))) = some r := h
  clear h
  obtain ⟨y127, hy127⟩ : ∃ y_ : List Int, y_ = (([] : List Int)) := ⟨_, rfl⟩
  replace H : (if 0 ≤ a1 then (if a1 ≤ (l0.length : Int) then (if y127.length + (l0.take (a1 : Int).toNat).length < 17592186044416 then ((some (y127 ++ (l0.take (a1 : Int).toNat) : List Int)).bind fun y131 => (if 0 ≤ (wrap64 (a1 + 1)) then (if (wrap64 (a1 + 1)) ≤ (l0.length : Int) then (if y131.length + (l0.drop ((wrap64 (a1 + 1)) : Int).toNat).length < 17592186044416 then (some (y131 ++ (l0.drop ((wrap64 (a1 + 1)) : Int).toNat))) else (none)) else (none)) else (none))) else (none)) else (none)) else (none)) = some r := by first | (rw [hy127]; with_reducible exact H) | (have H2_ := (Option.bind_some _ _).symm.trans H; rw [hy127]; with_reducible exact H2_) | (have H2_ := (Option.bind_some _ _).symm.trans H; with_reducible exact H2_) | with_reducible exact H | (rw [hy127]; exact H) | exact H
  have Ny127 := Aside0.mk hy127
  clear hy127
  by_cases c3 : 0 ≤ a1
  · rw [if_pos c3] at H
    have c3b0 := eq_true c3
    have c3b1 : decide (0 ≤ a1) = true := decide_eq_true c3
    clear c3
    by_cases c4 : a1 ≤ (l0.length : Int)
    · rw [if_pos c4] at H
      have c4b0 := eq_true c4
      have c4b1 : decide (a1 ≤ (l0.length : Int)) = true := decide_eq_true c4
      clear c4
      by_cases c5 : y127.length + (l0.take (a1 : Int).toNat).length < 17592186044416
      · rw [if_pos c5] at H
        have LMc5 := Aside0.mk c5
        clear c5
        obtain ⟨y131, hy131⟩ : ∃ y_ : List Int, y_ = (y127 ++ (l0.take (a1 : Int).toNat)) := ⟨_, rfl⟩
        replace H : (if 0 ≤ (wrap64 (a1 + 1)) then (if (wrap64 (a1 + 1)) ≤ (l0.length : Int) then (if y131.length + (l0.drop ((wrap64 (a1 + 1)) : Int).toNat).length < 17592186044416 then (some (y131 ++ (l0.drop ((wrap64 (a1 + 1)) : Int).toNat))) else (none)) else (none)) else (none)) = some r := by first | (rw [hy131]; with_reducible exact H) | (have H2_ := (Option.bind_some _ _).symm.trans H; rw [hy131]; with_reducible exact H2_) | (have H2_ := (Option.bind_some _ _).symm.trans H; with_reducible exact H2_) | with_reducible exact H | (rw [hy131]; exact H) | exact H
        have Ny131 := Aside0.mk hy131
        clear hy131
        obtain ⟨ji6, hji6⟩ : ∃ j_ : Int, (wrap64 (a1 + 1)) = j_ := ⟨_, rfl⟩
        replace H : (if 0 ≤ (ji6) then (if (ji6) ≤ (l0.length : Int) then (if y131.length + (l0.drop ((ji6) : Int).toNat).length < 17592186044416 then (some (y131 ++ (l0.drop ((ji6) : Int).toNat))) else (none)) else (none)) else (none)) = some r := by first | (rw [hji6] at H; exact H) | (simp only [hji6] at H ⊢; exact H)
        have hji6w : (IntKind.i64.wrap (a1 + 1)) = ji6 := (i64_w _).trans hji6
        by_cases c7 : 0 ≤ (ji6)
        · rw [if_pos c7] at H
          have c7b0 := eq_true c7
          have c7b1 : decide (0 ≤ (ji6)) = true := decide_eq_true c7
          clear c7
          by_cases c8 : (ji6) ≤ (l0.length : Int)
          · rw [if_pos c8] at H
            have c8b0 := eq_true c8
            have c8b1 : decide ((ji6) ≤ (l0.length : Int)) = true := decide_eq_true c8
            clear c8
            by_cases c9 : y131.length + (l0.drop ((ji6) : Int).toNat).length < 17592186044416
            · rw [if_pos c9] at H
              have LMc9 := Aside0.mk c9
              clear c9
              obtain ⟨y135, hy135⟩ : ∃ y_ : List Int, y_ = (y131 ++ (l0.drop ((ji6) : Int).toNat)) := ⟨_, rfl⟩
              replace H : (some y135) = some r := by first | (rw [hy135]; with_reducible exact H) | (have H2_ := (Option.bind_some _ _).symm.trans H; rw [hy135]; with_reducible exact H2_) | (have H2_ := (Option.bind_some _ _).symm.trans H; with_reducible exact H2_) | with_reducible exact H | (rw [hy135]; exact H) | exact H
              have Ny135 := Aside0.mk hy135
              clear hy135
              obtain rfl := Option.some.inj H
              go_enter Try.func91, Try.ntmps91
              go_wp2_with (first | ((with_reducible refine gate_dst (N := 6) rfl ?_); refine Kd.R_lit (Kd.int .i64) _ 3 ?hg (N := 6) ?hd (xs := ([] : List Int)) (inner := []) (ok := fun _ => True) (okp := fun _ => True) ?hr ?hp (fun _ hk => hk) trivial (Below.refl _ _) (Nat.le_refl _) (by simp) ?_; (case hd => rfl); (case hg => rfl); (case hr => first | (go_simp; done) | (go_simp; rfl)); (case hp => exact (Reps.none _ _)); intro v128 w10 ho11 hb hg_ hnew_; clear hg_ hnew_; (first | rw [← Ny127.out] at ho11 | (simp only [Int.reduceToNat] at ho11; rw [← Ny127.out] at ho11)); have n0_ := Aside0.mk (Kd.R_lower ho11 (below_size (by repeat (first | (with_reducible first | exact HB.out | apply below_alloc | apply pw_below_drewN | apply below_drew1) | exact HB.out)))); have n1_ := Aside0.mk (below_step (by repeat (first | (with_reducible first | exact HB.out | apply below_alloc | apply pw_below_drewN | apply below_drew1) | exact HB.out)) hb); clear HB; have HO129 := n0_; have HB := n1_; clear n0_ n1_; clear hb ho11; obtain ⟨i012, hi012, _, hsz12, _⟩ := info_parts info3; obtain ⟨hcut12, hA12, hC12⟩ := print_take_of (P := Try.prog) (Value.int .i64) 0 24 3 .i64 Try.underlying24 hi012 hsz12 A0 c0 l0 a1 (of_decide_eq_true (by first | (with_reducible assumption) | assumption)) (of_decide_eq_true (by first | (with_reducible assumption) | assumption)) HC0.out; have HR130 := Aside0.mk (Kd.C_of_reads (h1 := fun _ => rfl) (hA12 _ (Kd.reads_of_C HR0.out))); have HC130 := Aside0.mk hC12; clear hA12 hC12 hi012 hsz12) | ((with_reducible refine gate_builtin (b := .append) (xs := #[.tmp 6, .tmp 9]) rfl ?_); at_builtin; refine Kd.R_append_rows (Kd.int .i64) (w0 := w) w.heap.size rfl (.tmp 6) (.tmp 9) 24 3 (.int .i64 0) 8 rfl Try.underlying24 info3 rfl (by decide) (by omega) v128 y127 (l0.take (a1 : Int).toNat) _ _ _ (fun _ => True) (fun _ => False) rfl rfl ?aO ?aR (fun _ _ h => h) (fun _ h => h.elim) ?aF ?aB ?aS ?aL ?_; (case aR => first | (refine Eq.mp (congrArg (fun n_ => ReadsRow _ _ _ _ n_ _) (show (l0.take (a1 : Int).toNat).length = a1.toNat from (by rw [List.length_take]; have h_ : (a1 : Int) ≤ (l0.length : Int) := of_decide_eq_true (by first | (with_reducible assumption) | assumption); omega))) ?_; repeat (first | exact (Kd.C_below HR130.out HB.out) | (with_reducible refine Kd.C_alloc ?_ _) | (with_reducible refine Kd.C_drewN ?_ _) | (with_reducible refine Kd.C_drew ?_))) | (repeat (first | exact (Kd.C_below HR130.out HB.out) | (with_reducible refine Kd.C_alloc ?_ _) | (with_reducible refine Kd.C_drewN ?_ _) | (with_reducible refine Kd.C_drew ?_)))); (case aB => exact (by repeat (first | (with_reducible first | exact HB.out | apply below_alloc | apply pw_below_drewN | apply below_drew1) | exact HB.out))); (case aF => exact (fun _ _ => trivial)); (case aO => exact (by (with_reducible repeat (first | apply Kd.R_alloc | apply Kd.R_drewN | apply Kd.R_drew)); exact HO129.out)); (case aS => exact (below_size (by repeat (first | (with_reducible first | exact HB.out | apply below_alloc | apply pw_below_drewN | apply below_drew1) | exact HB.out)))); (case aL => have := LMc5.out; have hlx_ := (show (l0.take (a1 : Int).toNat).length = a1.toNat from (by rw [List.length_take]; have h_ : (a1 : Int) ≤ (l0.length : Int) := of_decide_eq_true (by first | (with_reducible assumption) | assumption); omega)); omega); intro v132 w13 ho hb hg hat; rw [← Ny131.out] at ho; have n0_ := Aside0.mk (hb); have n1_ := Aside0.mk (ho); clear HB; clear HO129; have HB := n0_; have HO133 := n1_; clear n0_ n1_; clear ho hb hg hat; obtain ⟨i014, hi014, _, hsz14, _⟩ := info_parts info3; obtain ⟨A14, hcut14, hA14, hC14⟩ := print_drop_of (P := Try.prog) (Value.int .i64) 0 24 3 .i64 Try.underlying24 hi014 hsz14 A0 c0 l0 (ji6) (of_decide_eq_true (by first | (with_reducible assumption) | assumption)) (of_decide_eq_true (by first | (with_reducible assumption) | assumption)) HC0.out; have HR134 := Aside0.mk (Kd.C_of_reads (h1 := fun _ => rfl) (hA14 _ (Kd.reads_of_C HR0.out))); have HC134 := Aside0.mk hC14; clear hA14 hC14 hi014 hsz14) | ((with_reducible refine gate_builtin (b := .append) (xs := #[.tmp 11, .tmp 15]) rfl ?_); at_builtin; refine Kd.R_append_rows (Kd.int .i64) (w0 := w) w.heap.size rfl (.tmp 11) (.tmp 15) 24 3 (.int .i64 0) 8 rfl Try.underlying24 info3 rfl (by decide) (by omega) v132 y131 (l0.drop ((ji6) : Int).toNat) _ _ _ (fun _ => True) (fun _ => False) rfl rfl ?aO ?aR (fun _ _ h => h) (fun _ h => h.elim) ?aF ?aB ?aS ?aL ?_; (case aR => first | (rw [← show (l0.drop ((ji6) : Int).toNat).length = (l0.length - (ji6).toNat) from List.length_drop]; repeat (first | exact (Kd.C_below HR134.out HB.out) | (with_reducible refine Kd.C_alloc ?_ _) | (with_reducible refine Kd.C_drewN ?_ _) | (with_reducible refine Kd.C_drew ?_))) | (repeat (first | exact (Kd.C_below HR134.out HB.out) | (with_reducible refine Kd.C_alloc ?_ _) | (with_reducible refine Kd.C_drewN ?_ _) | (with_reducible refine Kd.C_drew ?_)))); (case aB => exact (by repeat (first | (with_reducible first | exact HB.out | apply below_alloc | apply pw_below_drewN | apply below_drew1) | exact HB.out))); (case aF => exact (fun _ _ => trivial)); (case aO => exact (by (with_reducible repeat (first | apply Kd.R_alloc | apply Kd.R_drewN | apply Kd.R_drew)); exact HO133.out)); (case aS => exact (below_size (by repeat (first | (with_reducible first | exact HB.out | apply below_alloc | apply pw_below_drewN | apply below_drew1) | exact HB.out)))); (case aL => have := LMc9.out; have hlx_ := (show (l0.drop ((ji6) : Int).toNat).length = (l0.length - (ji6).toNat) from List.length_drop); omega); intro v136 w15 ho hb hg hat; rw [← Ny135.out] at ho; have n0_ := Aside0.mk (hb); have n1_ := Aside0.mk (ho); clear HB; clear HO133; have HB := n0_; have HO137 := n1_; clear n0_ n1_; clear ho hb hg hat))
              go_ret
              exact ⟨_, by first | rfl | (simp [errW_none, errW_some] <;> rfl) | (simp only [← hji6]; first | rfl | (simp [errW_none, errW_some] <;> rfl)) | (simp [*, errW_none, errW_some] <;> rfl), by (with_reducible repeat (first | apply Kd.R_alloc | apply Kd.R_drewN | apply Kd.R_drew)); exact HO137.out, by repeat (first | (with_reducible first | exact HB.out | apply below_alloc | apply pw_below_drewN | apply below_drew1) | exact HB.out)⟩
            · rw [if_neg c9] at H
              exact absurd H (by simp)
          · rw [if_neg c8] at H
            exact absurd H (by simp)
        · rw [if_neg c7] at H
          exact absurd H (by simp)
      · rw [if_neg c5] at H
        exact absurd H (by simp)
    · rw [if_neg c4] at H
      exact absurd H (by simp)
  · rw [if_neg c3] at H
    exact absurd H (by simp)

/-! ### spec_Tree_Put: function 69 -/
def spec_Tree_Put.f (k : Nat) (l0_0 : List Int) (l0_1 : List Int) (l1 : List Int) (a2 : Int) (a3 : Int) : Option (List Int × List Int) := (spec_Tree_find.f k l0_0 l0_1 l1 a2).bind fun bt140 => (if bt140.2 = true then ((spec_cut.f l0_1 bt140.1).bind fun t142 => ((spec_put.f t142 bt140.1 a3).bind fun t145 => (some (l0_0, t145)))) else ((spec_put.f l0_0 bt140.1 a2).bind fun t148 => ((spec_put.f l0_1 bt140.1 a3).bind fun t151 => (some (t148, t151)))))
theorem spec_Tree_Put.mono : ∀ a0 a1 a2 a3 a4 k, LeO (spec_Tree_Put.f k a0 a1 a2 a3 a4) (spec_Tree_Put.f (k + 1) a0 a1 a2 a3 a4) := by
  intro a0 a1 a2 a3 a4 k
  unfold spec_Tree_Put.f
  repeat' first
      | (with_reducible exact spec_Tree_find.mono _ _ _ _ _)
      | (with_reducible exact LeO.refl _)
      | (with_reducible exact LeO.none _)
      | (with_reducible refine LeO.ite ?_ ?_)
      | (with_reducible refine LeO.bind ?_ (fun _ => ?_))
      | exact spec_Tree_find.mono _ _ _ _ _
      | exact LeO.none _
      | refine LeO.ite ?_ ?_
      | refine LeO.bind ?_ (fun _ => ?_)
def spec_Tree_Put.T3 : Bool × List (List Nat × List Nat) := (true, [([], []), ([0], [0]), ([], []), ([2], [2]), ([], []), ([3, 4], [3, 4]), ([], []), ([], []), ([5, 6, 7, 5], [5, 6, 7]), ([1, 8], [1, 8]), ([9, 8, 0, 1, 2, 3, 4, 5, 6, 7, 8, 9], [9])])
def spec_Tree_Put.B3 : List Nat := [0, 1, 0, 4, 0, 28, 0, 0, 252, 511, 1023]
theorem spec_Tree_Put.tab3 : rtab .any (opsOf Try.f69 3) = spec_Tree_Put.T3 := by kernel_rfl
theorem spec_Tree_Put.bits3 : waitsOk spec_Tree_Put.T3.2 spec_Tree_Put.B3 = true := by kernel_rfl
def spec_Tree_Put.T4 : Bool × List (List Nat × List Nat) := (true, [([], []), ([0], [0]), ([], []), ([], []), ([1, 2, 3], [1, 2, 3]), ([], []), ([5], [5]), ([], []), ([], []), ([6, 7, 8, 4], [6, 7, 8]), ([4, 9], [4, 9]), ([10, 9, 0, 1, 2, 3, 4, 5, 6, 7, 8, 9, 10], [10])])
def spec_Tree_Put.B4 : List Nat := [0, 1, 0, 0, 15, 0, 32, 0, 0, 511, 1023, 2047]
theorem spec_Tree_Put.tab4 : rtab .any (opsOf Try.f69 4) = spec_Tree_Put.T4 := by kernel_rfl
theorem spec_Tree_Put.bits4 : waitsOk spec_Tree_Put.T4.2 spec_Tree_Put.B4 = true := by kernel_rfl
set_option maxHeartbeats 8000000 in
set_option maxRecDepth 100000 in
theorem spec_Tree_Put.calls (k : Nat) (P0_0_ : Nat → Prop) (A0_0 : Option Addr) (c0_0 : Nat) (l0_0 : List Int) (A0_1 : Option Addr) (c0_1 : Nat) (l0_1 : List Int) (A1 : Option Addr) (c1 : Nat) (l1 : List Int) (a2 : Int) (a3 : Int) (r1 : List Int) (r2 : List Int) (w : World) (hs0_0 : Kd.V (Kd.int .i64) 3 w w.heap.size (fun k_ => P0_0_ k_) (.slice A0_0 l0_0.length c0_0) l0_0) (hr0_1 : Kd.C (Kd.int .i64) w A0_1 l0_1.length l0_1) (hc0_1 : l0_1.length ≤ c0_1) (hr1 : Kd.C (Kd.int .i64) w A1 l1.length l1) (hc1 : l1.length ≤ c1) (h : spec_Tree_Put.f k l0_0 l0_1 l1 a2 a3 = some (r1, r2)) :
    Calls Try.prog 69 #[.agg #[.slice A0_0 l0_0.length c0_0, .slice A0_1 l0_1.length c0_1], .slice A1 l1.length c1, .int .i64 a2, .int .i64 a3] w fun e w' => ∃ v0_ v1_ : Value, e = .returned (.agg #[v0_, v1_]) ∧ Kd.V (Kd.int .i64) 3 w' w.heap.size (fun k_ => (P0_0_ k_ ∨ w.heap.size ≤ k_) ∧ some k_ ≠ (v1_ : Value).ownBlock) v0_ r1 ∧ Kd.R (Kd.int .i64) 3 w' w.heap.size (fun k_ => (w.heap.size ≤ k_)) v1_ r2 ∧ Below w.heap.size w w' := by
  have hu26 := Try.underlying26
  have HO0_0 := Aside0.mk (show Kd.V (Kd.int .i64) 3 w w.heap.size (fun k_ => (P0_0_ k_ ∨ w.heap.size ≤ k_)) (.slice A0_0 l0_0.length c0_0) l0_0 from Kd.V_mono hs0_0 (fun k_ hk => .inl hk))
  have HR0_1 := Aside0.mk hr0_1
  have HC0_1 := Aside0.mk hc0_1
  clear hr0_1 hc0_1
  have HR1 := Aside0.mk hr1
  have HC1 := Aside0.mk hc1
  clear hr1 hc1
  have HB := Aside0.mk (Below.refl w.heap.size w)
  have H : ((spec_Tree_find.f k l0_0 l0_1 l1 a2).bind fun bt140 => (if bt140.2 = true then ((spec_cut.f l0_1 bt140.1).bind fun t142 => ((spec_put.f t142 bt140.1 a3).bind fun t145 => (some (l0_0, t145)))) else ((spec_put.f l0_0 bt140.1 a2).bind fun t148 => ((spec_put.f l0_1 bt140.1 a3).bind fun t151 => (some (t148, t151)))))) = some (r1, r2) := h
  clear h
  replace H := Option.bind_eq_some_iff.mp H
  obtain ⟨⟨t140, t141⟩, A50, H⟩ := H
  replace H : (if t141 = true then ((spec_cut.f l0_1 t140).bind fun t142 => ((spec_put.f t142 t140 a3).bind fun t145 => (some (l0_0, t145)))) else ((spec_put.f l0_0 t140 a2).bind fun t148 => ((spec_put.f l0_1 t140 a3).bind fun t151 => (some (t148, t151))))) = some (r1, r2) := H
  have A5 := Aside0.mk A50
  clear A50
  by_cases c6 : t141 = true
  · subst c6
    have H1 : ((spec_cut.f l0_1 t140).bind fun t142 => ((spec_put.f t142 t140 a3).bind fun t145 => (some (l0_0, t145)))) = some (r1, r2) := by rw [if_pos rfl] at H; exact H
    clear H
    have H := H1
    clear H1
    replace H := Option.bind_eq_some_iff.mp H
    obtain ⟨t142, A70, H⟩ := H
    replace H : ((spec_put.f t142 t140 a3).bind fun t145 => (some (l0_0, t145))) = some (r1, r2) := H
    have A7 := Aside0.mk A70
    clear A70
    replace H := Option.bind_eq_some_iff.mp H
    obtain ⟨t145, A80, H⟩ := H
    replace H : (some (l0_0, t145)) = some (r1, r2) := H
    have A8 := Aside0.mk A80
    clear A80
    simp only [Option.some.injEq, Prod.mk.injEq] at H
    obtain ⟨rfl, rfl⟩ := H
    go_enter Try.func69, Try.ntmps69
    try go_wp2_with (first | ((with_reducible refine gate_dst (N := 4) rfl ?_); refine box_event ?hg (N := 4) ?hd (cs := #[.slice A0_0 l0_0.length c0_0, .slice A0_1 l0_1.length c0_1]) (t := 26) ?hr ?_; (case hd => rfl); (case hg => rfl); (case hr => first | (go_simp; done) | (go_simp; rfl)); intro gb138 hg w9 hbox hb; have n0_ := Aside0.mk (Kd.V_below (Kd.V_elderB (by (with_reducible repeat (first | apply Kd.V_alloc | apply Kd.V_drewN | apply Kd.V_drew)); exact HO0_0.out) gb138 (Nat.le_of_eq hg.symm)) hb); have n1_ := Aside0.mk (below_step (by repeat (first | (with_reducible first | exact HB.out | apply below_alloc | apply pw_below_drewN | apply below_drew1) | exact HB.out)) hb); have n2_ := Aside0.mk (hbox); have n3_ := Aside0.mk ((by rw [hg]; exact (below_size (by repeat (first | (with_reducible first | exact HB.out | apply below_alloc | apply pw_below_drewN | apply below_drew1) | exact HB.out))) : w.heap.size ≤ gb138)); have n4_ := Aside0.mk ((by rw [hg]; exact (below_size (by repeat (first | (with_reducible first | exact HB.out | apply below_alloc | apply pw_below_drewN | apply below_drew1) | exact HB.out))) : w.heap.size ≤ gb138)); clear HO0_0; clear HB; have HO0_0 := n0_; have HB := n1_; have BK138 := n2_; have GW138 := n3_; have GE138 := n4_; clear n0_ n1_ n2_ n3_ n4_; clear hb hbox hg) | ((with_reducible refine gate_dst (N := 8) rfl ?_); refine box_event ?hg (N := 8) ?hd (cs := #[.slice none 0 0, .slice none 0 0]) (t := 26) ?hr ?_; (case hd => rfl); (case hg => rfl); (case hr => first | (go_simp; done) | (go_simp; rfl)); intro gb139 hg w10 hbox hb; have n0_ := Aside0.mk (Kd.V_below (Kd.V_elderB (by (with_reducible repeat (first | apply Kd.V_alloc | apply Kd.V_drewN | apply Kd.V_drew)); exact HO0_0.out) gb139 (Nat.le_of_eq hg.symm)) hb); have n1_ := Aside0.mk (blk_below (g := gb138) (o := .cells #[.slice A0_0 l0_0.length c0_0, .slice A0_1 l0_1.length c0_1] 26 (0, 0)) (by (with_reducible repeat (first | refine blk_drewN ?_ _ | refine blk_drew ?_ | refine blk_alloc ?_ _)); exact BK138.out) hb); have n2_ := Aside0.mk (below_step (by repeat (first | (with_reducible first | exact HB.out | apply below_alloc | apply pw_below_drewN | apply below_drew1 | refine below_set ?_ GE138.out) | exact HB.out)) hb); have n3_ := Aside0.mk (hbox); have n4_ := Aside0.mk ((by rw [hg]; exact (below_size (by repeat (first | (with_reducible first | exact HB.out | apply below_alloc | apply pw_below_drewN | apply below_drew1 | refine below_set ?_ GE138.out) | exact HB.out))) : w.heap.size ≤ gb139)); have n5_ := Aside0.mk ((by rw [hg]; exact (below_size (by repeat (first | (with_reducible first | exact HB.out | apply below_alloc | apply pw_below_drewN | apply below_drew1 | refine below_set ?_ GE138.out) | exact HB.out))) : w.heap.size ≤ gb139)); have n6_ := Aside0.mk ((by rw [hg]; exact Nat.ne_of_lt (blk_lt (g := gb138) (o := .cells #[.slice A0_0 l0_0.length c0_0, .slice A0_1 l0_1.length c0_1] 26 (0, 0)) (by (with_reducible repeat (first | refine blk_drewN ?_ _ | refine blk_drew ?_ | refine blk_alloc ?_ _)); exact BK138.out)) : gb138 ≠ gb139)); have n7_ := Aside0.mk ((by rw [hg]; exact Nat.ne_of_gt (blk_lt (g := gb138) (o := .cells #[.slice A0_0 l0_0.length c0_0, .slice A0_1 l0_1.length c0_1] 26 (0, 0)) (by (with_reducible repeat (first | refine blk_drewN ?_ _ | refine blk_drew ?_ | refine blk_alloc ?_ _)); exact BK138.out)) : gb139 ≠ gb138)); clear HO0_0; clear BK138; clear HB; have HO0_0 := n0_; have BK138 := n1_; have HB := n2_; have BK139 := n3_; have GW139 := n4_; have GE139 := n5_; have NB138_139 := n6_; have NB139_138 := n7_; clear n0_ n1_ n2_ n3_ n4_ n5_ n6_ n7_; clear hb hbox hg; have hnb11 := NB138_139.out; have hnc11 := NB139_138.out; have hcz12_0 : w10.cell? ⟨gb138, 0, none⟩ = some (.slice A0_0 l0_0.length c0_0) := (blk_cell BK138.out 0).trans rfl; have hcz12_1 : w10.cell? ⟨gb138, 1, none⟩ = some (.slice A0_1 l0_1.length c0_1) := (blk_cell BK138.out 1).trans rfl; have hfz12_0 := blk_frozen BK138.out 0; have hfz12_1 := blk_frozen BK138.out 1) | ((with_reducible refine gate_callee (f := 89) rfl ?_); refine goesL_ (some 15) rfl rfl Try.func89 (by kernel_rfl) rfl #[.agg #[.slice A0_0 l0_0.length c0_0, .slice A0_1 l0_1.length c0_1], .slice A1 l1.length c1, .int .i64 a2] rfl (by (try simp only [List.map_toArray, List.map_cons, List.map_nil]); first | done | rfl | (simp only [List.length_drop, List.length_take]; rfl)) ?_; (with_reducible refine (spec_Tree_find.calls k _ _ l0_0 _ _ l0_1 _ _ l1 a2 t140 true _ ?side1 ?side2 ?side3 ?side4 ?side5 ?side6 A5.out).mono ?_); (case side1 => repeat (first | exact (Kd.V_reads' HO0_0.out).2.2 | (with_reducible refine Kd.C_alloc ?_ _) | (with_reducible refine Kd.C_drewN ?_ _) | (with_reducible refine Kd.C_drew ?_))); (case side2 => exact (Kd.V_reads' HO0_0.out).2.1); (case side3 => repeat (first | exact (Kd.C_below HR0_1.out HB.out) | (with_reducible refine Kd.C_alloc ?_ _) | (with_reducible refine Kd.C_drewN ?_ _) | (with_reducible refine Kd.C_drew ?_))); (case side4 => exact HC0_1.out); (case side5 => repeat (first | exact (Kd.C_below HR1.out HB.out) | (with_reducible refine Kd.C_alloc ?_ _) | (with_reducible refine Kd.C_drewN ?_ _) | (with_reducible refine Kd.C_drew ?_))); (case side6 => exact HC1.out); rintro e w13 ⟨rfl, hb⟩; refine ⟨_, rfl, ?_⟩; have n0_ := Aside0.mk (Kd.V_below (by (with_reducible repeat (first | apply Kd.V_alloc | apply Kd.V_drewN | apply Kd.V_drew)); exact HO0_0.out) hb); have n1_ := Aside0.mk (blk_below (g := gb138) (o := .cells #[.slice A0_0 l0_0.length c0_0, .slice A0_1 l0_1.length c0_1] 26 (0, 0)) (by (with_reducible repeat (first | refine blk_drewN ?_ _ | refine blk_drew ?_ | refine blk_alloc ?_ _)); exact BK138.out) hb); have n2_ := Aside0.mk (blk_below (g := gb139) (o := .cells #[.slice none 0 0, .slice none 0 0] 26 (0, 0)) (by (with_reducible repeat (first | refine blk_drewN ?_ _ | refine blk_drew ?_ | refine blk_alloc ?_ _)); exact BK139.out) hb); have n3_ := Aside0.mk (below_step (by repeat (first | (with_reducible first | exact HB.out | apply below_alloc | apply pw_below_drewN | apply below_drew1 | refine below_set ?_ GE138.out | refine below_set ?_ GE139.out) | exact HB.out)) hb); clear HO0_0; clear BK138; clear BK139; clear HB; have HO0_0 := n0_; have BK138 := n1_; have BK139 := n2_; have HB := n3_; clear n0_ n1_ n2_ n3_; (try clear hb); (try clear hb2); (try clear hk); (try clear hi)))
    have n0_ := Aside0.mk (Kd.V_drew HO0_0.out)
    have n1_ := Aside0.mk (blk_drew BK138.out)
    have n2_ := Aside0.mk (blk_drew BK139.out)
    have n3_ := Aside0.mk (below_drew1 HB.out)
    clear HO0_0
    clear BK138
    clear BK139
    clear HB
    have HO0_0 := n0_
    have BK138 := n1_
    have BK139 := n2_
    have HB := n3_
    clear n0_ n1_ n2_ n3_
    refine start_ (n := 11) (S := fun w' => w'.cell? ⟨gb138, 0, none⟩ = some (.slice A0_0 l0_0.length c0_0) ∧ w'.cell? ⟨gb138, 1, none⟩ = some (.slice A0_1 l0_1.length c0_1)) (ds := []) #[false, false, false, false, false, false, false, false, false, false, false] (by kernel_rfl) rfl rfl ⟨(blk_cell BK138.out 0).trans rfl, (blk_cell BK138.out 1).trans rfl⟩ (fun hHeld => ?_); refine with_tabW spec_Tree_Put.tab3 spec_Tree_Put.bits3 (fun HT_ HW_ => ?_)
    generalize w13.drew = w14 at HO0_0 BK138 BK139 HB hHeld ⊢
    refine pure_ (i := 0) (N := some 19) (v := ?_) (a' := ?_) #[true, false, false, false, false, false, false, false, false, false, false] rfl rfl (any_of HT_.out (by kernel_rfl)) (fun _ _ _ h => h) (Or.inl ⟨by rfl, ?_⟩) ?_ ?_
    rotate_left
    · intro w'
      go_simp
      with_reducible rfl
    rotate_left
    · simp only [Act.put, List.setIfInBounds_toArray, List.set_cons_zero, List.set_cons_succ, i64_w, i32_w]
      rfl
    refine pure_ (i := 2) (N := some 21) (v := ?_) (a' := ?_) #[true, false, true, false, false, false, false, false, false, false, false] rfl rfl (any_of HT_.out (by kernel_rfl)) (fun _ _ _ h => h) (Or.inl ⟨by rfl, ?_⟩) ?_ ?_
    rotate_left
    · intro w'
      go_simp
      with_reducible rfl
    rotate_left
    · simp only [Act.put, List.setIfInBounds_toArray, List.set_cons_zero, List.set_cons_succ, i64_w, i32_w]
      rfl
    refine pure_ (i := 4) (N := some 23) (v := ?_) (a' := ?_) #[true, false, true, false, true, false, false, false, false, false, false] rfl rfl (any_of HT_.out (by kernel_rfl)) (fun _ _ _ h => h) (Or.inl ⟨by rfl, ?_⟩) ?_ ?_
    rotate_left
    · intro w'
      go_simp
      with_reducible rfl
    rotate_left
    · simp only [Act.put, List.setIfInBounds_toArray, List.set_cons_zero, List.set_cons_succ, i64_w, i32_w]
      rfl
    refine pure_ (i := 6) (N := some 25) (v := ?_) (a' := ?_) #[true, false, true, false, true, false, true, false, false, false, false] rfl rfl (any_of HT_.out (by kernel_rfl)) (fun _ _ _ h => h) (Or.inl ⟨by rfl, ?_⟩) ?_ ?_
    rotate_left
    · intro w'
      go_simp
      with_reducible rfl
    rotate_left
    · simp only [Act.put, List.setIfInBounds_toArray, List.set_cons_zero, List.set_cons_succ, i64_w, i32_w]
      rfl
    refine pure_ (i := 7) (N := some 26) (v := ?_) (a' := ?_) #[true, false, true, false, true, false, true, true, false, false, false] rfl rfl (any_of HT_.out (by kernel_rfl)) (fun _ _ _ h => h) (Or.inl ⟨by rfl, ?_⟩) ?_ ?_
    rotate_left
    · intro w'
      go_simp
      with_reducible rfl
    rotate_left
    · simp only [Act.put, List.setIfInBounds_toArray, List.set_cons_zero, List.set_cons_succ, i64_w, i32_w]
      rfl
    refine take_ (i := 1) (N := some 20) (v := ?_) (a' := ?_) #[true, true, true, false, true, false, true, true, false, false, false] rfl rfl (take_ofW HT_.out HW_.out (by kernel_rfl)) (fun _ _ _ h => h) (Or.inl ⟨by rfl, ?_⟩) hHeld ?_ ?_
    rotate_left
    · rintro w' ⟨s0, s1⟩
      go_simp
      with_reducible rfl
    rotate_left
    · simp only [Act.put, List.setIfInBounds_toArray, List.set_cons_zero, List.set_cons_succ, i64_w, i32_w]
      rfl
    refine take_ (i := 3) (N := some 22) (v := ?_) (a' := ?_) #[true, true, true, true, true, false, true, true, false, false, false] rfl rfl (take_ofW HT_.out HW_.out (by kernel_rfl)) (fun _ _ _ h => h) (Or.inl ⟨by rfl, ?_⟩) hHeld ?_ ?_
    rotate_left
    · rintro w' ⟨s0, s1⟩
      go_simp
      with_reducible rfl
    rotate_left
    · simp only [Act.put, List.setIfInBounds_toArray, List.set_cons_zero, List.set_cons_succ, i64_w, i32_w]
      rfl
    refine one_ (i := 5) (N := some 24) #[true, true, true, true, true, true, true, true, false, false, false] rfl rfl (one_of HT_.out (by kernel_rfl)) (by decide) (fun K hK => ?_)
    refine goes_ Try.func91 (by kernel_rfl) rfl #[.slice A0_1 l0_1.length c0_1, .int .i64 t140] (by rfl) rfl rfl (by (try simp only [List.map_toArray, List.map_cons, List.map_nil]); first | done | rfl | (simp only [List.length_drop, List.length_take]; rfl)) ?_
    with_reducible refine (spec_cut.calls _ _ l0_1 t140 t142 _ ?side1 ?side2 A7.out).mono ?_
    (case side1 => repeat (first | exact (Kd.C_below HR0_1.out HB.out) | (with_reducible refine Kd.C_alloc ?_ _) | (with_reducible refine Kd.C_drewN ?_ _) | (with_reducible refine Kd.C_drew ?_)))
    (case side2 => exact HC0_1.out)
    rintro e w15 ⟨v143, rfl, ho0, hb⟩
    refine ⟨_, rfl, ?_⟩
    have n0_ := Aside0.mk (Kd.V_elder' (by (with_reducible repeat (first | apply Kd.V_alloc | apply Kd.V_drewN | apply Kd.V_drew)); exact HO0_0.out) (Kd.R_base ho0) hb)
    have n1_ := Aside0.mk (Kd.R_lower (Kd.R_newM (M := fun k_ => (w.heap.size ≤ k_)) ho0 (below_size (by repeat (first | (with_reducible first | exact HB.out | apply below_alloc | apply pw_below_drewN | apply below_drew1 | refine below_set ?_ GE138.out | refine below_set ?_ GE139.out) | exact HB.out))) (fun k_ h_ => h_)) (below_size (by repeat (first | (with_reducible first | exact HB.out | apply below_alloc | apply pw_below_drewN | apply below_drew1 | refine below_set ?_ GE138.out | refine below_set ?_ GE139.out) | exact HB.out))))
    have n2_ := Aside0.mk (blk_below (g := gb138) (o := .cells #[.slice A0_0 l0_0.length c0_0, .slice A0_1 l0_1.length c0_1] 26 (0, 0)) (by (with_reducible repeat (first | refine blk_drewN ?_ _ | refine blk_drew ?_ | refine blk_alloc ?_ _)); exact BK138.out) hb)
    have n3_ := Aside0.mk (blk_below (g := gb139) (o := .cells #[.slice none 0 0, .slice none 0 0] 26 (0, 0)) (by (with_reducible repeat (first | refine blk_drewN ?_ _ | refine blk_drew ?_ | refine blk_alloc ?_ _)); exact BK139.out) hb)
    have n4_ := Aside0.mk (below_step (by repeat (first | (with_reducible first | exact HB.out | apply below_alloc | apply pw_below_drewN | apply below_drew1 | refine below_set ?_ GE138.out | refine below_set ?_ GE139.out) | exact HB.out)) hb)
    clear HO0_0
    clear BK138
    clear BK139
    clear HB
    have HO0_0 := n0_
    have HO144 := n1_
    have BK138 := n2_
    have BK139 := n3_
    have HB := n4_
    clear n0_ n1_ n2_ n3_ n4_
    (try clear hb)
    (try clear hb2)
    (try clear hk)
    (try clear hi)
    (try clear ho0)
    obtain ⟨Ao16, co16, eo16⟩ := Kd.R_slice HO144.out
    (first | subst eo16 | (injection eo16 with f1_ f2_ f3_; have f4_ := f1_.symm; have f5_ := f3_.symm; clear f1_ f2_ f3_; subst f4_; subst f5_))
    refine hK.out _ _ ⟨(blk_cell BK138.out 0).trans rfl, (blk_cell BK138.out 1).trans rfl⟩ (fun hHeld => ?_)
    clear hK K
    refine norm_ (a' := ?_) ?_ ?_
    rotate_left
    · show Act.put _ (some 24) _ = _
      simp only [Act.put, List.setIfInBounds_toArray, List.set_cons_zero, List.set_cons_succ, i64_w, i32_w]
      rfl
    refine one_ (i := 8) (N := some 27) #[true, true, true, true, true, true, true, true, true, false, false] rfl rfl (one_of HT_.out (by kernel_rfl)) (by decide) (fun K hK => ?_)
    refine goes_ Try.func90 (by kernel_rfl) rfl #[.slice Ao16 t142.length co16, .int .i64 t140, .int .i64 a3] (by rfl) rfl rfl (by (try simp only [List.map_toArray, List.map_cons, List.map_nil]); first | done | rfl | (simp only [List.length_drop, List.length_take]; rfl)) ?_
    with_reducible refine (spec_put.calls _ _ t142 t140 a3 t145 _ ?side1 ?side2 A8.out).mono ?_
    (case side1 => repeat (first | exact (Kd.R_reads' HO144.out).2.2 | (with_reducible refine Kd.C_alloc ?_ _) | (with_reducible refine Kd.C_drewN ?_ _) | (with_reducible refine Kd.C_drew ?_)))
    (case side2 => exact (Kd.R_reads' HO144.out).2.1)
    rintro e w17 ⟨v146, rfl, ho0, hb⟩
    refine ⟨_, rfl, ?_⟩
    have n0_ := Aside0.mk (Kd.V_elder' (by (with_reducible repeat (first | apply Kd.V_alloc | apply Kd.V_drewN | apply Kd.V_drew)); exact HO0_0.out) (Kd.R_base ho0) hb)
    have n1_ := Aside0.mk (Kd.R_elder' (by (with_reducible repeat (first | apply Kd.R_alloc | apply Kd.R_drewN | apply Kd.R_drew)); exact HO144.out) (Kd.R_base ho0) hb)
    have n2_ := Aside0.mk (Kd.R_lower (Kd.R_new' (Kd.R_newM (M := fun k_ => (w.heap.size ≤ k_)) ho0 (below_size (by repeat (first | (with_reducible first | exact HB.out | apply below_alloc | apply pw_below_drewN | apply below_drew1 | refine below_set ?_ GE138.out | refine below_set ?_ GE139.out) | exact HB.out))) (fun k_ h_ => h_)) (Kd.R_lt (by (with_reducible repeat (first | apply Kd.R_alloc | apply Kd.R_drewN | apply Kd.R_drew)); exact HO144.out))) (below_size (by repeat (first | (with_reducible first | exact HB.out | apply below_alloc | apply pw_below_drewN | apply below_drew1 | refine below_set ?_ GE138.out | refine below_set ?_ GE139.out) | exact HB.out))))
    have n3_ := Aside0.mk (blk_below (g := gb138) (o := .cells #[.slice A0_0 l0_0.length c0_0, .slice A0_1 l0_1.length c0_1] 26 (0, 0)) (by (with_reducible repeat (first | refine blk_drewN ?_ _ | refine blk_drew ?_ | refine blk_alloc ?_ _)); exact BK138.out) hb)
    have n4_ := Aside0.mk (blk_below (g := gb139) (o := .cells #[.slice none 0 0, .slice none 0 0] 26 (0, 0)) (by (with_reducible repeat (first | refine blk_drewN ?_ _ | refine blk_drew ?_ | refine blk_alloc ?_ _)); exact BK139.out) hb)
    have n5_ := Aside0.mk (below_step (by repeat (first | (with_reducible first | exact HB.out | apply below_alloc | apply pw_below_drewN | apply below_drew1 | refine below_set ?_ GE138.out | refine below_set ?_ GE139.out) | exact HB.out)) hb)
    clear HO0_0
    clear HO144
    clear BK138
    clear BK139
    clear HB
    have HO0_0 := n0_
    have HO144 := n1_
    have HO147 := n2_
    have BK138 := n3_
    have BK139 := n4_
    have HB := n5_
    clear n0_ n1_ n2_ n3_ n4_ n5_
    (try clear hb)
    (try clear hb2)
    (try clear hk)
    (try clear hi)
    (try clear ho0)
    obtain ⟨Ao18, co18, eo18⟩ := Kd.R_slice HO147.out
    (first | subst eo18 | (injection eo18 with f1_ f2_ f3_; have f4_ := f1_.symm; have f5_ := f3_.symm; clear f1_ f2_ f3_; subst f4_; subst f5_))
    refine hK.out _ _ ⟨(blk_cell BK138.out 0).trans rfl, (blk_cell BK138.out 1).trans rfl⟩ (fun hHeld => ?_)
    clear hK K
    refine norm_ (a' := ?_) ?_ ?_
    rotate_left
    · show Act.put _ (some 27) _ = _
      simp only [Act.put, List.setIfInBounds_toArray, List.set_cons_zero, List.set_cons_succ, i64_w, i32_w]
      rfl
    refine pure_ (i := 9) (N := some 28) (v := ?_) (a' := ?_) #[true, true, true, true, true, true, true, true, true, true, false] rfl rfl (any_of HT_.out (by kernel_rfl)) (fun _ _ _ h => h) (Or.inl ⟨by rfl, ?_⟩) ?_ ?_
    rotate_left
    · intro w'
      go_simp
      with_reducible rfl
    rotate_left
    · simp only [Act.put, List.setIfInBounds_toArray, List.set_cons_zero, List.set_cons_succ, i64_w, i32_w]
      rfl
    refine one_ (i := 10) (N := none) #[true, true, true, true, true, true, true, true, true, true, true] rfl rfl (one_of HT_.out (by kernel_rfl)) (by decide) (fun K hK => ?_)
    have hs19 : w17.cell? ⟨gb139, 0, none⟩ = some (.slice none 0 0) := (blk_cell BK139.out 0).trans rfl
    have hfs19 := blk_frozen BK139.out 0
    have hns19_0 := NB138_139.out
    have hms19_0 := NB139_138.out
    have hs20 : w17.cell? ⟨gb139, 1, none⟩ = some (.slice none 0 0) := (blk_cell BK139.out 1).trans rfl
    have hfs20 := blk_frozen BK139.out 1
    have hns20_0 := NB138_139.out
    have hms20_0 := NB139_138.out
    refine skip_ (w1 := ?_) (by rfl) rfl ?_ ?_
    rotate_left
    · go_simp
      rfl
    refine hK.out _ _ ⟨((cell_far (p := ⟨gb139, _, none⟩) NB138_139.out _).trans (((cell_far (p := ⟨gb139, _, none⟩) NB138_139.out _).trans (hHeld.1)))), ((cell_far (p := ⟨gb139, _, none⟩) NB138_139.out _).trans (((cell_far (p := ⟨gb139, _, none⟩) NB138_139.out _).trans (hHeld.2))))⟩ (fun hHeld => ?_)
    clear hK K
    refine done_ (done_of HT_.out (by kernel_rfl)) ?_
    try go_wp2
    refine bodyPost_ret (results_cell_row rfl _ _ gb139 26 #[.slice A0_0 l0_0.length c0_0, .slice Ao18 t145.length co18] (0, 0) _ rfl (by (with_reducible repeat (first | refine blk_drewN ?_ _ | refine blk_drew ?_ | refine blk_alloc ?_ _)); refine blk_put (cs := #[.slice A0_0 l0_0.length c0_0, .slice none 0 0]) ?_ 1 _ rfl; (with_reducible repeat (first | refine blk_drewN ?_ _ | refine blk_drew ?_ | refine blk_alloc ?_ _)); refine blk_put (cs := #[.slice none 0 0, .slice none 0 0]) ?_ 0 _ rfl; (with_reducible repeat (first | refine blk_drewN ?_ _ | refine blk_drew ?_ | refine blk_alloc ?_ _)); exact BK139.out) Try.underlying26 rfl (by kernel_rfl)) rfl ?_
    exact ⟨_, _, by first | rfl | (simp [errW_none, errW_some] <;> rfl) | (simp [*, errW_none, errW_some] <;> rfl), by (with_reducible repeat (first | apply Kd.V_alloc | apply Kd.V_drewN | apply Kd.V_drew)); exact Kd.V_mono (Kd.V_far (p := ⟨gb139, 1, none⟩) (Kd.V_far (p := ⟨gb139, 0, none⟩) (Kd.V_mono HO0_0.out (fun k_ hk => (⟨hk, hk.1.1.2⟩ : _ ∧ k_ ≠ gb139))) (fun _ hk => hk.2) (.slice A0_0 l0_0.length c0_0)) (fun _ hk => hk.2) (.slice Ao18 t145.length co18)) (fun _ hk => ⟨hk.1.1.1.1.1, hk.1.2⟩), by (with_reducible repeat (first | apply Kd.R_alloc | apply Kd.R_drewN | apply Kd.R_drew)); exact Kd.R_mono (Kd.R_far (p := ⟨gb139, 1, none⟩) (Kd.R_far (p := ⟨gb139, 0, none⟩) (Kd.R_types HO147.out BK139.out (by decide)) (fun _ hk => hk.2) (.slice A0_0 l0_0.length c0_0)) (fun _ hk => hk.2) (.slice Ao18 t145.length co18)) (fun _ hk => hk.1.1.1), by repeat (first | (with_reducible first | exact HB.out | apply below_alloc | apply pw_below_drewN | apply below_drew1 | refine below_set ?_ GE138.out | refine below_set ?_ GE139.out) | exact HB.out)⟩
  · replace c6 := Bool.eq_false_iff.mpr c6
    subst c6
    have H1 : ((spec_put.f l0_0 t140 a2).bind fun t148 => ((spec_put.f l0_1 t140 a3).bind fun t151 => (some (t148, t151)))) = some (r1, r2) := by rw [if_neg (show ¬ (false = true) by decide)] at H; exact H
    clear H
    have H := H1
    clear H1
    replace H := Option.bind_eq_some_iff.mp H
    obtain ⟨t148, A210, H⟩ := H
    replace H : ((spec_put.f l0_1 t140 a3).bind fun t151 => (some (t148, t151))) = some (r1, r2) := H
    have A21 := Aside0.mk A210
    clear A210
    replace H := Option.bind_eq_some_iff.mp H
    obtain ⟨t151, A220, H⟩ := H
    replace H : (some (t148, t151)) = some (r1, r2) := H
    have A22 := Aside0.mk A220
    clear A220
    simp only [Option.some.injEq, Prod.mk.injEq] at H
    obtain ⟨rfl, rfl⟩ := H
    go_enter Try.func69, Try.ntmps69
    try go_wp2_with (first | ((with_reducible refine gate_dst (N := 4) rfl ?_); refine box_event ?hg (N := 4) ?hd (cs := #[.slice A0_0 l0_0.length c0_0, .slice A0_1 l0_1.length c0_1]) (t := 26) ?hr ?_; (case hd => rfl); (case hg => rfl); (case hr => first | (go_simp; done) | (go_simp; rfl)); intro gb138 hg w23 hbox hb; have n0_ := Aside0.mk (Kd.V_below (Kd.V_elderB (by (with_reducible repeat (first | apply Kd.V_alloc | apply Kd.V_drewN | apply Kd.V_drew)); exact HO0_0.out) gb138 (Nat.le_of_eq hg.symm)) hb); have n1_ := Aside0.mk (below_step (by repeat (first | (with_reducible first | exact HB.out | apply below_alloc | apply pw_below_drewN | apply below_drew1) | exact HB.out)) hb); have n2_ := Aside0.mk (hbox); have n3_ := Aside0.mk ((by rw [hg]; exact (below_size (by repeat (first | (with_reducible first | exact HB.out | apply below_alloc | apply pw_below_drewN | apply below_drew1) | exact HB.out))) : w.heap.size ≤ gb138)); have n4_ := Aside0.mk ((by rw [hg]; exact (below_size (by repeat (first | (with_reducible first | exact HB.out | apply below_alloc | apply pw_below_drewN | apply below_drew1) | exact HB.out))) : w.heap.size ≤ gb138)); clear HO0_0; clear HB; have HO0_0 := n0_; have HB := n1_; have BK138 := n2_; have GW138 := n3_; have GE138 := n4_; clear n0_ n1_ n2_ n3_ n4_; clear hb hbox hg) | ((with_reducible refine gate_dst (N := 8) rfl ?_); refine box_event ?hg (N := 8) ?hd (cs := #[.slice none 0 0, .slice none 0 0]) (t := 26) ?hr ?_; (case hd => rfl); (case hg => rfl); (case hr => first | (go_simp; done) | (go_simp; rfl)); intro gb139 hg w24 hbox hb; have n0_ := Aside0.mk (Kd.V_below (Kd.V_elderB (by (with_reducible repeat (first | apply Kd.V_alloc | apply Kd.V_drewN | apply Kd.V_drew)); exact HO0_0.out) gb139 (Nat.le_of_eq hg.symm)) hb); have n1_ := Aside0.mk (blk_below (g := gb138) (o := .cells #[.slice A0_0 l0_0.length c0_0, .slice A0_1 l0_1.length c0_1] 26 (0, 0)) (by (with_reducible repeat (first | refine blk_drewN ?_ _ | refine blk_drew ?_ | refine blk_alloc ?_ _)); exact BK138.out) hb); have n2_ := Aside0.mk (below_step (by repeat (first | (with_reducible first | exact HB.out | apply below_alloc | apply pw_below_drewN | apply below_drew1 | refine below_set ?_ GE138.out) | exact HB.out)) hb); have n3_ := Aside0.mk (hbox); have n4_ := Aside0.mk ((by rw [hg]; exact (below_size (by repeat (first | (with_reducible first | exact HB.out | apply below_alloc | apply pw_below_drewN | apply below_drew1 | refine below_set ?_ GE138.out) | exact HB.out))) : w.heap.size ≤ gb139)); have n5_ := Aside0.mk ((by rw [hg]; exact (below_size (by repeat (first | (with_reducible first | exact HB.out | apply below_alloc | apply pw_below_drewN | apply below_drew1 | refine below_set ?_ GE138.out) | exact HB.out))) : w.heap.size ≤ gb139)); have n6_ := Aside0.mk ((by rw [hg]; exact Nat.ne_of_lt (blk_lt (g := gb138) (o := .cells #[.slice A0_0 l0_0.length c0_0, .slice A0_1 l0_1.length c0_1] 26 (0, 0)) (by (with_reducible repeat (first | refine blk_drewN ?_ _ | refine blk_drew ?_ | refine blk_alloc ?_ _)); exact BK138.out)) : gb138 ≠ gb139)); have n7_ := Aside0.mk ((by rw [hg]; exact Nat.ne_of_gt (blk_lt (g := gb138) (o := .cells #[.slice A0_0 l0_0.length c0_0, .slice A0_1 l0_1.length c0_1] 26 (0, 0)) (by (with_reducible repeat (first | refine blk_drewN ?_ _ | refine blk_drew ?_ | refine blk_alloc ?_ _)); exact BK138.out)) : gb139 ≠ gb138)); clear HO0_0; clear BK138; clear HB; have HO0_0 := n0_; have BK138 := n1_; have HB := n2_; have BK139 := n3_; have GW139 := n4_; have GE139 := n5_; have NB138_139 := n6_; have NB139_138 := n7_; clear n0_ n1_ n2_ n3_ n4_ n5_ n6_ n7_; clear hb hbox hg; have hnb25 := NB138_139.out; have hnc25 := NB139_138.out; have hcz26_0 : w24.cell? ⟨gb138, 0, none⟩ = some (.slice A0_0 l0_0.length c0_0) := (blk_cell BK138.out 0).trans rfl; have hcz26_1 : w24.cell? ⟨gb138, 1, none⟩ = some (.slice A0_1 l0_1.length c0_1) := (blk_cell BK138.out 1).trans rfl; have hfz26_0 := blk_frozen BK138.out 0; have hfz26_1 := blk_frozen BK138.out 1) | ((with_reducible refine gate_callee (f := 89) rfl ?_); refine goesL_ (some 15) rfl rfl Try.func89 (by kernel_rfl) rfl #[.agg #[.slice A0_0 l0_0.length c0_0, .slice A0_1 l0_1.length c0_1], .slice A1 l1.length c1, .int .i64 a2] rfl (by (try simp only [List.map_toArray, List.map_cons, List.map_nil]); first | done | rfl | (simp only [List.length_drop, List.length_take]; rfl)) ?_; (with_reducible refine (spec_Tree_find.calls k _ _ l0_0 _ _ l0_1 _ _ l1 a2 t140 false _ ?side1 ?side2 ?side3 ?side4 ?side5 ?side6 A5.out).mono ?_); (case side1 => repeat (first | exact (Kd.V_reads' HO0_0.out).2.2 | (with_reducible refine Kd.C_alloc ?_ _) | (with_reducible refine Kd.C_drewN ?_ _) | (with_reducible refine Kd.C_drew ?_))); (case side2 => exact (Kd.V_reads' HO0_0.out).2.1); (case side3 => repeat (first | exact (Kd.C_below HR0_1.out HB.out) | (with_reducible refine Kd.C_alloc ?_ _) | (with_reducible refine Kd.C_drewN ?_ _) | (with_reducible refine Kd.C_drew ?_))); (case side4 => exact HC0_1.out); (case side5 => repeat (first | exact (Kd.C_below HR1.out HB.out) | (with_reducible refine Kd.C_alloc ?_ _) | (with_reducible refine Kd.C_drewN ?_ _) | (with_reducible refine Kd.C_drew ?_))); (case side6 => exact HC1.out); rintro e w27 ⟨rfl, hb⟩; refine ⟨_, rfl, ?_⟩; have n0_ := Aside0.mk (Kd.V_below (by (with_reducible repeat (first | apply Kd.V_alloc | apply Kd.V_drewN | apply Kd.V_drew)); exact HO0_0.out) hb); have n1_ := Aside0.mk (blk_below (g := gb138) (o := .cells #[.slice A0_0 l0_0.length c0_0, .slice A0_1 l0_1.length c0_1] 26 (0, 0)) (by (with_reducible repeat (first | refine blk_drewN ?_ _ | refine blk_drew ?_ | refine blk_alloc ?_ _)); exact BK138.out) hb); have n2_ := Aside0.mk (blk_below (g := gb139) (o := .cells #[.slice none 0 0, .slice none 0 0] 26 (0, 0)) (by (with_reducible repeat (first | refine blk_drewN ?_ _ | refine blk_drew ?_ | refine blk_alloc ?_ _)); exact BK139.out) hb); have n3_ := Aside0.mk (below_step (by repeat (first | (with_reducible first | exact HB.out | apply below_alloc | apply pw_below_drewN | apply below_drew1 | refine below_set ?_ GE138.out | refine below_set ?_ GE139.out) | exact HB.out)) hb); clear HO0_0; clear BK138; clear BK139; clear HB; have HO0_0 := n0_; have BK138 := n1_; have BK139 := n2_; have HB := n3_; clear n0_ n1_ n2_ n3_; (try clear hb); (try clear hb2); (try clear hk); (try clear hi)))
    have n0_ := Aside0.mk (Kd.V_drew HO0_0.out)
    have n1_ := Aside0.mk (blk_drew BK138.out)
    have n2_ := Aside0.mk (blk_drew BK139.out)
    have n3_ := Aside0.mk (below_drew1 HB.out)
    clear HO0_0
    clear BK138
    clear BK139
    clear HB
    have HO0_0 := n0_
    have BK138 := n1_
    have BK139 := n2_
    have HB := n3_
    clear n0_ n1_ n2_ n3_
    refine start_ (n := 12) (S := fun w' => w'.cell? ⟨gb138, 0, none⟩ = some (.slice A0_0 l0_0.length c0_0) ∧ w'.cell? ⟨gb138, 1, none⟩ = some (.slice A0_1 l0_1.length c0_1)) (ds := []) #[false, false, false, false, false, false, false, false, false, false, false, false] (by kernel_rfl) rfl rfl ⟨(blk_cell BK138.out 0).trans rfl, (blk_cell BK138.out 1).trans rfl⟩ (fun hHeld => ?_); refine with_tabW spec_Tree_Put.tab4 spec_Tree_Put.bits4 (fun HT_ HW_ => ?_)
    generalize w27.drew = w28 at HO0_0 BK138 BK139 HB hHeld ⊢
    refine pure_ (i := 0) (N := some 29) (v := ?_) (a' := ?_) #[true, false, false, false, false, false, false, false, false, false, false, false] rfl rfl (any_of HT_.out (by kernel_rfl)) (fun _ _ _ h => h) (Or.inl ⟨by rfl, ?_⟩) ?_ ?_
    rotate_left
    · intro w'
      go_simp
      with_reducible rfl
    rotate_left
    · simp only [Act.put, List.setIfInBounds_toArray, List.set_cons_zero, List.set_cons_succ, i64_w, i32_w]
      rfl
    refine pure_ (i := 2) (N := some 31) (v := ?_) (a' := ?_) #[true, false, true, false, false, false, false, false, false, false, false, false] rfl rfl (any_of HT_.out (by kernel_rfl)) (fun _ _ _ h => h) (Or.inl ⟨by rfl, ?_⟩) ?_ ?_
    rotate_left
    · intro w'
      go_simp
      with_reducible rfl
    rotate_left
    · simp only [Act.put, List.setIfInBounds_toArray, List.set_cons_zero, List.set_cons_succ, i64_w, i32_w]
      rfl
    refine pure_ (i := 3) (N := some 32) (v := ?_) (a' := ?_) #[true, false, true, true, false, false, false, false, false, false, false, false] rfl rfl (any_of HT_.out (by kernel_rfl)) (fun _ _ _ h => h) (Or.inl ⟨by rfl, ?_⟩) ?_ ?_
    rotate_left
    · intro w'
      go_simp
      with_reducible rfl
    rotate_left
    · simp only [Act.put, List.setIfInBounds_toArray, List.set_cons_zero, List.set_cons_succ, i64_w, i32_w]
      rfl
    refine pure_ (i := 5) (N := some 34) (v := ?_) (a' := ?_) #[true, false, true, true, false, true, false, false, false, false, false, false] rfl rfl (any_of HT_.out (by kernel_rfl)) (fun _ _ _ h => h) (Or.inl ⟨by rfl, ?_⟩) ?_ ?_
    rotate_left
    · intro w'
      go_simp
      with_reducible rfl
    rotate_left
    · simp only [Act.put, List.setIfInBounds_toArray, List.set_cons_zero, List.set_cons_succ, i64_w, i32_w]
      rfl
    refine pure_ (i := 7) (N := some 36) (v := ?_) (a' := ?_) #[true, false, true, true, false, true, false, true, false, false, false, false] rfl rfl (any_of HT_.out (by kernel_rfl)) (fun _ _ _ h => h) (Or.inl ⟨by rfl, ?_⟩) ?_ ?_
    rotate_left
    · intro w'
      go_simp
      with_reducible rfl
    rotate_left
    · simp only [Act.put, List.setIfInBounds_toArray, List.set_cons_zero, List.set_cons_succ, i64_w, i32_w]
      rfl
    refine pure_ (i := 8) (N := some 37) (v := ?_) (a' := ?_) #[true, false, true, true, false, true, false, true, true, false, false, false] rfl rfl (any_of HT_.out (by kernel_rfl)) (fun _ _ _ h => h) (Or.inl ⟨by rfl, ?_⟩) ?_ ?_
    rotate_left
    · intro w'
      go_simp
      with_reducible rfl
    rotate_left
    · simp only [Act.put, List.setIfInBounds_toArray, List.set_cons_zero, List.set_cons_succ, i64_w, i32_w]
      rfl
    refine take_ (i := 1) (N := some 30) (v := ?_) (a' := ?_) #[true, true, true, true, false, true, false, true, true, false, false, false] rfl rfl (take_ofW HT_.out HW_.out (by kernel_rfl)) (fun _ _ _ h => h) (Or.inl ⟨by rfl, ?_⟩) hHeld ?_ ?_
    rotate_left
    · rintro w' ⟨s0, s1⟩
      go_simp
      with_reducible rfl
    rotate_left
    · simp only [Act.put, List.setIfInBounds_toArray, List.set_cons_zero, List.set_cons_succ, i64_w, i32_w]
      rfl
    refine take_ (i := 6) (N := some 35) (v := ?_) (a' := ?_) #[true, true, true, true, false, true, true, true, true, false, false, false] rfl rfl (take_ofW HT_.out HW_.out (by kernel_rfl)) (fun _ _ _ h => h) (Or.inl ⟨by rfl, ?_⟩) hHeld ?_ ?_
    rotate_left
    · rintro w' ⟨s0, s1⟩
      go_simp
      with_reducible rfl
    rotate_left
    · simp only [Act.put, List.setIfInBounds_toArray, List.set_cons_zero, List.set_cons_succ, i64_w, i32_w]
      rfl
    refine one_ (i := 4) (N := some 33) #[true, true, true, true, true, true, true, true, true, false, false, false] rfl rfl (one_of HT_.out (by kernel_rfl)) (by decide) (fun K hK => ?_)
    refine goes_ Try.func90 (by kernel_rfl) rfl #[.slice A0_0 l0_0.length c0_0, .int .i64 t140, .int .i64 a2] (by rfl) rfl rfl (by (try simp only [List.map_toArray, List.map_cons, List.map_nil]); first | done | rfl | (simp only [List.length_drop, List.length_take]; rfl)) ?_
    with_reducible refine (spec_put.calls _ _ l0_0 t140 a2 t148 _ ?side1 ?side2 A21.out).mono ?_
    (case side1 => repeat (first | exact (Kd.V_reads' HO0_0.out).2.2 | (with_reducible refine Kd.C_alloc ?_ _) | (with_reducible refine Kd.C_drewN ?_ _) | (with_reducible refine Kd.C_drew ?_)))
    (case side2 => exact (Kd.V_reads' HO0_0.out).2.1)
    rintro e w29 ⟨v149, rfl, ho0, hb⟩
    refine ⟨_, rfl, ?_⟩
    have n0_ := Aside0.mk (Kd.V_elder' (by (with_reducible repeat (first | apply Kd.V_alloc | apply Kd.V_drewN | apply Kd.V_drew)); exact HO0_0.out) (Kd.R_base ho0) hb)
    have n1_ := Aside0.mk (Kd.R_lower (Kd.R_newM (M := fun k_ => (w.heap.size ≤ k_)) ho0 (below_size (by repeat (first | (with_reducible first | exact HB.out | apply below_alloc | apply pw_below_drewN | apply below_drew1 | refine below_set ?_ GE138.out | refine below_set ?_ GE139.out) | exact HB.out))) (fun k_ h_ => h_)) (below_size (by repeat (first | (with_reducible first | exact HB.out | apply below_alloc | apply pw_below_drewN | apply below_drew1 | refine below_set ?_ GE138.out | refine below_set ?_ GE139.out) | exact HB.out))))
    have n2_ := Aside0.mk (blk_below (g := gb138) (o := .cells #[.slice A0_0 l0_0.length c0_0, .slice A0_1 l0_1.length c0_1] 26 (0, 0)) (by (with_reducible repeat (first | refine blk_drewN ?_ _ | refine blk_drew ?_ | refine blk_alloc ?_ _)); exact BK138.out) hb)
    have n3_ := Aside0.mk (blk_below (g := gb139) (o := .cells #[.slice none 0 0, .slice none 0 0] 26 (0, 0)) (by (with_reducible repeat (first | refine blk_drewN ?_ _ | refine blk_drew ?_ | refine blk_alloc ?_ _)); exact BK139.out) hb)
    have n4_ := Aside0.mk (below_step (by repeat (first | (with_reducible first | exact HB.out | apply below_alloc | apply pw_below_drewN | apply below_drew1 | refine below_set ?_ GE138.out | refine below_set ?_ GE139.out) | exact HB.out)) hb)
    clear HO0_0
    clear BK138
    clear BK139
    clear HB
    have HO0_0 := n0_
    have HO150 := n1_
    have BK138 := n2_
    have BK139 := n3_
    have HB := n4_
    clear n0_ n1_ n2_ n3_ n4_
    (try clear hb)
    (try clear hb2)
    (try clear hk)
    (try clear hi)
    (try clear ho0)
    refine hK.out _ _ ⟨(blk_cell BK138.out 0).trans rfl, (blk_cell BK138.out 1).trans rfl⟩ (fun hHeld => ?_)
    clear hK K
    refine norm_ (a' := ?_) ?_ ?_
    rotate_left
    · show Act.put _ (some 33) _ = _
      simp only [Act.put, List.setIfInBounds_toArray, List.set_cons_zero, List.set_cons_succ, i64_w, i32_w]
      rfl
    refine one_ (i := 9) (N := some 38) #[true, true, true, true, true, true, true, true, true, true, false, false] rfl rfl (one_of HT_.out (by kernel_rfl)) (by decide) (fun K hK => ?_)
    refine goes_ Try.func90 (by kernel_rfl) rfl #[.slice A0_1 l0_1.length c0_1, .int .i64 t140, .int .i64 a3] (by rfl) rfl rfl (by (try simp only [List.map_toArray, List.map_cons, List.map_nil]); first | done | rfl | (simp only [List.length_drop, List.length_take]; rfl)) ?_
    with_reducible refine (spec_put.calls _ _ l0_1 t140 a3 t151 _ ?side1 ?side2 A22.out).mono ?_
    (case side1 => repeat (first | exact (Kd.C_below HR0_1.out HB.out) | (with_reducible refine Kd.C_alloc ?_ _) | (with_reducible refine Kd.C_drewN ?_ _) | (with_reducible refine Kd.C_drew ?_)))
    (case side2 => exact HC0_1.out)
    rintro e w30 ⟨v152, rfl, ho0, hb⟩
    refine ⟨_, rfl, ?_⟩
    have n0_ := Aside0.mk (Kd.V_elder' (by (with_reducible repeat (first | apply Kd.V_alloc | apply Kd.V_drewN | apply Kd.V_drew)); exact HO0_0.out) (Kd.R_base ho0) hb)
    have n1_ := Aside0.mk (Kd.R_elder' (by (with_reducible repeat (first | apply Kd.R_alloc | apply Kd.R_drewN | apply Kd.R_drew)); exact HO150.out) (Kd.R_base ho0) hb)
    have n2_ := Aside0.mk (Kd.R_lower (Kd.R_new' (Kd.R_newM (M := fun k_ => (w.heap.size ≤ k_)) ho0 (below_size (by repeat (first | (with_reducible first | exact HB.out | apply below_alloc | apply pw_below_drewN | apply below_drew1 | refine below_set ?_ GE138.out | refine below_set ?_ GE139.out) | exact HB.out))) (fun k_ h_ => h_)) (Kd.R_lt (by (with_reducible repeat (first | apply Kd.R_alloc | apply Kd.R_drewN | apply Kd.R_drew)); exact HO150.out))) (below_size (by repeat (first | (with_reducible first | exact HB.out | apply below_alloc | apply pw_below_drewN | apply below_drew1 | refine below_set ?_ GE138.out | refine below_set ?_ GE139.out) | exact HB.out))))
    have n3_ := Aside0.mk (blk_below (g := gb138) (o := .cells #[.slice A0_0 l0_0.length c0_0, .slice A0_1 l0_1.length c0_1] 26 (0, 0)) (by (with_reducible repeat (first | refine blk_drewN ?_ _ | refine blk_drew ?_ | refine blk_alloc ?_ _)); exact BK138.out) hb)
    have n4_ := Aside0.mk (blk_below (g := gb139) (o := .cells #[.slice none 0 0, .slice none 0 0] 26 (0, 0)) (by (with_reducible repeat (first | refine blk_drewN ?_ _ | refine blk_drew ?_ | refine blk_alloc ?_ _)); exact BK139.out) hb)
    have n5_ := Aside0.mk (below_step (by repeat (first | (with_reducible first | exact HB.out | apply below_alloc | apply pw_below_drewN | apply below_drew1 | refine below_set ?_ GE138.out | refine below_set ?_ GE139.out) | exact HB.out)) hb)
    clear HO0_0
    clear HO150
    clear BK138
    clear BK139
    clear HB
    have HO0_0 := n0_
    have HO150 := n1_
    have HO153 := n2_
    have BK138 := n3_
    have BK139 := n4_
    have HB := n5_
    clear n0_ n1_ n2_ n3_ n4_ n5_
    (try clear hb)
    (try clear hb2)
    (try clear hk)
    (try clear hi)
    (try clear ho0)
    obtain ⟨Ao31, co31, eo31⟩ := Kd.R_slice HO153.out
    (first | subst eo31 | (injection eo31 with f1_ f2_ f3_; have f4_ := f1_.symm; have f5_ := f3_.symm; clear f1_ f2_ f3_; subst f4_; subst f5_))
    obtain ⟨Ao32, co32, eo32⟩ := Kd.R_slice HO150.out
    (first | subst eo32 | (injection eo32 with f1_ f2_ f3_; have f4_ := f1_.symm; have f5_ := f3_.symm; clear f1_ f2_ f3_; subst f4_; subst f5_))
    refine hK.out _ _ ⟨(blk_cell BK138.out 0).trans rfl, (blk_cell BK138.out 1).trans rfl⟩ (fun hHeld => ?_)
    clear hK K
    refine norm_ (a' := ?_) ?_ ?_
    rotate_left
    · show Act.put _ (some 38) _ = _
      simp only [Act.put, List.setIfInBounds_toArray, List.set_cons_zero, List.set_cons_succ, i64_w, i32_w]
      rfl
    refine pure_ (i := 10) (N := some 39) (v := ?_) (a' := ?_) #[true, true, true, true, true, true, true, true, true, true, true, false] rfl rfl (any_of HT_.out (by kernel_rfl)) (fun _ _ _ h => h) (Or.inl ⟨by rfl, ?_⟩) ?_ ?_
    rotate_left
    · intro w'
      go_simp
      with_reducible rfl
    rotate_left
    · simp only [Act.put, List.setIfInBounds_toArray, List.set_cons_zero, List.set_cons_succ, i64_w, i32_w]
      rfl
    refine one_ (i := 11) (N := none) #[true, true, true, true, true, true, true, true, true, true, true, true] rfl rfl (one_of HT_.out (by kernel_rfl)) (by decide) (fun K hK => ?_)
    have hs33 : w30.cell? ⟨gb139, 0, none⟩ = some (.slice none 0 0) := (blk_cell BK139.out 0).trans rfl
    have hfs33 := blk_frozen BK139.out 0
    have hns33_0 := NB138_139.out
    have hms33_0 := NB139_138.out
    have hs34 : w30.cell? ⟨gb139, 1, none⟩ = some (.slice none 0 0) := (blk_cell BK139.out 1).trans rfl
    have hfs34 := blk_frozen BK139.out 1
    have hns34_0 := NB138_139.out
    have hms34_0 := NB139_138.out
    refine skip_ (w1 := ?_) (by rfl) rfl ?_ ?_
    rotate_left
    · go_simp
      rfl
    refine hK.out _ _ ⟨((cell_far (p := ⟨gb139, _, none⟩) NB138_139.out _).trans (((cell_far (p := ⟨gb139, _, none⟩) NB138_139.out _).trans (hHeld.1)))), ((cell_far (p := ⟨gb139, _, none⟩) NB138_139.out _).trans (((cell_far (p := ⟨gb139, _, none⟩) NB138_139.out _).trans (hHeld.2))))⟩ (fun hHeld => ?_)
    clear hK K
    refine done_ (done_of HT_.out (by kernel_rfl)) ?_
    try go_wp2
    refine bodyPost_ret (results_cell_row rfl _ _ gb139 26 #[.slice Ao32 t148.length co32, .slice Ao31 t151.length co31] (0, 0) _ rfl (by (with_reducible repeat (first | refine blk_drewN ?_ _ | refine blk_drew ?_ | refine blk_alloc ?_ _)); refine blk_put (cs := #[.slice Ao32 t148.length co32, .slice none 0 0]) ?_ 1 _ rfl; (with_reducible repeat (first | refine blk_drewN ?_ _ | refine blk_drew ?_ | refine blk_alloc ?_ _)); refine blk_put (cs := #[.slice none 0 0, .slice none 0 0]) ?_ 0 _ rfl; (with_reducible repeat (first | refine blk_drewN ?_ _ | refine blk_drew ?_ | refine blk_alloc ?_ _)); exact BK139.out) Try.underlying26 rfl (by kernel_rfl)) rfl ?_
    exact ⟨_, _, by first | rfl | (simp [errW_none, errW_some] <;> rfl) | (simp [*, errW_none, errW_some] <;> rfl), Kd.V_mono (Kd.R_V (by (with_reducible repeat (first | apply Kd.R_alloc | apply Kd.R_drewN | apply Kd.R_drew)); exact (Kd.R_far (p := ⟨gb139, 1, none⟩) (Kd.R_far (p := ⟨gb139, 0, none⟩) (Kd.R_types HO150.out BK139.out (by decide)) (fun _ hk => hk.2) (.slice Ao32 t148.length co32)) (fun _ hk => hk.2) (.slice Ao31 t151.length co31)))) (fun k_ hk => by first | exact ⟨.inr hk.1.1.1, hk.1.2⟩ | exact .inr hk.1.1.1), by (with_reducible repeat (first | apply Kd.R_alloc | apply Kd.R_drewN | apply Kd.R_drew)); exact Kd.R_mono (Kd.R_far (p := ⟨gb139, 1, none⟩) (Kd.R_far (p := ⟨gb139, 0, none⟩) (Kd.R_types HO153.out BK139.out (by decide)) (fun _ hk => hk.2) (.slice Ao32 t148.length co32)) (fun _ hk => hk.2) (.slice Ao31 t151.length co31)) (fun _ hk => hk.1.1.1), by repeat (first | (with_reducible first | exact HB.out | apply below_alloc | apply pw_below_drewN | apply below_drew1 | refine below_set ?_ GE138.out | refine below_set ?_ GE139.out) | exact HB.out)⟩

end Go.Proofs.Ytjlcebgfknfelaa.QFnAvlRuns
