/- The machine's side of a law, as the kit's print writes it; of the functions that the print doesn't cover this session's own contracts stand in it: no condition. -/
import Derived.Test.YtjlcebgfknfelaaAvlI
import Derived.Test.YtjlcebgfknfelaaBtG
import Derived.Test.YtjlcebgfknfelaaQFnTreesBeginx0
namespace Go.Proofs.Ytjlcebgfknfelaa.QFnTreesBegin
open Go.RowKit Go.Proofs.YtjlcebgfknfelaaW.PrintWords Go.Proofs.YtjlcebgfknfelaaW.PrintLast Go.Proofs.YtjlcebgfknfelaaW.PrintMore
attribute [local go_sem] max2_int min2_int max_two min_two max_three min_three max_four min_four   -- for this text's walks alone
set_option linter.unusedVariables false
set_option linter.unusedSimpArgs false

-- NOT PRINTED: function 81 (avl_node_int_int_getHeight)

/-! ### zgeneric_Max_int: function 95 -/
def zgeneric_Max_int.f (a0 : Int) (a1 : Int) : Option (Int) := if a0 > a1 then (some a0) else (some a1)
set_option maxHeartbeats 8000000 in
set_option maxRecDepth 100000 in
theorem zgeneric_Max_int.calls (a0 : Int) (a1 : Int) (r : Int) (w : World) (h : zgeneric_Max_int.f a0 a1 = some r) :
    Calls Try.prog 95 #[.int .i64 a0, .int .i64 a1] w fun e w' => e = .returned (.int .i64 r) ∧ Drawn0 w w' := by
  have H : (if a0 > a1 then (some a0) else (some a1)) = some r := h
  clear h
  by_cases c3 : a0 > a1
  · rw [if_pos c3] at H
    have c3b0 : decide (a1 < a0) = true := decide_eq_true c3
    clear c3
    obtain rfl := Option.some.inj H
    go_enter Try.func95, Try.ntmps95
    go_wp2
    go_ret
    exact ⟨by first | rfl | (simp; done) | (simp [*]; done), by repeat (first | exact Drawn0.refl _ | apply Drawn0.step)⟩
  · rw [if_neg c3] at H
    have c3b0 : decide (a1 < a0) = false := decide_eq_false c3
    clear c3
    obtain rfl := Option.some.inj H
    go_enter Try.func95, Try.ntmps95
    go_wp2
    go_ret
    exact ⟨by first | rfl | (simp; done) | (simp [*]; done), by repeat (first | exact Drawn0.refl _ | apply Drawn0.step)⟩

-- NOT PRINTED: function 80 (avl_node_int_int_recalculateHeight)

-- NOT PRINTED: function 77 (avl_node_int_int_rotateRight)

-- NOT PRINTED: function 78 (avl_node_int_int_rotateLeft)

-- NOT PRINTED: function 58 (avl_node_int_int_rebalanceTree)

-- NOT PRINTED: function 96 (zgeneric_Compare_int)

-- NOT PRINTED: function 83 (avl_node_int_int_add)

-- NOT PRINTED: function 60 (avl_Tree_int_int_Put)

-- NOT PRINTED: function 97 (avl_node_int_int_findSmallest)

-- NOT PRINTED: function 84 (avl_node_int_int_remove)

-- NOT PRINTED: function 61 (avl_Tree_int_int_Remove)

-- NOT PRINTED: function 85 (avl_node_int_int_search)

-- NOT PRINTED: function 62 (avl_Tree_int_int_Get)

-- NOT PRINTED: function 86 (avl_node_int_int_size)

-- NOT PRINTED: function 63 (avl_Tree_int_int_Size)

-- NOT PRINTED: function 87 (avl_node_int_int_each)

-- NOT PRINTED: function 64 (avl_Tree_int_int_Each)

-- NOT PRINTED: function 66 (avl_Tree_int_int_Height)

-- NOT PRINTED: function 45 (impl_avlDo)

-- NOT PRINTED: function 46 (avl_New_int_int)

-- NOT PRINTED: function 47 (impl_less)

/-! ### impl_AvlRun: function 23 -/
def told_of (p : Avl.Told4) : S46 := ⟨p.1, p.2.1, p.2.2.1, p.2.2.2⟩
def impl_AvlRun.f (l0 : List Int) (l1 : List (S66)) : Option (List (S46)) :=
  if l0.length ≤ 2147483647 then (if l1.length ≤ 2147483647 then some ((Avl.toldT l0 .nil (l1.map fun x => (x.f0, x.f1, x.f2))).map told_of) else none) else none
theorem impl_AvlRun.calls (A0 : Option Addr) (c0 : Nat) (l0 : List Int) (A1 : Option Addr) (c1 : Nat) (l1 : List (S66)) (r : List (S46)) (w : World) (hr0 : Kd.C (Kd.int .i64) w A0 l0.length l0) (hc0 : l0.length ≤ c0) (hr1 : Kd.C k66 w A1 l1.length l1) (hc1 : l1.length ≤ c1) (h : impl_AvlRun.f l0 l1 = some r) :
    Calls Try.prog 23 #[.slice A0 l0.length c0, .slice A1 l1.length c1] w fun e w' => ∃ v0_ : Value, e = .returned (v0_) ∧ Kd.S k46 46 w' w.heap.size (fun _ => True) v0_ r ∧ Below w.heap.size w w' := by
  unfold impl_AvlRun.f at h
  by_cases q1 : l0.length ≤ 2147483647
  · rw [if_pos q1] at h
    by_cases q2 : l1.length ≤ 2147483647
    · rw [if_pos q2] at h
      obtain rfl := Option.some.inj h
      have hC := Row.C_iso hr1
      have hl : (l1.map fun x : S66 => (x.f0, x.f1, x.f2)).length = l1.length := List.length_map ..
      have H := Avl.AvlRun_any A0 c0 l0 A1 c1 (l1.map fun x : S66 => (x.f0, x.f1, x.f2)) w hr0 q1 (by rw [hl]; exact hC) (by rw [hl]; exact q2)
      rw [hl] at H
      refine H.mono ?_
      rintro e w' ⟨v, he, hS, hB⟩
      refine ⟨v, he, Row.S_iso ?_, hB⟩
      rw [List.map_map, show ((fun x : S46 => (x.f0, x.f1, x.f2, x.f3)) ∘ told_of) = id from rfl, List.map_id]
      exact hS
    · rw [if_neg q2] at h; cases h
  · rw [if_neg q1] at h; cases h

/-! ### impl_BtreeRun: function 33 -/
def impl_BtreeRun.f (l0 : List Int) (l1 : List (S66)) : Option (List (S46)) :=
  if l0.length ≤ 2147483647 then (if l1.length ≤ 2147483647 then some ((Bt.toldT l0 [] (l1.map fun x => (x.f0, x.f1, x.f2))).map told_of) else none) else none
theorem impl_BtreeRun.calls (A0 : Option Addr) (c0 : Nat) (l0 : List Int) (A1 : Option Addr) (c1 : Nat) (l1 : List (S66)) (r : List (S46)) (w : World) (hr0 : Kd.C (Kd.int .i64) w A0 l0.length l0) (hc0 : l0.length ≤ c0) (hr1 : Kd.C k66 w A1 l1.length l1) (hc1 : l1.length ≤ c1) (h : impl_BtreeRun.f l0 l1 = some r) :
    Calls Try.prog 33 #[.slice A0 l0.length c0, .slice A1 l1.length c1] w fun e w' => ∃ v0_ : Value, e = .returned (v0_) ∧ Kd.S k46 46 w' w.heap.size (fun _ => True) v0_ r ∧ Below w.heap.size w w' := by
  unfold impl_BtreeRun.f at h
  by_cases q1 : l0.length ≤ 2147483647
  · rw [if_pos q1] at h
    by_cases q2 : l1.length ≤ 2147483647
    · rw [if_pos q2] at h
      obtain rfl := Option.some.inj h
      have hC := Row.C_iso hr1
      have hl : (l1.map fun x : S66 => (x.f0, x.f1, x.f2)).length = l1.length := List.length_map ..
      have H := Bt.BtreeRun_any A0 c0 l0 A1 c1 (l1.map fun x : S66 => (x.f0, x.f1, x.f2)) w hr0 q1 (by rw [hl]; exact hC) (by rw [hl]; exact q2)
      rw [hl] at H
      refine H.mono ?_
      rintro e w' ⟨v, he, hS, hB⟩
      refine ⟨v, he, Row.S_iso ?_, hB⟩
      rw [List.map_map, show ((fun x : S46 => (x.f0, x.f1, x.f2, x.f3)) ∘ told_of) = id from rfl, List.map_id]
      exact hS
    · rw [if_neg q2] at h; cases h
  · rw [if_neg q1] at h; cases h

/-! ### spec_Same: function 18 -/
def spec_Same.l0 : Nat → List Int → List Int → Int → Option (Bool)
  | 0, _, _, _ => none
  | k + 1, x0, x1, x5 => if x5 < (x0.length : Int) then (if 0 ≤ x5 then (if x5 < (x1.length : Int) then (if (rd x0 x5) = (rd x1 x5) then (spec_Same.l0 k x0 x1 (wrap64 (x5 + 1))) else (some false)) else (none)) else (none)) else (some true)
def spec_Same.f (k : Nat) (l0 : List Int) (l1 : List Int) : Option (Bool) := if (l0.length : Int) = (l1.length : Int) then (spec_Same.l0 k l0 l1 0) else (some false)
theorem spec_Same.mono_l : ∀ k, (∀ y0 y1 y2, LeO (spec_Same.l0 k y0 y1 y2) (spec_Same.l0 (k + 1) y0 y1 y2))
  | 0 => fun _ _ _ r h => by simp [spec_Same.l0] at h
  | k + 1 => by
    have ih0 := spec_Same.mono_l k
    · intro y0 y1 y2
      unfold spec_Same.l0
      repeat' first
      | (with_reducible exact ih0 _ _ _)
      | (with_reducible exact LeO.refl _)
      | (with_reducible exact LeO.none _)
      | (with_reducible refine LeO.ite ?_ ?_)
      | (with_reducible refine LeO.bind ?_ (fun _ => ?_))
      | exact ih0 _ _ _
      | exact LeO.none _
      | refine LeO.ite ?_ ?_
      | refine LeO.bind ?_ (fun _ => ?_)
theorem spec_Same.mono : ∀ a0 a1 k, LeO (spec_Same.f k a0 a1) (spec_Same.f (k + 1) a0 a1) := by
  intro a0 a1 k
  have ih0 := spec_Same.mono_l k
  unfold spec_Same.f
  repeat' first
      | (with_reducible exact ih0 _ _ _)
      | (with_reducible exact LeO.refl _)
      | (with_reducible exact LeO.none _)
      | (with_reducible refine LeO.ite ?_ ?_)
      | (with_reducible refine LeO.bind ?_ (fun _ => ?_))
      | exact ih0 _ _ _
      | exact LeO.none _
      | refine LeO.ite ?_ ?_
      | refine LeO.bind ?_ (fun _ => ?_)
set_option maxHeartbeats 8000000 in
set_option maxRecDepth 100000 in
theorem spec_Same.calls (k : Nat) (A0 : Option Addr) (c0 : Nat) (l0 : List Int) (A1 : Option Addr) (c1 : Nat) (l1 : List Int) (r : Bool) (w : World) (hr0 : Kd.C (Kd.int .i64) w A0 l0.length l0) (hc0 : l0.length ≤ c0) (hr1 : Kd.C (Kd.int .i64) w A1 l1.length l1) (hc1 : l1.length ≤ c1) (h : spec_Same.f k l0 l1 = some r) :
    Calls Try.prog 18 #[.slice A0 l0.length c0, .slice A1 l1.length c1] w fun e w' => e = .returned (.bool r) ∧ Drawn0 w w' := by
  have HR0 := Aside0.mk hr0
  have HC0 := Aside0.mk hc0
  clear hr0 hc0
  have HR1 := Aside0.mk hr1
  have HC1 := Aside0.mk hc1
  clear hr1 hc1
  have H : (if (l0.length : Int) = (l1.length : Int) then (spec_Same.l0 k l0 l1 0) else (some false)) = some r := h
  clear h
  by_cases c3 : (l0.length : Int) = (l1.length : Int)
  · rw [if_pos c3] at H
    have c3b0 : ((l0.length : Int) == (l1.length : Int)) = true := beq_iff_eq.mpr c3
    have c3b1 : ((l0.length : Int) != (l1.length : Int)) = false := bne_eq_false_iff_eq.mpr c3
    have c3b2 : (l0.length == l1.length) = true := by first | simpa using c3 | (simp at c3 ⊢; omega)
    clear c3
    have H' := Aside0.mk H
    clear H
    go_enter Try.func18, Try.ntmps18
    go_wp2
    repeat (go_quiet (fail); try go_wp2)
    go_loopg [5] k (fun kq v5 w' => ∃ (x5_1 : Int), v5 = .int .i64 x5_1 ∧ Aside0 (spec_Same.l0 kq l0 l1 x5_1 = some r) ∧ Aside0 (kq ≤ k) ∧ Drawn0 w w')
    case atStart => exact ⟨(0), (by first | rfl | (simp; done) | (simp [*]; done)), H', ⟨Nat.le_refl _⟩, by repeat (first | exact Drawn0.refl _ | apply Drawn0.step)⟩
    case round =>
      clear H'
      try clear c1
      try clear p2
      try clear c3
      try clear c3b0
      try clear c3b1
      try clear c3b2
      obtain ⟨x5_1, rfl, HA, HK1, ⟨m1, rfl⟩⟩ := hrel
      cases gk with
      | zero => exact absurd HA.out (by simp [spec_Same.l0])
      | succ k1 =>
        have H := HA.out
        clear HA
        simp only [spec_Same.l0] at H
        by_cases c4 : x5_1 < (l0.length : Int)
        · rw [if_pos c4] at H
          have c4b0 : decide (x5_1 < (l0.length : Int)) = true := decide_eq_true c4
          clear c4
          by_cases c5 : 0 ≤ x5_1
          · rw [if_pos c5] at H
            have c5b0 : decide (0 ≤ x5_1) = true := decide_eq_true c5
            clear c5
            by_cases c6 : x5_1 < (l1.length : Int)
            · rw [if_pos c6] at H
              have c6b0 : decide (x5_1 < (l1.length : Int)) = true := decide_eq_true c6
              clear c6
              by_cases c7 : (rd l0 x5_1) = (rd l1 x5_1)
              · rw [if_pos c7] at H
                have c7b0 : ((rd l0 x5_1) == (rd l1 x5_1)) = true := beq_iff_eq.mpr c7
                have c7b1 : ((rd l0 x5_1) != (rd l1 x5_1)) = false := bne_eq_false_iff_eq.mpr c7
                clear c7
                have H' := Aside0.mk H
                clear H
                have p107 : 0 ≤ (x5_1 : Int) := of_decide_eq_true (by first | (with_reducible assumption) | assumption)
                have q107 : x5_1 < (l0.length : Int) := of_decide_eq_true (by first | (with_reducible assumption) | assumption)
                obtain ⟨ad107, e107, hx107_0⟩ := Kd.at_int HR0.out x5_1 p107 q107
                cases e107
                replace p107 := eq_true p107
                replace q107 := eq_true q107
                have p108 : 0 ≤ (x5_1 : Int) := of_decide_eq_true (by first | (with_reducible assumption) | assumption)
                have q108 : x5_1 < (l1.length : Int) := of_decide_eq_true (by first | (with_reducible assumption) | assumption)
                obtain ⟨ad108, e108, hx108_0⟩ := Kd.at_int HR1.out x5_1 p108 q108
                cases e108
                replace p108 := eq_true p108
                replace q108 := eq_true q108
                go_wp2
                repeat (go_quiet (fail); try go_wp2)
                go_roundg k1
                case measure => have := HK1.out; omega
                case rel => exact ⟨(wrap64 (x5_1 + 1)), (by first | rfl | (simp; done) | (simp [*]; done)), H', ⟨by have := HK1.out; omega⟩, by repeat (first | exact Drawn0.refl _ | apply Drawn0.step)⟩
              · rw [if_neg c7] at H
                have c7b0 : ((rd l0 x5_1) == (rd l1 x5_1)) = false := beq_eq_false_iff_ne.mpr c7
                have c7b1 : ((rd l0 x5_1) != (rd l1 x5_1)) = true := bne_iff_ne.mpr c7
                obtain rfl := Option.some.inj H
                have p107 : 0 ≤ (x5_1 : Int) := of_decide_eq_true (by first | (with_reducible assumption) | assumption)
                have q107 : x5_1 < (l0.length : Int) := of_decide_eq_true (by first | (with_reducible assumption) | assumption)
                obtain ⟨ad107, e107, hx107_0⟩ := Kd.at_int HR0.out x5_1 p107 q107
                cases e107
                replace p107 := eq_true p107
                replace q107 := eq_true q107
                have p108 : 0 ≤ (x5_1 : Int) := of_decide_eq_true (by first | (with_reducible assumption) | assumption)
                have q108 : x5_1 < (l1.length : Int) := of_decide_eq_true (by first | (with_reducible assumption) | assumption)
                obtain ⟨ad108, e108, hx108_0⟩ := Kd.at_int HR1.out x5_1 p108 q108
                cases e108
                replace p108 := eq_true p108
                replace q108 := eq_true q108
                go_wp2
                repeat (go_quiet (fail); try go_wp2)
                go_ret
                exact ⟨by first | rfl | (simp; done) | (simp [*]; done), by repeat (first | exact Drawn0.refl _ | apply Drawn0.step)⟩
            · rw [if_neg c6] at H
              exact absurd H (by simp)
          · rw [if_neg c5] at H
            exact absurd H (by simp)
        · rw [if_neg c4] at H
          have c4b0 : decide (x5_1 < (l0.length : Int)) = false := decide_eq_false c4
          clear c4
          obtain rfl := Option.some.inj H
          go_wp2
          repeat (go_quiet (fail); try go_wp2)
          go_ret
          exact ⟨by first | rfl | (simp; done) | (simp [*]; done), by repeat (first | exact Drawn0.refl _ | apply Drawn0.step)⟩
  · rw [if_neg c3] at H
    have c3b0 : ((l0.length : Int) == (l1.length : Int)) = false := beq_eq_false_iff_ne.mpr c3
    have c3b1 : ((l0.length : Int) != (l1.length : Int)) = true := bne_iff_ne.mpr c3
    have c3b2 : (l0.length == l1.length) = false := by first | simpa using c3 | (simp at c3 ⊢; omega)
    obtain rfl := Option.some.inj H
    go_enter Try.func18, Try.ntmps18
    go_wp2
    repeat (go_quiet (fail); try go_wp2)
    go_ret
    exact ⟨by first | rfl | (simp; done) | (simp [*]; done), by repeat (first | exact Drawn0.refl _ | apply Drawn0.step)⟩

/-! ### laws_treeSame: function 34 -/
def laws_treeSame.f (k : Nat) (a0_0 : Int) (a0_1 : Bool) (l0_2 : List Int) (l0_3 : List Int) (a1_0 : Int) (a1_1 : Bool) (l1_2 : List Int) (l1_3 : List Int) : Option (Bool) := if a0_0 = a1_0 then (if (a0_1 == a1_1) = true then ((spec_Same.f k l0_2 l1_2).bind fun t111 => (if t111 = true then ((spec_Same.f k l0_3 l1_3).bind fun t112 => (some t112)) else (some false))) else (some false)) else (some false)
theorem laws_treeSame.mono : ∀ a0 a1 a2 a3 a4 a5 a6 a7 k, LeO (laws_treeSame.f k a0 a1 a2 a3 a4 a5 a6 a7) (laws_treeSame.f (k + 1) a0 a1 a2 a3 a4 a5 a6 a7) := by
  intro a0 a1 a2 a3 a4 a5 a6 a7 k
  unfold laws_treeSame.f
  repeat' first
      | (with_reducible exact spec_Same.mono _ _ _)
      | (with_reducible exact LeO.refl _)
      | (with_reducible exact LeO.none _)
      | (with_reducible refine LeO.ite ?_ ?_)
      | (with_reducible refine LeO.bind ?_ (fun _ => ?_))
      | exact spec_Same.mono _ _ _
      | exact LeO.none _
      | refine LeO.ite ?_ ?_
      | refine LeO.bind ?_ (fun _ => ?_)
set_option maxHeartbeats 8000000 in
set_option maxRecDepth 100000 in
theorem laws_treeSame.calls (k : Nat) (a0_0 : Int) (a0_1 : Bool) (A0_2 : Option Addr) (c0_2 : Nat) (l0_2 : List Int) (A0_3 : Option Addr) (c0_3 : Nat) (l0_3 : List Int) (a1_0 : Int) (a1_1 : Bool) (A1_2 : Option Addr) (c1_2 : Nat) (l1_2 : List Int) (A1_3 : Option Addr) (c1_3 : Nat) (l1_3 : List Int) (r : Bool) (w : World) (hr0_2 : Kd.C (Kd.int .i64) w A0_2 l0_2.length l0_2) (hc0_2 : l0_2.length ≤ c0_2) (hr0_3 : Kd.C (Kd.int .i64) w A0_3 l0_3.length l0_3) (hc0_3 : l0_3.length ≤ c0_3) (hr1_2 : Kd.C (Kd.int .i64) w A1_2 l1_2.length l1_2) (hc1_2 : l1_2.length ≤ c1_2) (hr1_3 : Kd.C (Kd.int .i64) w A1_3 l1_3.length l1_3) (hc1_3 : l1_3.length ≤ c1_3) (h : laws_treeSame.f k a0_0 a0_1 l0_2 l0_3 a1_0 a1_1 l1_2 l1_3 = some r) :
    Calls Try.prog 34 #[.agg #[.int .i64 a0_0, .bool a0_1, .slice A0_2 l0_2.length c0_2, .slice A0_3 l0_3.length c0_3], .agg #[.int .i64 a1_0, .bool a1_1, .slice A1_2 l1_2.length c1_2, .slice A1_3 l1_3.length c1_3]] w fun e w' => e = .returned (.bool r) ∧ Below w.heap.size w w' := by
  have hu46 := Try.underlying46
  have HR0_2 := Aside0.mk hr0_2
  have HC0_2 := Aside0.mk hc0_2
  clear hr0_2 hc0_2
  have HR0_3 := Aside0.mk hr0_3
  have HC0_3 := Aside0.mk hc0_3
  clear hr0_3 hc0_3
  have HR1_2 := Aside0.mk hr1_2
  have HC1_2 := Aside0.mk hc1_2
  clear hr1_2 hc1_2
  have HR1_3 := Aside0.mk hr1_3
  have HC1_3 := Aside0.mk hc1_3
  clear hr1_3 hc1_3
  have HB := Aside0.mk (Below.refl w.heap.size w)
  have H : (if a0_0 = a1_0 then (if (a0_1 == a1_1) = true then ((spec_Same.f k l0_2 l1_2).bind fun t111 => (if t111 = true then ((spec_Same.f k l0_3 l1_3).bind fun t112 => (some t112)) else (some false))) else (some false)) else (some false)) = some r := h
  clear h
  by_cases c3 : a0_0 = a1_0
  · rw [if_pos c3] at H
    have c3b0 : (a0_0 == a1_0) = true := beq_iff_eq.mpr c3
    have c3b1 : (a0_0 != a1_0) = false := bne_eq_false_iff_eq.mpr c3
    clear c3
    by_cases c4 : (a0_1 == a1_1) = true
    · rw [if_pos c4] at H
      have c4b0 : (a0_1 == a1_1) = true := c4
      (try (have c4b1 : decide (a0_1 = a1_1) = true := by simpa using c4))
      (try (have c4b2 : (a0_1 == a1_1) = true := by simpa using c4))
      clear c4
      replace H := Option.bind_eq_some_iff.mp H
      obtain ⟨t111, A50, H⟩ := H
      replace H : (if t111 = true then ((spec_Same.f k l0_3 l1_3).bind fun t112 => (some t112)) else (some false)) = some r := H
      have A5 := Aside0.mk A50
      clear A50
      by_cases c6 : t111 = true
      · subst c6
        have H1 : ((spec_Same.f k l0_3 l1_3).bind fun t112 => (some t112)) = some r := by rw [if_pos rfl] at H; exact H
        clear H
        have H := H1
        clear H1
        replace H := Option.bind_eq_some_iff.mp H
        obtain ⟨t112, A70, H⟩ := H
        replace H : (some t112) = some r := H
        have A7 := Aside0.mk A70
        clear A70
        obtain rfl := Option.some.inj H
        go_enter Try.func34, Try.ntmps34
        go_wp2_with (first | ((with_reducible refine gate_dst (N := 2) rfl ?_); refine box_event ?hg (N := 2) ?hd (cs := #[.int .i64 a0_0, .bool a0_1, .slice A0_2 l0_2.length c0_2, .slice A0_3 l0_3.length c0_3]) (t := 46) ?hr ?_; (case hd => rfl); (case hg => rfl); (case hr => first | (go_simp; done) | (go_simp; rfl)); intro gb109 hg w8 hbox hb; have n0_ := Aside0.mk (below_step (by repeat (first | (with_reducible first | exact HB.out | apply below_alloc | apply pw_below_drewN | apply below_drew1) | exact HB.out)) hb); have n1_ := Aside0.mk (hbox); have n2_ := Aside0.mk ((by rw [hg]; exact (below_size (by repeat (first | (with_reducible first | exact HB.out | apply below_alloc | apply pw_below_drewN | apply below_drew1) | exact HB.out))) : w.heap.size ≤ gb109)); have n3_ := Aside0.mk ((by rw [hg]; exact (below_size (by repeat (first | (with_reducible first | exact HB.out | apply below_alloc | apply pw_below_drewN | apply below_drew1) | exact HB.out))) : w.heap.size ≤ gb109)); clear HB; have HB := n0_; have BK109 := n1_; have GW109 := n2_; have GE109 := n3_; clear n0_ n1_ n2_ n3_; clear hb hbox hg) | ((with_reducible refine gate_dst (N := 3) rfl ?_); refine box_event ?hg (N := 3) ?hd (cs := #[.int .i64 a1_0, .bool a1_1, .slice A1_2 l1_2.length c1_2, .slice A1_3 l1_3.length c1_3]) (t := 46) ?hr ?_; (case hd => rfl); (case hg => rfl); (case hr => first | (go_simp; done) | (go_simp; rfl)); intro gb110 hg w9 hbox hb; have n0_ := Aside0.mk (blk_below (g := gb109) (o := .cells #[.int .i64 a0_0, .bool a0_1, .slice A0_2 l0_2.length c0_2, .slice A0_3 l0_3.length c0_3] 46 (0, 0)) (by (with_reducible repeat (first | refine blk_drewN ?_ _ | refine blk_drew ?_ | refine blk_alloc ?_ _)); exact BK109.out) hb); have n1_ := Aside0.mk (below_step (by repeat (first | (with_reducible first | exact HB.out | apply below_alloc | apply pw_below_drewN | apply below_drew1 | refine below_set ?_ GE109.out) | exact HB.out)) hb); have n2_ := Aside0.mk (hbox); have n3_ := Aside0.mk ((by rw [hg]; exact (below_size (by repeat (first | (with_reducible first | exact HB.out | apply below_alloc | apply pw_below_drewN | apply below_drew1 | refine below_set ?_ GE109.out) | exact HB.out))) : w.heap.size ≤ gb110)); have n4_ := Aside0.mk ((by rw [hg]; exact (below_size (by repeat (first | (with_reducible first | exact HB.out | apply below_alloc | apply pw_below_drewN | apply below_drew1 | refine below_set ?_ GE109.out) | exact HB.out))) : w.heap.size ≤ gb110)); have n5_ := Aside0.mk ((by rw [hg]; exact Nat.ne_of_lt (blk_lt (g := gb109) (o := .cells #[.int .i64 a0_0, .bool a0_1, .slice A0_2 l0_2.length c0_2, .slice A0_3 l0_3.length c0_3] 46 (0, 0)) (by (with_reducible repeat (first | refine blk_drewN ?_ _ | refine blk_drew ?_ | refine blk_alloc ?_ _)); exact BK109.out)) : gb109 ≠ gb110)); have n6_ := Aside0.mk ((by rw [hg]; exact Nat.ne_of_gt (blk_lt (g := gb109) (o := .cells #[.int .i64 a0_0, .bool a0_1, .slice A0_2 l0_2.length c0_2, .slice A0_3 l0_3.length c0_3] 46 (0, 0)) (by (with_reducible repeat (first | refine blk_drewN ?_ _ | refine blk_drew ?_ | refine blk_alloc ?_ _)); exact BK109.out)) : gb110 ≠ gb109)); clear BK109; clear HB; have BK109 := n0_; have HB := n1_; have BK110 := n2_; have GW110 := n3_; have GE110 := n4_; have NB109_110 := n5_; have NB110_109 := n6_; clear n0_ n1_ n2_ n3_ n4_ n5_ n6_; clear hb hbox hg; have hnb10 := NB109_110.out; have hnc10 := NB110_109.out; have hcz11_0 : w9.cell? ⟨gb109, 0, none⟩ = some (.int .i64 a0_0) := (blk_cell BK109.out 0).trans rfl; have hcz11_1 : w9.cell? ⟨gb109, 1, none⟩ = some (.bool a0_1) := (blk_cell BK109.out 1).trans rfl; have hcz11_2 : w9.cell? ⟨gb109, 2, none⟩ = some (.slice A0_2 l0_2.length c0_2) := (blk_cell BK109.out 2).trans rfl; have hcz11_3 : w9.cell? ⟨gb109, 3, none⟩ = some (.slice A0_3 l0_3.length c0_3) := (blk_cell BK109.out 3).trans rfl; have hfz11_0 := blk_frozen BK109.out 0; have hfz11_1 := blk_frozen BK109.out 1; have hfz11_2 := blk_frozen BK109.out 2; have hfz11_3 := blk_frozen BK109.out 3; have hcz12_0 : w9.cell? ⟨gb110, 0, none⟩ = some (.int .i64 a1_0) := (blk_cell BK110.out 0).trans rfl; have hcz12_1 : w9.cell? ⟨gb110, 1, none⟩ = some (.bool a1_1) := (blk_cell BK110.out 1).trans rfl; have hcz12_2 : w9.cell? ⟨gb110, 2, none⟩ = some (.slice A1_2 l1_2.length c1_2) := (blk_cell BK110.out 2).trans rfl; have hcz12_3 : w9.cell? ⟨gb110, 3, none⟩ = some (.slice A1_3 l1_3.length c1_3) := (blk_cell BK110.out 3).trans rfl; have hfz12_0 := blk_frozen BK110.out 0; have hfz12_1 := blk_frozen BK110.out 1; have hfz12_2 := blk_frozen BK110.out 2; have hfz12_3 := blk_frozen BK110.out 3) | (go_at_call 18; (with_reducible refine (spec_Same.calls k _ _ l0_2 _ _ l1_2 true _ ?side1 ?side2 ?side3 ?side4 A5.out).mono ?_); (case side1 => repeat (first | exact (Kd.C_below HR0_2.out HB.out) | (with_reducible refine Kd.C_alloc ?_ _) | (with_reducible refine Kd.C_drewN ?_ _) | (with_reducible refine Kd.C_drew ?_))); (case side2 => exact HC0_2.out); (case side3 => repeat (first | exact (Kd.C_below HR1_2.out HB.out) | (with_reducible refine Kd.C_alloc ?_ _) | (with_reducible refine Kd.C_drewN ?_ _) | (with_reducible refine Kd.C_drew ?_))); (case side4 => exact HC1_2.out); rintro e w' ⟨rfl, ⟨nd, rfl⟩⟩) | (go_at_call 18; (with_reducible refine (spec_Same.calls k _ _ l0_3 _ _ l1_3 t112 _ ?side1 ?side2 ?side3 ?side4 A7.out).mono ?_); (case side1 => repeat (first | exact (Kd.C_below HR0_3.out (by repeat (first | (with_reducible first | exact HB.out | apply below_alloc | apply pw_below_drewN | apply below_drew1 | refine below_set ?_ GE109.out | refine below_set ?_ GE110.out) | exact HB.out))) | (with_reducible refine Kd.C_alloc ?_ _) | (with_reducible refine Kd.C_drewN ?_ _) | (with_reducible refine Kd.C_drew ?_))); (case side2 => exact HC0_3.out); (case side3 => repeat (first | exact (Kd.C_below HR1_3.out (by repeat (first | (with_reducible first | exact HB.out | apply below_alloc | apply pw_below_drewN | apply below_drew1 | refine below_set ?_ GE109.out | refine below_set ?_ GE110.out) | exact HB.out))) | (with_reducible refine Kd.C_alloc ?_ _) | (with_reducible refine Kd.C_drewN ?_ _) | (with_reducible refine Kd.C_drew ?_))); (case side4 => exact HC1_3.out); rintro e w' ⟨rfl, ⟨nd, rfl⟩⟩))
        go_ret
        exact ⟨by first | rfl | (simp [errW_none, errW_some] <;> rfl) | (simp [*, errW_none, errW_some] <;> rfl), by repeat (first | (with_reducible first | exact HB.out | apply below_alloc | apply pw_below_drewN | apply below_drew1 | refine below_set ?_ GE109.out | refine below_set ?_ GE110.out) | exact HB.out)⟩
      · replace c6 := Bool.eq_false_iff.mpr c6
        subst c6
        have H1 : (some false) = some r := by rw [if_neg (show ¬ (false = true) by decide)] at H; exact H
        clear H
        have H := H1
        clear H1
        obtain rfl := Option.some.inj H
        go_enter Try.func34, Try.ntmps34
        go_wp2_with (first | ((with_reducible refine gate_dst (N := 2) rfl ?_); refine box_event ?hg (N := 2) ?hd (cs := #[.int .i64 a0_0, .bool a0_1, .slice A0_2 l0_2.length c0_2, .slice A0_3 l0_3.length c0_3]) (t := 46) ?hr ?_; (case hd => rfl); (case hg => rfl); (case hr => first | (go_simp; done) | (go_simp; rfl)); intro gb109 hg w13 hbox hb; have n0_ := Aside0.mk (below_step (by repeat (first | (with_reducible first | exact HB.out | apply below_alloc | apply pw_below_drewN | apply below_drew1) | exact HB.out)) hb); have n1_ := Aside0.mk (hbox); have n2_ := Aside0.mk ((by rw [hg]; exact (below_size (by repeat (first | (with_reducible first | exact HB.out | apply below_alloc | apply pw_below_drewN | apply below_drew1) | exact HB.out))) : w.heap.size ≤ gb109)); have n3_ := Aside0.mk ((by rw [hg]; exact (below_size (by repeat (first | (with_reducible first | exact HB.out | apply below_alloc | apply pw_below_drewN | apply below_drew1) | exact HB.out))) : w.heap.size ≤ gb109)); clear HB; have HB := n0_; have BK109 := n1_; have GW109 := n2_; have GE109 := n3_; clear n0_ n1_ n2_ n3_; clear hb hbox hg) | ((with_reducible refine gate_dst (N := 3) rfl ?_); refine box_event ?hg (N := 3) ?hd (cs := #[.int .i64 a1_0, .bool a1_1, .slice A1_2 l1_2.length c1_2, .slice A1_3 l1_3.length c1_3]) (t := 46) ?hr ?_; (case hd => rfl); (case hg => rfl); (case hr => first | (go_simp; done) | (go_simp; rfl)); intro gb110 hg w14 hbox hb; have n0_ := Aside0.mk (blk_below (g := gb109) (o := .cells #[.int .i64 a0_0, .bool a0_1, .slice A0_2 l0_2.length c0_2, .slice A0_3 l0_3.length c0_3] 46 (0, 0)) (by (with_reducible repeat (first | refine blk_drewN ?_ _ | refine blk_drew ?_ | refine blk_alloc ?_ _)); exact BK109.out) hb); have n1_ := Aside0.mk (below_step (by repeat (first | (with_reducible first | exact HB.out | apply below_alloc | apply pw_below_drewN | apply below_drew1 | refine below_set ?_ GE109.out) | exact HB.out)) hb); have n2_ := Aside0.mk (hbox); have n3_ := Aside0.mk ((by rw [hg]; exact (below_size (by repeat (first | (with_reducible first | exact HB.out | apply below_alloc | apply pw_below_drewN | apply below_drew1 | refine below_set ?_ GE109.out) | exact HB.out))) : w.heap.size ≤ gb110)); have n4_ := Aside0.mk ((by rw [hg]; exact (below_size (by repeat (first | (with_reducible first | exact HB.out | apply below_alloc | apply pw_below_drewN | apply below_drew1 | refine below_set ?_ GE109.out) | exact HB.out))) : w.heap.size ≤ gb110)); have n5_ := Aside0.mk ((by rw [hg]; exact Nat.ne_of_lt (blk_lt (g := gb109) (o := .cells #[.int .i64 a0_0, .bool a0_1, .slice A0_2 l0_2.length c0_2, .slice A0_3 l0_3.length c0_3] 46 (0, 0)) (by (with_reducible repeat (first | refine blk_drewN ?_ _ | refine blk_drew ?_ | refine blk_alloc ?_ _)); exact BK109.out)) : gb109 ≠ gb110)); have n6_ := Aside0.mk ((by rw [hg]; exact Nat.ne_of_gt (blk_lt (g := gb109) (o := .cells #[.int .i64 a0_0, .bool a0_1, .slice A0_2 l0_2.length c0_2, .slice A0_3 l0_3.length c0_3] 46 (0, 0)) (by (with_reducible repeat (first | refine blk_drewN ?_ _ | refine blk_drew ?_ | refine blk_alloc ?_ _)); exact BK109.out)) : gb110 ≠ gb109)); clear BK109; clear HB; have BK109 := n0_; have HB := n1_; have BK110 := n2_; have GW110 := n3_; have GE110 := n4_; have NB109_110 := n5_; have NB110_109 := n6_; clear n0_ n1_ n2_ n3_ n4_ n5_ n6_; clear hb hbox hg; have hnb15 := NB109_110.out; have hnc15 := NB110_109.out; have hcz16_0 : w14.cell? ⟨gb109, 0, none⟩ = some (.int .i64 a0_0) := (blk_cell BK109.out 0).trans rfl; have hcz16_1 : w14.cell? ⟨gb109, 1, none⟩ = some (.bool a0_1) := (blk_cell BK109.out 1).trans rfl; have hcz16_2 : w14.cell? ⟨gb109, 2, none⟩ = some (.slice A0_2 l0_2.length c0_2) := (blk_cell BK109.out 2).trans rfl; have hcz16_3 : w14.cell? ⟨gb109, 3, none⟩ = some (.slice A0_3 l0_3.length c0_3) := (blk_cell BK109.out 3).trans rfl; have hfz16_0 := blk_frozen BK109.out 0; have hfz16_1 := blk_frozen BK109.out 1; have hfz16_2 := blk_frozen BK109.out 2; have hfz16_3 := blk_frozen BK109.out 3; have hcz17_0 : w14.cell? ⟨gb110, 0, none⟩ = some (.int .i64 a1_0) := (blk_cell BK110.out 0).trans rfl; have hcz17_1 : w14.cell? ⟨gb110, 1, none⟩ = some (.bool a1_1) := (blk_cell BK110.out 1).trans rfl; have hcz17_2 : w14.cell? ⟨gb110, 2, none⟩ = some (.slice A1_2 l1_2.length c1_2) := (blk_cell BK110.out 2).trans rfl; have hcz17_3 : w14.cell? ⟨gb110, 3, none⟩ = some (.slice A1_3 l1_3.length c1_3) := (blk_cell BK110.out 3).trans rfl; have hfz17_0 := blk_frozen BK110.out 0; have hfz17_1 := blk_frozen BK110.out 1; have hfz17_2 := blk_frozen BK110.out 2; have hfz17_3 := blk_frozen BK110.out 3) | (go_at_call 18; (with_reducible refine (spec_Same.calls k _ _ l0_2 _ _ l1_2 false _ ?side1 ?side2 ?side3 ?side4 A5.out).mono ?_); (case side1 => repeat (first | exact (Kd.C_below HR0_2.out HB.out) | (with_reducible refine Kd.C_alloc ?_ _) | (with_reducible refine Kd.C_drewN ?_ _) | (with_reducible refine Kd.C_drew ?_))); (case side2 => exact HC0_2.out); (case side3 => repeat (first | exact (Kd.C_below HR1_2.out HB.out) | (with_reducible refine Kd.C_alloc ?_ _) | (with_reducible refine Kd.C_drewN ?_ _) | (with_reducible refine Kd.C_drew ?_))); (case side4 => exact HC1_2.out); rintro e w' ⟨rfl, ⟨nd, rfl⟩⟩))
        go_ret
        exact ⟨by first | rfl | (simp [errW_none, errW_some] <;> rfl) | (simp [*, errW_none, errW_some] <;> rfl), by repeat (first | (with_reducible first | exact HB.out | apply below_alloc | apply pw_below_drewN | apply below_drew1 | refine below_set ?_ GE109.out | refine below_set ?_ GE110.out) | exact HB.out)⟩
    · rw [if_neg c4] at H
      have c4b0 : (a0_1 == a1_1) = false := by simpa using c4
      (try (have c4b1 : decide (a0_1 = a1_1) = false := by simpa using c4))
      (try (have c4b2 : (a0_1 == a1_1) = false := by simpa using c4))
      (try (have c4b3 : ¬ (a0_1 = a1_1) := by simpa using c4))
      clear c4
      obtain rfl := Option.some.inj H
      go_enter Try.func34, Try.ntmps34
      go_wp2_with (first | ((with_reducible refine gate_dst (N := 2) rfl ?_); refine box_event ?hg (N := 2) ?hd (cs := #[.int .i64 a0_0, .bool a0_1, .slice A0_2 l0_2.length c0_2, .slice A0_3 l0_3.length c0_3]) (t := 46) ?hr ?_; (case hd => rfl); (case hg => rfl); (case hr => first | (go_simp; done) | (go_simp; rfl)); intro gb109 hg w18 hbox hb; have n0_ := Aside0.mk (below_step (by repeat (first | (with_reducible first | exact HB.out | apply below_alloc | apply pw_below_drewN | apply below_drew1) | exact HB.out)) hb); have n1_ := Aside0.mk (hbox); have n2_ := Aside0.mk ((by rw [hg]; exact (below_size (by repeat (first | (with_reducible first | exact HB.out | apply below_alloc | apply pw_below_drewN | apply below_drew1) | exact HB.out))) : w.heap.size ≤ gb109)); have n3_ := Aside0.mk ((by rw [hg]; exact (below_size (by repeat (first | (with_reducible first | exact HB.out | apply below_alloc | apply pw_below_drewN | apply below_drew1) | exact HB.out))) : w.heap.size ≤ gb109)); clear HB; have HB := n0_; have BK109 := n1_; have GW109 := n2_; have GE109 := n3_; clear n0_ n1_ n2_ n3_; clear hb hbox hg) | ((with_reducible refine gate_dst (N := 3) rfl ?_); refine box_event ?hg (N := 3) ?hd (cs := #[.int .i64 a1_0, .bool a1_1, .slice A1_2 l1_2.length c1_2, .slice A1_3 l1_3.length c1_3]) (t := 46) ?hr ?_; (case hd => rfl); (case hg => rfl); (case hr => first | (go_simp; done) | (go_simp; rfl)); intro gb110 hg w19 hbox hb; have n0_ := Aside0.mk (blk_below (g := gb109) (o := .cells #[.int .i64 a0_0, .bool a0_1, .slice A0_2 l0_2.length c0_2, .slice A0_3 l0_3.length c0_3] 46 (0, 0)) (by (with_reducible repeat (first | refine blk_drewN ?_ _ | refine blk_drew ?_ | refine blk_alloc ?_ _)); exact BK109.out) hb); have n1_ := Aside0.mk (below_step (by repeat (first | (with_reducible first | exact HB.out | apply below_alloc | apply pw_below_drewN | apply below_drew1 | refine below_set ?_ GE109.out) | exact HB.out)) hb); have n2_ := Aside0.mk (hbox); have n3_ := Aside0.mk ((by rw [hg]; exact (below_size (by repeat (first | (with_reducible first | exact HB.out | apply below_alloc | apply pw_below_drewN | apply below_drew1 | refine below_set ?_ GE109.out) | exact HB.out))) : w.heap.size ≤ gb110)); have n4_ := Aside0.mk ((by rw [hg]; exact (below_size (by repeat (first | (with_reducible first | exact HB.out | apply below_alloc | apply pw_below_drewN | apply below_drew1 | refine below_set ?_ GE109.out) | exact HB.out))) : w.heap.size ≤ gb110)); have n5_ := Aside0.mk ((by rw [hg]; exact Nat.ne_of_lt (blk_lt (g := gb109) (o := .cells #[.int .i64 a0_0, .bool a0_1, .slice A0_2 l0_2.length c0_2, .slice A0_3 l0_3.length c0_3] 46 (0, 0)) (by (with_reducible repeat (first | refine blk_drewN ?_ _ | refine blk_drew ?_ | refine blk_alloc ?_ _)); exact BK109.out)) : gb109 ≠ gb110)); have n6_ := Aside0.mk ((by rw [hg]; exact Nat.ne_of_gt (blk_lt (g := gb109) (o := .cells #[.int .i64 a0_0, .bool a0_1, .slice A0_2 l0_2.length c0_2, .slice A0_3 l0_3.length c0_3] 46 (0, 0)) (by (with_reducible repeat (first | refine blk_drewN ?_ _ | refine blk_drew ?_ | refine blk_alloc ?_ _)); exact BK109.out)) : gb110 ≠ gb109)); clear BK109; clear HB; have BK109 := n0_; have HB := n1_; have BK110 := n2_; have GW110 := n3_; have GE110 := n4_; have NB109_110 := n5_; have NB110_109 := n6_; clear n0_ n1_ n2_ n3_ n4_ n5_ n6_; clear hb hbox hg; have hnb20 := NB109_110.out; have hnc20 := NB110_109.out; have hcz21_0 : w19.cell? ⟨gb109, 0, none⟩ = some (.int .i64 a0_0) := (blk_cell BK109.out 0).trans rfl; have hcz21_1 : w19.cell? ⟨gb109, 1, none⟩ = some (.bool a0_1) := (blk_cell BK109.out 1).trans rfl; have hcz21_2 : w19.cell? ⟨gb109, 2, none⟩ = some (.slice A0_2 l0_2.length c0_2) := (blk_cell BK109.out 2).trans rfl; have hcz21_3 : w19.cell? ⟨gb109, 3, none⟩ = some (.slice A0_3 l0_3.length c0_3) := (blk_cell BK109.out 3).trans rfl; have hfz21_0 := blk_frozen BK109.out 0; have hfz21_1 := blk_frozen BK109.out 1; have hfz21_2 := blk_frozen BK109.out 2; have hfz21_3 := blk_frozen BK109.out 3; have hcz22_0 : w19.cell? ⟨gb110, 0, none⟩ = some (.int .i64 a1_0) := (blk_cell BK110.out 0).trans rfl; have hcz22_1 : w19.cell? ⟨gb110, 1, none⟩ = some (.bool a1_1) := (blk_cell BK110.out 1).trans rfl; have hcz22_2 : w19.cell? ⟨gb110, 2, none⟩ = some (.slice A1_2 l1_2.length c1_2) := (blk_cell BK110.out 2).trans rfl; have hcz22_3 : w19.cell? ⟨gb110, 3, none⟩ = some (.slice A1_3 l1_3.length c1_3) := (blk_cell BK110.out 3).trans rfl; have hfz22_0 := blk_frozen BK110.out 0; have hfz22_1 := blk_frozen BK110.out 1; have hfz22_2 := blk_frozen BK110.out 2; have hfz22_3 := blk_frozen BK110.out 3))
      go_ret
      exact ⟨by first | rfl | (simp [errW_none, errW_some] <;> rfl) | (simp [*, errW_none, errW_some] <;> rfl), by repeat (first | (with_reducible first | exact HB.out | apply below_alloc | apply pw_below_drewN | apply below_drew1 | refine below_set ?_ GE109.out | refine below_set ?_ GE110.out) | exact HB.out)⟩
  · rw [if_neg c3] at H
    have c3b0 : (a0_0 == a1_0) = false := beq_eq_false_iff_ne.mpr c3
    have c3b1 : (a0_0 != a1_0) = true := bne_iff_ne.mpr c3
    obtain rfl := Option.some.inj H
    go_enter Try.func34, Try.ntmps34
    go_wp2_with (first | ((with_reducible refine gate_dst (N := 2) rfl ?_); refine box_event ?hg (N := 2) ?hd (cs := #[.int .i64 a0_0, .bool a0_1, .slice A0_2 l0_2.length c0_2, .slice A0_3 l0_3.length c0_3]) (t := 46) ?hr ?_; (case hd => rfl); (case hg => rfl); (case hr => first | (go_simp; done) | (go_simp; rfl)); intro gb109 hg w23 hbox hb; have n0_ := Aside0.mk (below_step (by repeat (first | (with_reducible first | exact HB.out | apply below_alloc | apply pw_below_drewN | apply below_drew1) | exact HB.out)) hb); have n1_ := Aside0.mk (hbox); have n2_ := Aside0.mk ((by rw [hg]; exact (below_size (by repeat (first | (with_reducible first | exact HB.out | apply below_alloc | apply pw_below_drewN | apply below_drew1) | exact HB.out))) : w.heap.size ≤ gb109)); have n3_ := Aside0.mk ((by rw [hg]; exact (below_size (by repeat (first | (with_reducible first | exact HB.out | apply below_alloc | apply pw_below_drewN | apply below_drew1) | exact HB.out))) : w.heap.size ≤ gb109)); clear HB; have HB := n0_; have BK109 := n1_; have GW109 := n2_; have GE109 := n3_; clear n0_ n1_ n2_ n3_; clear hb hbox hg) | ((with_reducible refine gate_dst (N := 3) rfl ?_); refine box_event ?hg (N := 3) ?hd (cs := #[.int .i64 a1_0, .bool a1_1, .slice A1_2 l1_2.length c1_2, .slice A1_3 l1_3.length c1_3]) (t := 46) ?hr ?_; (case hd => rfl); (case hg => rfl); (case hr => first | (go_simp; done) | (go_simp; rfl)); intro gb110 hg w24 hbox hb; have n0_ := Aside0.mk (blk_below (g := gb109) (o := .cells #[.int .i64 a0_0, .bool a0_1, .slice A0_2 l0_2.length c0_2, .slice A0_3 l0_3.length c0_3] 46 (0, 0)) (by (with_reducible repeat (first | refine blk_drewN ?_ _ | refine blk_drew ?_ | refine blk_alloc ?_ _)); exact BK109.out) hb); have n1_ := Aside0.mk (below_step (by repeat (first | (with_reducible first | exact HB.out | apply below_alloc | apply pw_below_drewN | apply below_drew1 | refine below_set ?_ GE109.out) | exact HB.out)) hb); have n2_ := Aside0.mk (hbox); have n3_ := Aside0.mk ((by rw [hg]; exact (below_size (by repeat (first | (with_reducible first | exact HB.out | apply below_alloc | apply pw_below_drewN | apply below_drew1 | refine below_set ?_ GE109.out) | exact HB.out))) : w.heap.size ≤ gb110)); have n4_ := Aside0.mk ((by rw [hg]; exact (below_size (by repeat (first | (with_reducible first | exact HB.out | apply below_alloc | apply pw_below_drewN | apply below_drew1 | refine below_set ?_ GE109.out) | exact HB.out))) : w.heap.size ≤ gb110)); have n5_ := Aside0.mk ((by rw [hg]; exact Nat.ne_of_lt (blk_lt (g := gb109) (o := .cells #[.int .i64 a0_0, .bool a0_1, .slice A0_2 l0_2.length c0_2, .slice A0_3 l0_3.length c0_3] 46 (0, 0)) (by (with_reducible repeat (first | refine blk_drewN ?_ _ | refine blk_drew ?_ | refine blk_alloc ?_ _)); exact BK109.out)) : gb109 ≠ gb110)); have n6_ := Aside0.mk ((by rw [hg]; exact Nat.ne_of_gt (blk_lt (g := gb109) (o := .cells #[.int .i64 a0_0, .bool a0_1, .slice A0_2 l0_2.length c0_2, .slice A0_3 l0_3.length c0_3] 46 (0, 0)) (by (with_reducible repeat (first | refine blk_drewN ?_ _ | refine blk_drew ?_ | refine blk_alloc ?_ _)); exact BK109.out)) : gb110 ≠ gb109)); clear BK109; clear HB; have BK109 := n0_; have HB := n1_; have BK110 := n2_; have GW110 := n3_; have GE110 := n4_; have NB109_110 := n5_; have NB110_109 := n6_; clear n0_ n1_ n2_ n3_ n4_ n5_ n6_; clear hb hbox hg; have hnb25 := NB109_110.out; have hnc25 := NB110_109.out; have hcz26_0 : w24.cell? ⟨gb109, 0, none⟩ = some (.int .i64 a0_0) := (blk_cell BK109.out 0).trans rfl; have hcz26_1 : w24.cell? ⟨gb109, 1, none⟩ = some (.bool a0_1) := (blk_cell BK109.out 1).trans rfl; have hcz26_2 : w24.cell? ⟨gb109, 2, none⟩ = some (.slice A0_2 l0_2.length c0_2) := (blk_cell BK109.out 2).trans rfl; have hcz26_3 : w24.cell? ⟨gb109, 3, none⟩ = some (.slice A0_3 l0_3.length c0_3) := (blk_cell BK109.out 3).trans rfl; have hfz26_0 := blk_frozen BK109.out 0; have hfz26_1 := blk_frozen BK109.out 1; have hfz26_2 := blk_frozen BK109.out 2; have hfz26_3 := blk_frozen BK109.out 3; have hcz27_0 : w24.cell? ⟨gb110, 0, none⟩ = some (.int .i64 a1_0) := (blk_cell BK110.out 0).trans rfl; have hcz27_1 : w24.cell? ⟨gb110, 1, none⟩ = some (.bool a1_1) := (blk_cell BK110.out 1).trans rfl; have hcz27_2 : w24.cell? ⟨gb110, 2, none⟩ = some (.slice A1_2 l1_2.length c1_2) := (blk_cell BK110.out 2).trans rfl; have hcz27_3 : w24.cell? ⟨gb110, 3, none⟩ = some (.slice A1_3 l1_3.length c1_3) := (blk_cell BK110.out 3).trans rfl; have hfz27_0 := blk_frozen BK110.out 0; have hfz27_1 := blk_frozen BK110.out 1; have hfz27_2 := blk_frozen BK110.out 2; have hfz27_3 := blk_frozen BK110.out 3))
    go_ret
    exact ⟨by first | rfl | (simp [errW_none, errW_some] <;> rfl) | (simp [*, errW_none, errW_some] <;> rfl), by repeat (first | (with_reducible first | exact HB.out | apply below_alloc | apply pw_below_drewN | apply below_drew1 | refine below_set ?_ GE109.out | refine below_set ?_ GE110.out) | exact HB.out)⟩

end Go.Proofs.Ytjlcebgfknfelaa.QFnTreesBegin
