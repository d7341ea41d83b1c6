/- The machine's side of a law, as the kit's print writes it; of the functions that the print doesn't cover this session's own contracts stand in it: no condition. -/
import Derived.Test.YtjlcebgfknfelaaAvlI
import Derived.Test.YtjlcebgfknfelaaBtG
import Derived.Test.YtjlcebgfknfelaaQFnTreesUndox0
namespace Go.Proofs.Ytjlcebgfknfelaa.QFnTreesUndo
open Go.RowKit Go.Proofs.YtjlcebgfknfelaaW.PrintWords Go.Proofs.YtjlcebgfknfelaaW.PrintLast Go.Proofs.YtjlcebgfknfelaaW.PrintMore
attribute [local go_sem] max2_int min2_int max_two min_two max_three min_three max_four min_four   -- for this text's walks alone
set_option linter.unusedVariables false
set_option linter.unusedSimpArgs false


/-! ### spec_Same: function 18 -/
def spec_Same.l0 : Nat → List Int → List Int → Int → Option (Bool)
 | 0, _, _, _ => none
 | k + 1, x0, x1, x5 => if x5 < (x0.length : Int) then (if 0 ≤ x5 then (if x5 < (x1.length : Int) then (if (rd x0 x5) = (rd x1 x5) then (spec_Same.l0 k x0 x1 (wrap64 (x5 + 1))) else (some false)) else (none)) else (none)) else (some true)
def spec_Same.f (k : Nat) (l0 : List Int) (l1 : List Int) : Option (Bool) := if (l0.length : Int) = (l1.length : Int) then (spec_Same.l0 k l0 l1 0) else (some false)
theorem spec_Same.mono_l : ∀ k, (∀ y0 y1 y2, LeO (spec_Same.l0 k y0 y1 y2) (spec_Same.l0 (k + 1) y0 y1 y2))
 | 0 => fun _ _ _ r h => by simp [spec_Same.l0] at h
 | k + 1 => by
  have ih0 := spec_Same.mono_l k
  · intro y0 y1 y2
    unfold spec_Same.l0
    repeat' first
    | (with_reducible exact ih0 _ _ _)
    | (with_reducible exact LeO.refl _)
    | (with_reducible exact LeO.none _)
    | (with_reducible refine LeO.ite ?_ ?_)
    | (with_reducible refine LeO.bind ?_ (fun _ => ?_))
    | exact ih0 _ _ _
    | exact LeO.none _
    | refine LeO.ite ?_ ?_
    | refine LeO.bind ?_ (fun _ => ?_)
theorem spec_Same.mono : ∀ a0 a1 k, LeO (spec_Same.f k a0 a1) (spec_Same.f (k + 1) a0 a1) := by
 intro a0 a1 k
 have ih0 := spec_Same.mono_l k
 unfold spec_Same.f
 repeat' first
  | (with_reducible exact ih0 _ _ _)
  | (with_reducible exact LeO.refl _)
  | (with_reducible exact LeO.none _)
  | (with_reducible refine LeO.ite ?_ ?_)
  | (with_reducible refine LeO.bind ?_ (fun _ => ?_))
  | exact ih0 _ _ _
  | exact LeO.none _
  | refine LeO.ite ?_ ?_
  | refine LeO.bind ?_ (fun _ => ?_)
set_option maxHeartbeats 8000000 in
set_option maxRecDepth 100000 in
theorem spec_Same.calls (k : Nat) (A0 : Option Addr) (c0 : Nat) (l0 : List Int) (A1 : Option Addr) (c1 : Nat) (l1 : List Int) (r : Bool) (w : World) (hr0 : Kd.C (Kd.int .i64) w A0 l0.length l0) (hc0 : l0.length ≤ c0) (hr1 : Kd.C (Kd.int .i64) w A1 l1.length l1) (hc1 : l1.length ≤ c1) (h : spec_Same.f k l0 l1 = some r) :
 Calls Try.prog 18 #[.slice A0 l0.length c0, .slice A1 l1.length c1] w fun e w' => e = .returned (.bool r) ∧ Drawn0 w w' := by
 have HR0 := A0_ hr0
 have HC0 := A0_ hc0
 clear hr0 hc0
 have HR1 := A0_ hr1
 have HC1 := A0_ hc1
 clear hr1 hc1
 have H : (if (l0.length : Int) = (l1.length : Int) then (spec_Same.l0 k l0 l1 0) else (some false)) = some r := h
 clear h
 by_cases c3 : (l0.length : Int) = (l1.length : Int)
 · rw [if_pos c3] at H
   have c3b0 : ((l0.length : Int) == (l1.length : Int)) = true := beq_iff_eq.mpr c3; have c3b1 : ((l0.length : Int) != (l1.length : Int)) = false := bne_eq_false_iff_eq.mpr c3; (have c3b2 : (l0.length == l1.length) = true := by first | simpa using c3 | (simp at c3 ⊢; omega)); clear c3; have H' := A0_ H; clear H; (go_enter Try.func18, Try.ntmps18); (go_wp2); (repeat (go_quiet (fail); try go_wp2)); (go_loopg [5] k (fun kq v5 w' => ∃ (x5_1 : Int), v5 = .int .i64 x5_1 ∧ Aside0 (spec_Same.l0 kq l0 l1 x5_1 = some r) ∧ Aside0 (kq ≤ k) ∧ Drawn0 w w'))
   case atStart => exact ⟨(0), (by first | rfl | (simp; done) | (simp [*]; done)), H', ⟨Nat.le_refl _⟩, by repeat (first | exact Drawn0.refl _ | apply Drawn0.step)⟩
   case round =>
    clear H'; (try clear c1); (try clear p2); (try clear c3); (try clear c3b0); (try clear c3b1); (try clear c3b2); obtain ⟨x5_1, rfl, HA, HK1, ⟨m1, rfl⟩⟩ := hrel
    cases gk with
    | zero => exact absurd HA.out (by simp [spec_Same.l0])
    | succ k1 =>
     have H := HA.out; clear HA; (simp only [spec_Same.l0] at H); (by_cases c4 : x5_1 < (l0.length : Int))
     · rw [if_pos c4] at H
       have c4b0 : decide (x5_1 < (l0.length : Int)) = true := decide_eq_true c4; clear c4; (by_cases c5 : 0 ≤ x5_1)
       · rw [if_pos c5] at H
         have c5b0 : decide (0 ≤ x5_1) = true := decide_eq_true c5; clear c5; (by_cases c6 : x5_1 < (l1.length : Int))
         · rw [if_pos c6] at H
           have c6b0 : decide (x5_1 < (l1.length : Int)) = true := decide_eq_true c6; clear c6; (by_cases c7 : (rd l0 x5_1) = (rd l1 x5_1))
           · rw [if_pos c7] at H
             have c7b0 : ((rd l0 x5_1) == (rd l1 x5_1)) = true := beq_iff_eq.mpr c7; have c7b1 : ((rd l0 x5_1) != (rd l1 x5_1)) = false := bne_eq_false_iff_eq.mpr c7; clear c7; have H' := A0_ H; clear H; have p101 : 0 ≤ (x5_1 : Int) := od_ (by assumption); have q101 : x5_1 < (l0.length : Int) := od_ (by assumption); obtain ⟨ad101, e101, hx101_0⟩ := Kd.at_int HR0.out x5_1 p101 q101; (cases e101); replace p101 := eq_true p101; replace q101 := eq_true q101; have p102 : 0 ≤ (x5_1 : Int) := od_ (by assumption); have q102 : x5_1 < (l1.length : Int) := od_ (by assumption); obtain ⟨ad102, e102, hx102_0⟩ := Kd.at_int HR1.out x5_1 p102 q102; (cases e102); replace p102 := eq_true p102; replace q102 := eq_true q102; (go_wp2); (repeat (go_quiet (fail); try go_wp2)); (go_roundg k1)
             case measure => have := HK1.out; omega
             case rel => exact ⟨(wrap64 (x5_1 + 1)), (by first | rfl | (simp; done) | (simp [*]; done)), H', ⟨by have := HK1.out; omega⟩, by repeat (first | exact Drawn0.refl _ | apply Drawn0.step)⟩
           · rw [if_neg c7] at H
             have c7b0 : ((rd l0 x5_1) == (rd l1 x5_1)) = false := beq_eq_false_iff_ne.mpr c7; have c7b1 : ((rd l0 x5_1) != (rd l1 x5_1)) = true := bne_iff_ne.mpr c7; obtain rfl := Option.some.inj H; have p101 : 0 ≤ (x5_1 : Int) := od_ (by assumption); have q101 : x5_1 < (l0.length : Int) := od_ (by assumption); obtain ⟨ad101, e101, hx101_0⟩ := Kd.at_int HR0.out x5_1 p101 q101; (cases e101); replace p101 := eq_true p101; replace q101 := eq_true q101; have p102 : 0 ≤ (x5_1 : Int) := od_ (by assumption); have q102 : x5_1 < (l1.length : Int) := od_ (by assumption); obtain ⟨ad102, e102, hx102_0⟩ := Kd.at_int HR1.out x5_1 p102 q102; (cases e102); replace p102 := eq_true p102; replace q102 := eq_true q102; (go_wp2); (repeat (go_quiet (fail); try go_wp2)); (go_ret); (exact ⟨by first | rfl | (simp; done) | (simp [*]; done), by repeat (first | exact Drawn0.refl _ | apply Drawn0.step)⟩)
         · rw [if_neg c6] at H
           exact absurd H (by simp)
       · rw [if_neg c5] at H
         exact absurd H (by simp)
     · rw [if_neg c4] at H
       have c4b0 : decide (x5_1 < (l0.length : Int)) = false := decide_eq_false c4; clear c4; obtain rfl := Option.some.inj H; (go_wp2); (repeat (go_quiet (fail); try go_wp2)); (go_ret); (exact ⟨by first | rfl | (simp; done) | (simp [*]; done), by repeat (first | exact Drawn0.refl _ | apply Drawn0.step)⟩)
 · rw [if_neg c3] at H
   have c3b0 : ((l0.length : Int) == (l1.length : Int)) = false := beq_eq_false_iff_ne.mpr c3; have c3b1 : ((l0.length : Int) != (l1.length : Int)) = true := bne_iff_ne.mpr c3; (have c3b2 : (l0.length == l1.length) = false := by first | simpa using c3 | (simp at c3 ⊢; omega)); obtain rfl := Option.some.inj H; (go_enter Try.func18, Try.ntmps18); (go_wp2); (repeat (go_quiet (fail); try go_wp2)); (go_ret); (exact ⟨by first | rfl | (simp; done) | (simp [*]; done), by repeat (first | exact Drawn0.refl _ | apply Drawn0.step)⟩)

-- NOT PRINTED: function 81 (avl_node_int_int_getHeight)

/-! ### zgeneric_Max_int: function 95 -/
def zgeneric_Max_int.f (a0 : Int) (a1 : Int) : Option (Int) := if a0 > a1 then (some a0) else (some a1)
set_option maxHeartbeats 8000000 in
set_option maxRecDepth 100000 in
theorem zgeneric_Max_int.calls (a0 : Int) (a1 : Int) (r : Int) (w : World) (h : zgeneric_Max_int.f a0 a1 = some r) :
 Calls Try.prog 95 #[.int .i64 a0, .int .i64 a1] w fun e w' => e = .returned (.int .i64 r) ∧ Drawn0 w w' := by
 have H : (if a0 > a1 then (some a0) else (some a1)) = some r := h
 clear h
 by_cases c3 : a0 > a1
 · rw [if_pos c3] at H
   have c3b0 : decide (a1 < a0) = true := decide_eq_true c3; clear c3; obtain rfl := Option.some.inj H; (go_enter Try.func95, Try.ntmps95); (go_wp2); (go_ret); (exact ⟨by first | rfl | (simp; done) | (simp [*]; done), by repeat (first | exact Drawn0.refl _ | apply Drawn0.step)⟩)
 · rw [if_neg c3] at H
   have c3b0 : decide (a1 < a0) = false := decide_eq_false c3; clear c3; obtain rfl := Option.some.inj H; (go_enter Try.func95, Try.ntmps95); (go_wp2); (go_ret); (exact ⟨by first | rfl | (simp; done) | (simp [*]; done), by repeat (first | exact Drawn0.refl _ | apply Drawn0.step)⟩)

-- NOT PRINTED: function 80 (avl_node_int_int_recalculateHeight)

-- NOT PRINTED: function 77 (avl_node_int_int_rotateRight)

-- NOT PRINTED: function 78 (avl_node_int_int_rotateLeft)

-- NOT PRINTED: function 58 (avl_node_int_int_rebalanceTree)

-- NOT PRINTED: function 96 (zgeneric_Compare_int)

-- NOT PRINTED: function 83 (avl_node_int_int_add)

-- NOT PRINTED: function 60 (avl_Tree_int_int_Put)

-- NOT PRINTED: function 97 (avl_node_int_int_findSmallest)

-- NOT PRINTED: function 84 (avl_node_int_int_remove)

-- NOT PRINTED: function 61 (avl_Tree_int_int_Remove)

-- NOT PRINTED: function 85 (avl_node_int_int_search)

-- NOT PRINTED: function 62 (avl_Tree_int_int_Get)

-- NOT PRINTED: function 86 (avl_node_int_int_size)

-- NOT PRINTED: function 63 (avl_Tree_int_int_Size)

-- NOT PRINTED: function 87 (avl_node_int_int_each)

-- NOT PRINTED: function 64 (avl_Tree_int_int_Each)

-- NOT PRINTED: function 66 (avl_Tree_int_int_Height)

-- NOT PRINTED: function 45 (impl_avlDo)

-- NOT PRINTED: function 46 (avl_New_int_int)

-- NOT PRINTED: function 47 (impl_less)

/-! ### impl_AvlRun: function 23 -/
def told_of (p : Avl.Told4) : S46 := ⟨p.1, p.2.1, p.2.2.1, p.2.2.2⟩
def impl_AvlRun.f (l0 : List Int) (l1 : List (S66)) : Option (List (S46)) :=
 if l0.length ≤ 2147483647 then (if l1.length ≤ 4294967296 then some ((Avl.toldT l0 .nil (l1.map fun x => (x.f0, x.f1, x.f2))).map told_of) else none) else none
theorem impl_AvlRun.calls (A0 : Option Addr) (c0 : Nat) (l0 : List Int) (A1 : Option Addr) (c1 : Nat) (l1 : List (S66)) (r : List (S46)) (w : World) (hr0 : Kd.C (Kd.int .i64) w A0 l0.length l0) (hc0 : l0.length ≤ c0) (hr1 : Kd.C k66 w A1 l1.length l1) (hc1 : l1.length ≤ c1) (h : impl_AvlRun.f l0 l1 = some r) :
 Calls Try.prog 23 #[.slice A0 l0.length c0, .slice A1 l1.length c1] w fun e w' => ∃ v0_ : Value, e = .returned (v0_) ∧ Kd.S k46 46 w' w.heap.size (fun _ => True) v0_ r ∧ Below w.heap.size w w' := by
 unfold impl_AvlRun.f at h
 by_cases q1 : l0.length ≤ 2147483647
 · rw [if_pos q1] at h
   by_cases q2 : l1.length ≤ 4294967296
   · rw [if_pos q2] at h
     obtain rfl := Option.some.inj h; have hC := Row.C_iso hr1; have hl : (l1.map fun x : S66 => (x.f0, x.f1, x.f2)).length = l1.length := List.length_map ..; (have H := Avl.AvlRun_any A0 c0 l0 A1 c1 (l1.map fun x : S66 => (x.f0, x.f1, x.f2)) w hr0 q1 (by rw [hl]; exact hC) (by rw [hl]; exact q2)); (rw [hl] at H); refine H.mono ?_; (rintro e w' ⟨v, he, hS, hB⟩); refine ⟨v, he, Row.S_iso ?_, hB⟩; (rw [List.map_map, show ((fun x : S46 => (x.f0, x.f1, x.f2, x.f3)) ∘ told_of) = id from rfl, List.map_id]); exact hS
   · rw [if_neg q2] at h; cases h
 · rw [if_neg q1] at h; cases h

/-! ### impl_BtreeRun: function 33 -/
def fnNo (x : Int) : FuncId := if x = 33 then 33 else 23
/-- A run by its number: the function's value that a law holds in a variable. -/
def fnV (x : Int) : Value := .func (.func (fnNo x)) #[] #[]
theorem enters_run (x : Int) (args : Array Value) (w : World) : (callFunc (fnNo x) args).run Try.prog w = .ok (.enter (fnNo x) args) w := by
 unfold fnNo
 split
 · exact enters_ Try.func33 (by kernel_rfl) rfl args w
 · exact enters_ Try.func23 (by kernel_rfl) rfl args w
theorem goesRunL_ {ops : Array Oper} {Q : Exit → Act → World → Prop} {rest : List Oper} {oi : Oper} {a : Act} {w : World} (N : Option Tmp) (hd : oi.dst = N) (hg : oi.guard = none) (x : Int) {c : Operand} {bs : Array Operand} {ts : Array TypeId} (args : Array Value)
 (hop : oi.op = .call { callee := .value c, args := bs, argTypes := ts }) (hc : a.eval c = fnV x) (hargs : bs.map a.eval = args)
 (h : Calls Try.prog (fnNo x) args w fun e w' => ∃ v, e = .returned v ∧ wpList Try.prog ops Q rest (a.put N v) w') : wpList Try.prog ops Q (oi :: rest) a w := by
 refine wpList_plain hg fun K hK => ?_
 have he := enters_run x args w
 have hrun : (execOp a.eval oi).run Try.prog w = .ok (.enter (fnNo x) args) w := by
  (unfold execOp); (simp [hop, resolve, hc, fnV, Deferred.ofValue, invoke, hargs, he])
 unfold Oper.wp
 rw [hrun, Oper.upon_enter]
 refine h.mono fun e w'' hh => ?_
 obtain ⟨v, rfl, hk⟩ := hh
 subst hd
 exact hK _ _ hk
def impl_BtreeRun.f (x : Int) (l0 : List Int) (l1 : List (S66)) : Option (List (S46)) :=
 if l0.length ≤ 2147483647 then (if l1.length ≤ 4294967296 then some ((if x = 33 then Bt.toldT l0 [] (l1.map fun x => (x.f0, x.f1, x.f2)) else Avl.toldT l0 .nil (l1.map fun x => (x.f0, x.f1, x.f2))).map told_of) else none) else none
theorem impl_BtreeRun.calls (x : Int) (A0 : Option Addr) (c0 : Nat) (l0 : List Int) (A1 : Option Addr) (c1 : Nat) (l1 : List (S66)) (r : List (S46)) (w : World) (hr0 : Kd.C (Kd.int .i64) w A0 l0.length l0) (hc0 : l0.length ≤ c0) (hr1 : Kd.C k66 w A1 l1.length l1) (hc1 : l1.length ≤ c1) (h : impl_BtreeRun.f x l0 l1 = some r) :
 Calls Try.prog (fnNo x) #[.slice A0 l0.length c0, .slice A1 l1.length c1] w fun e w' => ∃ v0_ : Value, e = .returned (v0_) ∧ Kd.S k46 46 w' w.heap.size (fun _ => True) v0_ r ∧ Below w.heap.size w w' := by
 unfold impl_BtreeRun.f at h
 by_cases q1 : l0.length ≤ 2147483647
 · rw [if_pos q1] at h
   by_cases q2 : l1.length ≤ 4294967296
   · rw [if_pos q2] at h
     obtain rfl := Option.some.inj h; have hC := Row.C_iso hr1; have hl : (l1.map fun x : S66 => (x.f0, x.f1, x.f2)).length = l1.length := List.length_map ..; have e0 : ((fun x : S46 => (x.f0, x.f1, x.f2, x.f3)) ∘ told_of) = id := rfl; (by_cases q : x = 33)
     · rw [if_pos q, show fnNo x = 33 from if_pos q]
       (have H := Bt.BtreeRun_any A0 c0 l0 A1 c1 (l1.map fun x : S66 => (x.f0, x.f1, x.f2)) w hr0 q1 (by rw [hl]; exact hC) (by rw [hl]; exact q2)); (rw [hl] at H); refine H.mono ?_; (rintro e w' ⟨v, he, hS, hB⟩); refine ⟨v, he, Row.S_iso ?_, hB⟩; (rw [List.map_map, e0, List.map_id]); exact hS
     · rw [if_neg q, show fnNo x = 23 from if_neg q]
       (have H := Avl.AvlRun_any A0 c0 l0 A1 c1 (l1.map fun x : S66 => (x.f0, x.f1, x.f2)) w hr0 q1 (by rw [hl]; exact hC) (by rw [hl]; exact q2)); (rw [hl] at H); refine H.mono ?_; (rintro e w' ⟨v, he, hS, hB⟩); refine ⟨v, he, Row.S_iso ?_, hB⟩; (rw [List.map_map, e0, List.map_id]); exact hS
   · rw [if_neg q2] at h; cases h
 · rw [if_neg q1] at h; cases h


end Go.Proofs.Ytjlcebgfknfelaa.QFnTreesUndo
