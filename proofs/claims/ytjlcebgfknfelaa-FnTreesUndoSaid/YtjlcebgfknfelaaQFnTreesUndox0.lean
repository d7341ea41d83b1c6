/- The machine's side of a law, as the kit's print writes it; of the functions that the print doesn't cover this session's own contracts stand in it: no condition. -/
import Derived.Test.YtjlcebgfknfelaaProg
import Derived.Below
import Derived.Deep.Draws
import Derived.Deep.AppendLies
import Derived.Maps.AppendAt
import Derived.OwnWalk
import Derived.Laws.BytesArg
import Derived.Laws.MakeOwn
import Derived.Laws.OwnMore
import Derived.Deep.OwnRows
import Derived.Tactics
import Derived.Lib.ConvBytes
import Derived.Laws.Slices
import Derived.WalkKit
import Derived.KernelRfl
import Derived.RowKit3
import Derived.Deep.LoopGhost
import Derived.Deep.QuietTactic
import Derived.BigQuiet
import Derived.WideLaws
import Derived.Deep.DeepCutAuto
import Derived.Deep.CutBlock
import Derived.Deep.RegionHeld3
import Derived.Laws.Rows
import Derived.Lib.AppendStr
import Derived.ArgAppend
import Derived.Laws.IdiomCopy
import Derived.OrdersHeld
import Derived.Laws.BitsLemmas
import Derived.RowKit
import Derived.Laws.Cover1
import Derived.Test.YtjlcebgfknfelaaWWords
import Derived.Test.YtjlcebgfknfelaaWLast
import Derived.Test.YtjlcebgfknfelaaWTab
import Derived.Test.YtjlcebgfknfelaaWFour
import Derived.Test.YtjlcebgfknfelaaWQPut
import Derived.Test.YtjlcebgfknfelaaWApart
import Derived.Test.YtjlcebgfknfelaaWArr
import Derived.Test.YtjlcebgfknfelaaWZeros
import Derived.Test.YtjlcebgfknfelaaWFoot
import Derived.Test.YtjlcebgfknfelaaWKept
import Derived.Test.YtjlcebgfknfelaaWShare
import Derived.Test.YtjlcebgfknfelaaWN
import Derived.Test.YtjlcebgfknfelaaWFootNe
import Derived.Test.YtjlcebgfknfelaaWAt
import Derived.Test.YtjlcebgfknfelaaWEqStruct
import Derived.Test.YtjlcebgfknfelaaWRepsOne
import Derived.Test.YtjlcebgfknfelaaWInv
import Derived.Test.YtjlcebgfknfelaaWInvWords
import Derived.Test.YtjlcebgfknfelaaWGuard
import Derived.Test.YtjlcebgfknfelaaWNEv
import Derived.Test.YtjlcebgfknfelaaWMore
namespace Go.Proofs.Ytjlcebgfknfelaa.QFnTreesUndo
open Go.RowKit Go.Proofs.YtjlcebgfknfelaaW.PrintWords Go.Proofs.YtjlcebgfknfelaaW.PrintLast Go.Proofs.YtjlcebgfknfelaaW.PrintMore
attribute [local go_sem] max2_int min2_int max_two min_two max_three min_three max_four min_four   -- for this text's walks alone
set_option linter.unusedVariables false
set_option linter.unusedSimpArgs false



def errW : Option Int → Value
  | none => .nilIface
  | some c => .iface 0 (.int .i64 c)
theorem errW_none : errW none = .nilIface := rfl
theorem errW_some (c : Int) : errW (some c) = .iface 0 (.int .i64 c) := rfl

theorem info46 : (Try.prog.info? 46).map (fun i => (i.zero, i.size, i.bytes)) = some (some (.agg #[(.int .i64 0), (.bool false), (.slice none 0 0), (.slice none 0 0)]), 4, 64) := by kernel_rfl
theorem info66 : (Try.prog.info? 66).map (fun i => (i.zero, i.size, i.bytes)) = some (some (.agg #[(.int .i64 0), (.int .i64 0), (.int .i64 0)]), 3, 24) := by kernel_rfl
-- the values' own types
def rd_L2 (xs : List (List Int)) (i : Int) : (List Int) := xs.getD i.toNat ([] : List Int)
theorem at_L2 {w : World} {A : Option Addr} {n : Nat} {xs : List (List Int)} (h : Kd.C (Kd.slice 3 (Kd.int .i64)) w A n xs) (i : Int) (h0 : 0 ≤ i) (h1 : i < n) : ∃ ad A0 c0, A = some ad ∧ w.cell? (ad.add i.toNat) = some (.slice A0 (rd_L2 xs i).length c0) ∧ (rd_L2 xs i).length ≤ c0 ∧ (Kd.int .i64).C w A0 (rd_L2 xs i).length (rd_L2 xs i) := by
  obtain ⟨ad, c, e, _, hK, hc0⟩ := Kd.C_get h ([] : List Int) i h0 h1
  have hc : ∀ j u, c[j]? = some u → w.cell? (ad.add (i.toNat * 1 + j)) = some u := hc0
  obtain ⟨A0, c0, rfl, l0, g0⟩ := hK
  exact ⟨ad, A0, c0, e, by have hq := hc 0 _ rfl; rwa [Nat.mul_one, Nat.add_zero] at hq, l0, g0⟩

/-! #### struct type 46 -/
structure S46 where
  f0 : Int
  f1 : Bool
  f2 : (List Int)
  f3 : (List Int)
def z46 : S46 := ⟨(0 : Int), false, ([] : List Int), ([] : List Int)⟩
def k46 : Kd S46 := Kd.iso (Kd.pair (Kd.int .i64) (Kd.pair Kd.bool (Kd.pair (Kd.slice 3 (Kd.int .i64)) (Kd.slice 3 (Kd.int .i64))))) (fun x : S46 => (x.f0, x.f1, x.f2, x.f3))
theorem k46_open {w : World} {x : S46} {cs : List Value} (h : k46.K w x cs) : ∃ A2 c2 A3 c3, cs = [.int .i64 x.f0, .bool x.f1, .slice A2 x.f2.length c2, .slice A3 x.f3.length c3] ∧ x.f2.length ≤ c2 ∧ (Kd.int .i64).C w A2 x.f2.length x.f2 ∧ x.f3.length ≤ c3 ∧ (Kd.int .i64).C w A3 x.f3.length x.f3 := by
  obtain ⟨_, _, rfl, rfl, ⟨_, _, rfl, rfl, ⟨_, _, rfl, ⟨A2, c2, rfl, l2, g2⟩, ⟨A3, c3, rfl, l3, g3⟩⟩⟩⟩ := h
  exact ⟨A2, c2, A3, c3, rfl, l2, g2, l3, g3⟩
theorem k46_openM {w : World} {base : Nat} {ok : Nat → Prop} {x : S46} {cs : List Value} (h : k46.M w base ok x cs) : ∃ v2 v3, cs = [.int .i64 x.f0, .bool x.f1, v2, v3] ∧ (Kd.int .i64).R 3 w base ok v2 x.f2 ∧ (Kd.int .i64).R 3 w base ok v3 x.f3 := by
  obtain ⟨_, _, rfl, rfl, ⟨_, _, rfl, rfl, ⟨_, _, rfl, ⟨v2, rfl, g2⟩, ⟨v3, rfl, g3⟩⟩⟩⟩ := h
  exact ⟨v2, v3, rfl, g2, g3⟩
theorem k46_mk (w : World) (x : S46) {A2 : Option Addr} {c2 : Nat} (l2 : x.f2.length ≤ c2) (g2 : (Kd.int .i64).C w A2 x.f2.length x.f2) {A3 : Option Addr} {c3 : Nat} (l3 : x.f3.length ≤ c3) (g3 : (Kd.int .i64).C w A3 x.f3.length x.f3) : k46.K w x [.int .i64 x.f0, .bool x.f1, .slice A2 x.f2.length c2, .slice A3 x.f3.length c3] := ⟨[.int .i64 x.f0], [.bool x.f1, .slice A2 x.f2.length c2, .slice A3 x.f3.length c3], rfl, rfl, ⟨[.bool x.f1], [.slice A2 x.f2.length c2, .slice A3 x.f3.length c3], rfl, rfl, ⟨[.slice A2 x.f2.length c2], [.slice A3 x.f3.length c3], rfl, ⟨A2, c2, rfl, l2, g2⟩, ⟨A3, c3, rfl, l3, g3⟩⟩⟩⟩
theorem k46_mkM (w : World) (base : Nat) (ok : Nat → Prop) (x : S46) {v2 : Value} (g2 : (Kd.int .i64).R 3 w base ok v2 x.f2) {v3 : Value} (g3 : (Kd.int .i64).R 3 w base ok v3 x.f3) : k46.M w base ok x [.int .i64 x.f0, .bool x.f1, v2, v3] := ⟨[.int .i64 x.f0], [.bool x.f1, v2, v3], rfl, rfl, ⟨[.bool x.f1], [v2, v3], rfl, rfl, ⟨[v2], [v3], rfl, ⟨v2, rfl, g2⟩, ⟨v3, rfl, g3⟩⟩⟩⟩
def rd_T46 (xs : List S46) (i : Int) : S46 := xs.getD i.toNat z46
theorem at_T46 {w : World} {A : Option Addr} {n : Nat} {xs : List S46} (h : Kd.C k46 w A n xs) (i : Int) (h0 : 0 ≤ i) (h1 : i < n) : ∃ ad A2 c2 A3 c3, A = some ad ∧ w.cell? (ad.add (i.toNat * 4)) = some (.int .i64 (rd_T46 xs i).f0) ∧ w.cell? ⟨(ad.add (i.toNat * 4)).block, (ad.add (i.toNat * 4)).off + 1, none⟩ = some (.bool (rd_T46 xs i).f1) ∧ w.cell? ⟨(ad.add (i.toNat * 4)).block, (ad.add (i.toNat * 4)).off + 2, none⟩ = some (.slice A2 (rd_T46 xs i).f2.length c2) ∧ w.cell? ⟨(ad.add (i.toNat * 4)).block, (ad.add (i.toNat * 4)).off + 3, none⟩ = some (.slice A3 (rd_T46 xs i).f3.length c3) ∧ (rd_T46 xs i).f2.length ≤ c2 ∧ (Kd.int .i64).C w A2 (rd_T46 xs i).f2.length (rd_T46 xs i).f2 ∧ (rd_T46 xs i).f3.length ≤ c3 ∧ (Kd.int .i64).C w A3 (rd_T46 xs i).f3.length (rd_T46 xs i).f3 := by
  obtain ⟨ad, c, e, _, hK, hc0⟩ := Kd.C_get h z46 i h0 h1
  have hc : ∀ j u, c[j]? = some u → w.cell? (ad.add (i.toNat * 4 + j)) = some u := hc0
  obtain ⟨A2, c2, A3, c3, rfl, l2, g2, l3, g3⟩ := k46_open hK
  exact ⟨ad, A2, c2, A3, c3, e, hc 0 _ rfl, by rw [← add_field _ _ 1 (by omega)]; exact hc 1 _ rfl, by rw [← add_field _ _ 2 (by omega)]; exact hc 2 _ rfl, by rw [← add_field _ _ 3 (by omega)]; exact hc 3 _ rfl, l2, g2, l3, g3⟩

/-! #### struct type 66 -/
structure S66 where
  f0 : Int
  f1 : Int
  f2 : Int
def z66 : S66 := ⟨(0 : Int), (0 : Int), (0 : Int)⟩
def k66 : Kd S66 := Kd.iso (Kd.pair (Kd.int .i64) (Kd.pair (Kd.int .i64) (Kd.int .i64))) (fun x : S66 => (x.f0, x.f1, x.f2))
theorem k66_open {w : World} {x : S66} {cs : List Value} (h : k66.K w x cs) : cs = [.int .i64 x.f0, .int .i64 x.f1, .int .i64 x.f2] := by
  obtain ⟨_, _, rfl, rfl, ⟨_, _, rfl, rfl, rfl⟩⟩ := h
  exact rfl
theorem k66_openM {w : World} {base : Nat} {ok : Nat → Prop} {x : S66} {cs : List Value} (h : k66.M w base ok x cs) : cs = [.int .i64 x.f0, .int .i64 x.f1, .int .i64 x.f2] := by
  obtain ⟨_, _, rfl, rfl, ⟨_, _, rfl, rfl, rfl⟩⟩ := h
  exact rfl
theorem k66_mk (w : World) (x : S66)  : k66.K w x [.int .i64 x.f0, .int .i64 x.f1, .int .i64 x.f2] := ⟨[.int .i64 x.f0], [.int .i64 x.f1, .int .i64 x.f2], rfl, rfl, ⟨[.int .i64 x.f1], [.int .i64 x.f2], rfl, rfl, rfl⟩⟩
theorem k66_mkM (w : World) (base : Nat) (ok : Nat → Prop) (x : S66)  : k66.M w base ok x [.int .i64 x.f0, .int .i64 x.f1, .int .i64 x.f2] := ⟨[.int .i64 x.f0], [.int .i64 x.f1, .int .i64 x.f2], rfl, rfl, ⟨[.int .i64 x.f1], [.int .i64 x.f2], rfl, rfl, rfl⟩⟩
def rd_T66 (xs : List S66) (i : Int) : S66 := xs.getD i.toNat z66
theorem at_T66 {w : World} {A : Option Addr} {n : Nat} {xs : List S66} (h : Kd.C k66 w A n xs) (i : Int) (h0 : 0 ≤ i) (h1 : i < n) : ∃ ad , A = some ad ∧ w.cell? (ad.add (i.toNat * 3)) = some (.int .i64 (rd_T66 xs i).f0) ∧ w.cell? ⟨(ad.add (i.toNat * 3)).block, (ad.add (i.toNat * 3)).off + 1, none⟩ = some (.int .i64 (rd_T66 xs i).f1) ∧ w.cell? ⟨(ad.add (i.toNat * 3)).block, (ad.add (i.toNat * 3)).off + 2, none⟩ = some (.int .i64 (rd_T66 xs i).f2) := by
  obtain ⟨ad, c, e, _, hK, hc0⟩ := Kd.C_get h z66 i h0 h1
  have hc : ∀ j u, c[j]? = some u → w.cell? (ad.add (i.toNat * 3 + j)) = some u := hc0
  obtain rfl := k66_open hK
  exact ⟨ad, e, hc 0 _ rfl, by rw [← add_field _ _ 1 (by omega)]; exact hc 1 _ rfl, by rw [← add_field _ _ 2 (by omega)]; exact hc 2 _ rfl⟩

abbrev t_ : Bool := true
abbrev f_ : Bool := false
theorem obs_ {α β : Type} {a : α} {f : α → Option β} : (some a).bind f = f a := rfl
theorem A0_ {p : Prop} (h : p) : Aside0 p := ⟨h⟩
theorem od_ {p : Prop} [Decidable p] (h : decide p = true) : p := of_decide_eq_true h
theorem bl_ (w : Go.World) (p : Go.Addr) {v : Go.Value} (h : w.cell? p = some v) : p.block < w.heap.size := Go.World.block_lt_of_cell? w p h
theorem sl1_ : type_of% @List.setIfInBounds_toArray := @List.setIfInBounds_toArray
theorem sl2_ : type_of% @List.set_cons_zero := @List.set_cons_zero
theorem sl3_ : type_of% @List.set_cons_succ := @List.set_cons_succ
theorem sl4_ : type_of% @Nat.lt_of_lt_of_le := @Nat.lt_of_lt_of_le
theorem sl5_ : type_of% @Nat.ne_of_lt := @Nat.ne_of_lt
theorem sl6_ : type_of% @Kd.V_drewN := @Kd.V_drewN
theorem sl7_ : type_of% @Kd.V_alloc := @Kd.V_alloc
theorem sl8_ : type_of% @Kd.V_drew := @Kd.V_drew
theorem sl9_ : type_of% @pw_below_drewN := @pw_below_drewN
theorem sm1_ : type_of% @Kd.R_drewN := @Kd.R_drewN
theorem sm2_ : type_of% @Kd.R_alloc := @Kd.R_alloc
theorem sm3_ : type_of% @Kd.R_drew := @Kd.R_drew
theorem sm4_ : type_of% @below_alloc := @below_alloc
theorem sm5_ : type_of% @below_drew1 := @below_drew1
theorem sm6_ : type_of% @Nat.le_of_eq := @Nat.le_of_eq
theorem sm7_ : type_of% @blk_drewN := @blk_drewN
theorem sm8_ : type_of% @blk_drew := @blk_drew
theorem sm9_ : type_of% @blk_alloc := @blk_alloc
theorem sn1_ : type_of% @below_size := @below_size
theorem sn2_ : type_of% @below_step := @below_step
theorem sn3_ : type_of% @below_set := @below_set
theorem sn4_ : type_of% @blk_below := @blk_below
theorem sn5_ : type_of% @Kd.V_elderB := @Kd.V_elderB
theorem sn6_ : type_of% @Kd.V_below := @Kd.V_below
theorem sn7_ : type_of% @cell_far := @cell_far
theorem sn8_ : type_of% @Nat.ne_of_gt := @Nat.ne_of_gt
theorem sn9_ : type_of% @box_event := @box_event
theorem sp1_ : type_of% @gate_dst := @gate_dst
theorem sp2_ : type_of% @List.length_take := @List.length_take
theorem sp3_ : type_of% @bodyPost_ret := @bodyPost_ret
theorem sp4_ : type_of% @results_cc := @results_cc
theorem sp5_ : type_of% @Kd.N_drewN := @Kd.N_drewN
theorem sp6_ : type_of% @Kd.N_alloc := @Kd.N_alloc
theorem sp7_ : type_of% @Kd.N_drew := @Kd.N_drew
theorem sp8_ : type_of% @Kd.C_alloc := @Kd.C_alloc
theorem sp9_ : type_of% @Kd.C_drewN := @Kd.C_drewN
theorem sq1_ : type_of% @Kd.C_drew := @Kd.C_drew
theorem kb_ {p q : Prop} (h : p) (k : p → q := by (intro hh_; (with_reducible repeat (first | refine sm7_ ?_ _ | refine sm8_ ?_ | refine sm9_ ?_ _)); exact hh_)) : q := k h
theorem kv_ {p q : Prop} (h : p) (k : p → q := by (intro hh_; (with_reducible repeat (first | apply sl7_ | apply sl6_ | apply sl8_)); exact hh_)) : q := k h
theorem kr_ {p q : Prop} (h : p) (k : p → q := by (intro hh_; (with_reducible repeat (first | apply sm2_ | apply sm1_ | apply sm3_)); exact hh_)) : q := k h
theorem kn_ {p q : Prop} (h : p) (k : p → q := by (intro hh_; (with_reducible repeat (first | apply sp6_ | apply sp5_ | apply sp7_)); exact hh_)) : q := k h
theorem kw0_ {p q : Prop} (h : p) (k : p → q := by (intro hh_; repeat (first | (with_reducible first | exact hh_ | apply sm4_ | apply sl9_ | apply sm5_) | exact hh_))) : q := k h
theorem kw1_ {p r0 q : Prop} (h : p) (g0 : r0) (k : p → r0 → q := by (intro hh_ g0_; repeat (first | (with_reducible first | exact hh_ | apply sm4_ | apply sl9_ | apply sm5_ | refine sn3_ ?_ g0_) | exact hh_))) : q := k h g0
theorem kw2_ {p r0 r1 q : Prop} (h : p) (g0 : r0) (g1 : r1) (k : p → r0 → r1 → q := by (intro hh_ g0_ g1_; repeat (first | (with_reducible first | exact hh_ | apply sm4_ | apply sl9_ | apply sm5_ | refine sn3_ ?_ g0_ | refine sn3_ ?_ g1_) | exact hh_))) : q := k h g0 g1
theorem kw3_ {p r0 r1 r2 q : Prop} (h : p) (g0 : r0) (g1 : r1) (g2 : r2) (k : p → r0 → r1 → r2 → q := by (intro hh_ g0_ g1_ g2_; repeat (first | (with_reducible first | exact hh_ | apply sm4_ | apply sl9_ | apply sm5_ | refine sn3_ ?_ g0_ | refine sn3_ ?_ g1_ | refine sn3_ ?_ g2_) | exact hh_))) : q := k h g0 g1 g2
theorem kw4_ {p r0 r1 r2 r3 q : Prop} (h : p) (g0 : r0) (g1 : r1) (g2 : r2) (g3 : r3) (k : p → r0 → r1 → r2 → r3 → q := by (intro hh_ g0_ g1_ g2_ g3_; repeat (first | (with_reducible first | exact hh_ | apply sm4_ | apply sl9_ | apply sm5_ | refine sn3_ ?_ g0_ | refine sn3_ ?_ g1_ | refine sn3_ ?_ g2_ | refine sn3_ ?_ g3_) | exact hh_))) : q := k h g0 g1 g2 g3
theorem kw5_ {p r0 r1 r2 r3 r4 q : Prop} (h : p) (g0 : r0) (g1 : r1) (g2 : r2) (g3 : r3) (g4 : r4) (k : p → r0 → r1 → r2 → r3 → r4 → q := by (intro hh_ g0_ g1_ g2_ g3_ g4_; repeat (first | (with_reducible first | exact hh_ | apply sm4_ | apply sl9_ | apply sm5_ | refine sn3_ ?_ g0_ | refine sn3_ ?_ g1_ | refine sn3_ ?_ g2_ | refine sn3_ ?_ g3_ | refine sn3_ ?_ g4_) | exact hh_))) : q := k h g0 g1 g2 g3 g4

end Go.Proofs.Ytjlcebgfknfelaa.QFnTreesUndo
