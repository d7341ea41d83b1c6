/- What the law's row stands on, part 0: contracts of functions, for the arguments and worlds that each one names. -/
import Derived.Test.YtmhnhfmkcipcpaaProg
import Derived.Below
import Derived.Deep.Draws
import Derived.Deep.AppendLies
import Derived.Maps.AppendAt
import Derived.OwnWalk
import Derived.Laws.BytesArg
import Derived.Laws.MakeOwn
import Derived.Laws.OwnMore
import Derived.Deep.OwnRows
import Derived.Tactics
import Derived.Lib.ConvBytes
import Derived.Laws.Slices
import Derived.WalkKit
import Derived.KernelRfl
import Derived.RowKit3
import Derived.Deep.LoopGhost
import Derived.Deep.QuietTactic
import Derived.BigQuiet
import Derived.WideLaws
import Derived.Deep.DeepCutAuto
import Derived.Deep.CutBlock
import Derived.Deep.RegionHeld3
import Derived.Laws.Rows
import Derived.Lib.AppendStr
import Derived.ArgAppend
import Derived.Laws.IdiomCopy
import Derived.OrdersHeld
import Derived.Laws.BitsLemmas
import Derived.RowKit
import Derived.Laws.Cover1
import Derived.Test.YtmhnhfmkcipcpaaWWords
import Derived.Test.YtmhnhfmkcipcpaaWLast
import Derived.Test.YtmhnhfmkcipcpaaWTab
import Derived.Test.YtmhnhfmkcipcpaaWFour
import Derived.Test.YtmhnhfmkcipcpaaWQPut
import Derived.Test.YtmhnhfmkcipcpaaWApart
import Derived.Test.YtmhnhfmkcipcpaaWArr
import Derived.Test.YtmhnhfmkcipcpaaWZeros
import Derived.Test.YtmhnhfmkcipcpaaWFoot
import Derived.Test.YtmhnhfmkcipcpaaWKept
import Derived.Test.YtmhnhfmkcipcpaaWShare
import Derived.Test.YtmhnhfmkcipcpaaWN
import Derived.Test.YtmhnhfmkcipcpaaWFootNe
import Derived.Test.YtmhnhfmkcipcpaaWAt
import Derived.Test.YtmhnhfmkcipcpaaWEqStruct
import Derived.Test.YtmhnhfmkcipcpaaWRepsOne
import Derived.Test.YtmhnhfmkcipcpaaWInv
import Derived.Test.YtmhnhfmkcipcpaaWInvWords
import Derived.Test.YtmhnhfmkcipcpaaWGuard
import Derived.Test.YtmhnhfmkcipcpaaWNEv
import Derived.Test.YtmhnhfmkcipcpaaWMore
import Derived.OneCell
import Derived.Laws.World
import Derived.StillTailTactics
import Derived.BigRegion
namespace Go.Proofs.Ytmhnhfmkcipcpaa.LnFn
open Go.RowKit Go.Proofs.YtmhnhfmkcipcpaaW.PrintWords Go.Proofs.YtmhnhfmkcipcpaaW.PrintLast Go.Proofs.YtmhnhfmkcipcpaaW.PrintMore
attribute [local go_sem] max2_int min2_int max_two min_two max_three min_three max_four min_four   -- for this text's walks alone
set_option linter.unusedVariables false
set_option linter.unusedSimpArgs false
def errW : Option Int → Value
  | none => .nilIface
  | some c => .iface 0 (.int .i64 c)
theorem errW_none : errW none = .nilIface := rfl
theorem errW_some (c : Int) : errW (some c) = .iface 0 (.int .i64 c) := rfl
theorem info3 : (Try.prog.info? 3).map (fun i => (i.zero, i.size, i.bytes)) = some (some (.int .i64 0), 1, 8) := by kernel_rfl
theorem info27 : (Try.prog.info? 27).map (fun i => (i.zero, i.size, i.bytes)) = some (some (.agg #[(.int .i64 0), (.int .i64 0), (.int .i64 0), (.int .i64 0)]), 4, 32) := by kernel_rfl
structure S34 where
  f0 : Int
  f1 : Bool
  f2 : (List Int)
  f3 : (List Int)
def z34 : S34 := ⟨(0 : Int), false, ([] : List Int), ([] : List Int)⟩
def k34 : Kd S34 := Kd.iso (Kd.pair (Kd.int .i64) (Kd.pair Kd.bool (Kd.pair (Kd.slice 3 (Kd.int .i64)) (Kd.slice 3 (Kd.int .i64))))) (fun x : S34 => (x.f0, x.f1, x.f2, x.f3))
theorem k34_open {w : World} {x : S34} {cs : List Value} (h : k34.K w x cs) : ∃ A2 c2 A3 c3, cs = [.int .i64 x.f0, .bool x.f1, .slice A2 x.f2.length c2, .slice A3 x.f3.length c3] ∧ x.f2.length ≤ c2 ∧ (Kd.int .i64).C w A2 x.f2.length x.f2 ∧ x.f3.length ≤ c3 ∧ (Kd.int .i64).C w A3 x.f3.length x.f3 := by
  obtain ⟨_, _, rfl, rfl, ⟨_, _, rfl, rfl, ⟨_, _, rfl, ⟨A2, c2, rfl, l2, g2⟩, ⟨A3, c3, rfl, l3, g3⟩⟩⟩⟩ := h
  exact ⟨A2, c2, A3, c3, rfl, l2, g2, l3, g3⟩
def rd_T34 (xs : List S34) (i : Int) : S34 := xs.getD i.toNat z34
theorem at_T34 {w : World} {A : Option Addr} {n : Nat} {xs : List S34} (h : Kd.C k34 w A n xs) (i : Int) (h0 : 0 ≤ i) (h1 : i < n) : ∃ ad A2 c2 A3 c3, A = some ad ∧ w.cell? (ad.add (i.toNat * 4)) = some (.int .i64 (rd_T34 xs i).f0) ∧ w.cell? ⟨(ad.add (i.toNat * 4)).block, (ad.add (i.toNat * 4)).off + 1, none⟩ = some (.bool (rd_T34 xs i).f1) ∧ w.cell? ⟨(ad.add (i.toNat * 4)).block, (ad.add (i.toNat * 4)).off + 2, none⟩ = some (.slice A2 (rd_T34 xs i).f2.length c2) ∧ w.cell? ⟨(ad.add (i.toNat * 4)).block, (ad.add (i.toNat * 4)).off + 3, none⟩ = some (.slice A3 (rd_T34 xs i).f3.length c3) ∧ (rd_T34 xs i).f2.length ≤ c2 ∧ (Kd.int .i64).C w A2 (rd_T34 xs i).f2.length (rd_T34 xs i).f2 ∧ (rd_T34 xs i).f3.length ≤ c3 ∧ (Kd.int .i64).C w A3 (rd_T34 xs i).f3.length (rd_T34 xs i).f3 := by
  obtain ⟨ad, c, e, _, hK, hc0⟩ := Kd.C_get h z34 i h0 h1
  have hc : ∀ j u, c[j]? = some u → w.cell? (ad.add (i.toNat * 4 + j)) = some u := hc0
  obtain ⟨A2, c2, A3, c3, rfl, l2, g2, l3, g3⟩ := k34_open hK
  exact ⟨ad, A2, c2, A3, c3, e, hc 0 _ rfl, by rw [← add_field _ _ 1 (by omega)]; exact hc 1 _ rfl, by rw [← add_field _ _ 2 (by omega)]; exact hc 2 _ rfl, by rw [← add_field _ _ 3 (by omega)]; exact hc 3 _ rfl, l2, g2, l3, g3⟩
structure S27 where
  f0 : Int
  f1 : Int
  f2 : Int
  f3 : Int
def k27 : Kd S27 := Kd.iso (Kd.pair (Kd.int .i64) (Kd.pair (Kd.int .i64) (Kd.pair (Kd.int .i64) (Kd.int .i64)))) (fun x : S27 => (x.f0, x.f1, x.f2, x.f3))
theorem k27_mkM (w : World) (base : Nat) (ok : Nat → Prop) (x : S27)  : k27.M w base ok x [.int .i64 x.f0, .int .i64 x.f1, .int .i64 x.f2, .int .i64 x.f3] := ⟨[.int .i64 x.f0], [.int .i64 x.f1, .int .i64 x.f2, .int .i64 x.f3], rfl, rfl, ⟨[.int .i64 x.f1], [.int .i64 x.f2, .int .i64 x.f3], rfl, rfl, ⟨[.int .i64 x.f2], [.int .i64 x.f3], rfl, rfl, rfl⟩⟩⟩
end Go.Proofs.Ytmhnhfmkcipcpaa.LnFn

namespace Go.Proofs.Ytmhnhfmkcipcpaa.LnFn
open Go.RowKit Go.Proofs.YtmhnhfmkcipcpaaW.PrintWords Go.Proofs.YtmhnhfmkcipcpaaW.PrintLast Go.Proofs.YtmhnhfmkcipcpaaW.PrintMore
attribute [local go_sem] max2_int min2_int max_two min_two max_three min_three max_four min_four   -- for this text's walks alone
set_option linter.unusedVariables false
set_option linter.unusedSimpArgs false
def spec_Rank.f (l0 : List Int) (a1 : Int) : Option (Int) := if (l0.length : Int) = 0 then (some a1) else (if 0 ≤ (Int.tmod (wrap64 ((Int.tmod a1 (l0.length : Int)) + (l0.length : Int))) (l0.length : Int)) then (if (Int.tmod (wrap64 ((Int.tmod a1 (l0.length : Int)) + (l0.length : Int))) (l0.length : Int)) < (l0.length : Int) then (some (rd l0 (Int.tmod (wrap64 ((Int.tmod a1 (l0.length : Int)) + (l0.length : Int))) (l0.length : Int)))) else (none)) else (none))
set_option maxHeartbeats 8000000 in
set_option maxRecDepth 100000 in
theorem spec_Rank.calls (A0 : Option Addr) (c0 : Nat) (l0 : List Int) (a1 : Int) (r : Int) (w : World) (hr0 : Kd.C (Kd.int .i64) w A0 l0.length l0) (hc0 : l0.length ≤ c0) (h : spec_Rank.f l0 a1 = some r) :
    Calls Try.prog 19 #[.slice A0 l0.length c0, .int .i64 a1] w fun e w' => e = .returned (.int .i64 r) ∧ Drawn0 w w' := by
  have HR0 := Aside0.mk hr0
  have HC0 := Aside0.mk hc0
  clear hr0 hc0
  have H : (if (l0.length : Int) = 0 then (some a1) else (if 0 ≤ (Int.tmod (wrap64 ((Int.tmod a1 (l0.length : Int)) + (l0.length : Int))) (l0.length : Int)) then (if (Int.tmod (wrap64 ((Int.tmod a1 (l0.length : Int)) + (l0.length : Int))) (l0.length : Int)) < (l0.length : Int) then (some (rd l0 (Int.tmod (wrap64 ((Int.tmod a1 (l0.length : Int)) + (l0.length : Int))) (l0.length : Int)))) else (none)) else (none))) = some r := h
  clear h
  by_cases c3 : (l0.length : Int) = 0
  · rw [if_pos c3] at H
    have c3b0 : ((l0.length : Int) == 0) = true := beq_iff_eq.mpr c3
    have c3b1 : ((l0.length : Int) != 0) = false := bne_eq_false_iff_eq.mpr c3
    clear c3
    obtain rfl := Option.some.inj H
    go_enter Try.func19, Try.ntmps19
    go_wp2
    go_ret
    exact ⟨by first | rfl | (simp; done) | (simp [*]; done), by repeat (first | exact Drawn0.refl _ | apply Drawn0.step)⟩
  · rw [if_neg c3] at H
    have c3b0 : ((l0.length : Int) == 0) = false := beq_eq_false_iff_ne.mpr c3
    have c3b1 : ((l0.length : Int) != 0) = true := bne_iff_ne.mpr c3
    have c3b2 : ¬ (l0 = []) := fun h_ => c3 (by rw [h_]; rfl)
    obtain ⟨ji4, hji4⟩ : ∃ j_ : Int, (Int.tmod (wrap64 ((Int.tmod a1 (l0.length : Int)) + (l0.length : Int))) (l0.length : Int)) = j_ := ⟨_, rfl⟩
    replace H : (if 0 ≤ (ji4) then (if (ji4) < (l0.length : Int) then (some (rd l0 (ji4))) else (none)) else (none)) = some r := by first | (rw [hji4] at H; exact H) | (simp only [hji4] at H ⊢; exact H)
    by_cases c5 : 0 ≤ (ji4)
    · rw [if_pos c5] at H
      have c5b0 : decide (0 ≤ (ji4)) = true := decide_eq_true c5
      clear c5
      by_cases c6 : (ji4) < (l0.length : Int)
      · rw [if_pos c6] at H
        have c6b0 : decide ((ji4) < (l0.length : Int)) = true := decide_eq_true c6
        clear c6
        obtain rfl := Option.some.inj H
        have p113 : 0 ≤ ((ji4) : Int) := of_decide_eq_true (by first | (with_reducible assumption) | assumption)
        have q113 : (ji4) < (l0.length : Int) := of_decide_eq_true (by first | (with_reducible assumption) | assumption)
        obtain ⟨ad113, e113, hx113_0⟩ := Kd.at_int HR0.out (ji4) p113 q113
        cases e113
        replace p113 := eq_true p113
        replace q113 := eq_true q113
        go_enter Try.func19, Try.ntmps19
        go_wp2
        go_ret
        exact ⟨by first | rfl | (simp; done) | (simp only [← hji4] <;> (first | rfl | simp)) | (simp [*]; done), by repeat (first | exact Drawn0.refl _ | apply Drawn0.step)⟩
      · rw [if_neg c6] at H
        exact absurd H (by simp)
    · rw [if_neg c5] at H
      exact absurd H (by simp)
def spec_Alike.f (l0 : List Int) (a1 : Int) (a2 : Int) : Option (Bool) := (spec_Rank.f l0 a1).bind fun t114 => ((spec_Rank.f l0 a2).bind fun t115 => (some (t114 == t115)))
set_option maxHeartbeats 8000000 in
set_option maxRecDepth 100000 in
theorem spec_Alike.calls (A0 : Option Addr) (c0 : Nat) (l0 : List Int) (a1 : Int) (a2 : Int) (r : Bool) (w : World) (hr0 : Kd.C (Kd.int .i64) w A0 l0.length l0) (hc0 : l0.length ≤ c0) (h : spec_Alike.f l0 a1 a2 = some r) :
    Calls Try.prog 44 #[.slice A0 l0.length c0, .int .i64 a1, .int .i64 a2] w fun e w' => e = .returned (.bool r) ∧ Drawn0 w w' := by
  have HR0 := Aside0.mk hr0
  have HC0 := Aside0.mk hc0
  clear hr0 hc0
  have H : ((spec_Rank.f l0 a1).bind fun t114 => ((spec_Rank.f l0 a2).bind fun t115 => (some (t114 == t115)))) = some r := h
  clear h
  replace H := Option.bind_eq_some_iff.mp H
  obtain ⟨t114, A40, H⟩ := H
  replace H : ((spec_Rank.f l0 a2).bind fun t115 => (some (t114 == t115))) = some r := H
  have A4 := Aside0.mk A40
  clear A40
  replace H := Option.bind_eq_some_iff.mp H
  obtain ⟨t115, A50, H⟩ := H
  replace H : (some (t114 == t115)) = some r := H
  have A5 := Aside0.mk A50
  clear A50
  obtain rfl := Option.some.inj H
  go_enter Try.func44, Try.ntmps44
  go_wp2_with (first | ((with_reducible refine gate_callee (f := 19) rfl ?_); refine goesL_ (some 9) rfl rfl Try.func19 (by kernel_rfl) rfl #[.slice A0 l0.length c0, .int .i64 a1] rfl (by (try simp only [List.map_toArray, List.map_cons, List.map_nil]); first | done | rfl | (simp only [List.length_drop, List.length_take]; rfl)) ?_; (with_reducible refine (spec_Rank.calls _ _ l0 a1 t114 _ ?side1 ?side2 A4.out).mono ?_); (case side1 => repeat (first | exact HR0.out | (with_reducible refine Kd.C_alloc ?_ _) | (with_reducible refine Kd.C_drewN ?_ _) | (with_reducible refine Kd.C_drew ?_))); (case side2 => exact HC0.out); rintro e w' ⟨rfl, ⟨nd, rfl⟩⟩; refine ⟨_, rfl, ?_⟩) | ((with_reducible refine gate_callee (f := 19) rfl ?_); refine goesL_ (some 12) rfl rfl Try.func19 (by kernel_rfl) rfl #[.slice A0 l0.length c0, .int .i64 a2] rfl (by (try simp only [List.map_toArray, List.map_cons, List.map_nil]); first | done | rfl | (simp only [List.length_drop, List.length_take]; rfl)) ?_; (with_reducible refine (spec_Rank.calls _ _ l0 a2 t115 _ ?side1 ?side2 A5.out).mono ?_); (case side1 => repeat (first | exact HR0.out | (with_reducible refine Kd.C_alloc ?_ _) | (with_reducible refine Kd.C_drewN ?_ _) | (with_reducible refine Kd.C_drew ?_))); (case side2 => exact HC0.out); rintro e w' ⟨rfl, ⟨nd, rfl⟩⟩; refine ⟨_, rfl, ?_⟩))
  go_ret
  exact ⟨by first | rfl | (simp; done) | (simp [*]; done), by repeat (first | exact Drawn0.refl _ | apply Drawn0.step)⟩
def spec_bagAt.l0 : Nat → List Int → List Int → Int → Int → Option (Int)
  | 0, _, _, _, _ => none
  | k + 1, x0, x1, x2, x7 => if x7 < (x1.length : Int) then (if 0 ≤ x7 then ((spec_Alike.f x0 (rd x1 x7) x2).bind fun t117 => (if t117 = true then (some x7) else (spec_bagAt.l0 k x0 x1 x2 (wrap64 (x7 + 1))))) else (none)) else (some (-1))
def spec_bagAt.f (k : Nat) (l0 : List Int) (l1 : List Int) (a2 : Int) : Option (Int) := spec_bagAt.l0 k l0 l1 a2 0
set_option maxHeartbeats 8000000 in
set_option maxRecDepth 100000 in
theorem spec_bagAt.calls (k : Nat) (A0 : Option Addr) (c0 : Nat) (l0 : List Int) (A1 : Option Addr) (c1 : Nat) (l1 : List Int) (a2 : Int) (r : Int) (w : World) (hr0 : Kd.C (Kd.int .i64) w A0 l0.length l0) (hc0 : l0.length ≤ c0) (hr1 : Kd.C (Kd.int .i64) w A1 l1.length l1) (hc1 : l1.length ≤ c1) (h : spec_bagAt.f k l0 l1 a2 = some r) :
    Calls Try.prog 60 #[.slice A0 l0.length c0, .slice A1 l1.length c1, .int .i64 a2] w fun e w' => e = .returned (.int .i64 r) ∧ Drawn0 w w' := by
  have HR0 := Aside0.mk hr0
  have HC0 := Aside0.mk hc0
  clear hr0 hc0
  have HR1 := Aside0.mk hr1
  have HC1 := Aside0.mk hc1
  clear hr1 hc1
  have H : (spec_bagAt.l0 k l0 l1 a2 0) = some r := h
  clear h
  have H' := Aside0.mk H
  clear H
  go_enter Try.func60, Try.ntmps60
  go_wp2
  go_loopg [7] k (fun kq v7 w' => ∃ (x7_1 : Int), v7 = .int .i64 x7_1 ∧ Aside0 (spec_bagAt.l0 kq l0 l1 a2 x7_1 = some r) ∧ Aside0 (kq ≤ k) ∧ Drawn0 w w')
  case atStart => exact ⟨(0), (by first | rfl | (simp; done) | (simp [*]; done)), H', ⟨Nat.le_refl _⟩, by repeat (first | exact Drawn0.refl _ | apply Drawn0.step)⟩
  case round =>
    clear H'
    try clear c1
    try clear p2
    obtain ⟨x7_1, rfl, HA, HK1, ⟨m1, rfl⟩⟩ := hrel
    cases gk with
    | zero => exact absurd HA.out (by simp [spec_bagAt.l0])
    | succ k1 =>
      have H := HA.out
      clear HA
      simp only [spec_bagAt.l0] at H
      by_cases c4 : x7_1 < (l1.length : Int)
      · rw [if_pos c4] at H
        have c4b0 : decide (x7_1 < (l1.length : Int)) = true := decide_eq_true c4
        clear c4
        by_cases c5 : 0 ≤ x7_1
        · rw [if_pos c5] at H
          have c5b0 : decide (0 ≤ x7_1) = true := decide_eq_true c5
          clear c5
          replace H := Option.bind_eq_some_iff.mp H
          obtain ⟨t117, A60, H⟩ := H
          replace H : (if t117 = true then (some x7_1) else (spec_bagAt.l0 k1 l0 l1 a2 (wrap64 (x7_1 + 1)))) = some r := H
          have A6 := Aside0.mk A60
          clear A60
          by_cases c7 : t117 = true
          · subst c7
            have H1 : (some x7_1) = some r := by rw [if_pos rfl] at H; exact H
            clear H
            have H := H1
            clear H1
            obtain rfl := Option.some.inj H
            have p116 : 0 ≤ (x7_1 : Int) := of_decide_eq_true (by first | (with_reducible assumption) | assumption)
            have q116 : x7_1 < (l1.length : Int) := of_decide_eq_true (by first | (with_reducible assumption) | assumption)
            obtain ⟨ad116, e116, hx116_0⟩ := Kd.at_int HR1.out x7_1 p116 q116
            cases e116
            replace p116 := eq_true p116
            replace q116 := eq_true q116
            go_wp2_with (first | ((with_reducible refine gate_callee (f := 44) rfl ?_); refine goesL_ (some 20) rfl rfl Try.func44 (by kernel_rfl) rfl #[.slice A0 l0.length c0, .int .i64 (rd l1 x7_1), .int .i64 a2] rfl (by (try simp only [List.map_toArray, List.map_cons, List.map_nil]); first | done | rfl | (simp only [List.length_drop, List.length_take]; rfl)) ?_; (with_reducible refine (spec_Alike.calls _ _ l0 (rd l1 x7_1) a2 true _ ?side1 ?side2 A6.out).mono ?_); (case side1 => repeat (first | exact HR0.out | (with_reducible refine Kd.C_alloc ?_ _) | (with_reducible refine Kd.C_drewN ?_ _) | (with_reducible refine Kd.C_drew ?_))); (case side2 => exact HC0.out); rintro e w' ⟨rfl, ⟨nd, rfl⟩⟩; refine ⟨_, rfl, ?_⟩))
            go_ret
            exact ⟨by first | rfl | (simp; done) | (simp [*]; done), by repeat (first | exact Drawn0.refl _ | apply Drawn0.step)⟩
          · replace c7 := Bool.eq_false_iff.mpr c7
            subst c7
            have H1 : (spec_bagAt.l0 k1 l0 l1 a2 (wrap64 (x7_1 + 1))) = some r := by rw [if_neg (show ¬ (false = true) by decide)] at H; exact H
            clear H
            have H := H1
            clear H1
            have H' := Aside0.mk H
            clear H
            have p116 : 0 ≤ (x7_1 : Int) := of_decide_eq_true (by first | (with_reducible assumption) | assumption)
            have q116 : x7_1 < (l1.length : Int) := of_decide_eq_true (by first | (with_reducible assumption) | assumption)
            obtain ⟨ad116, e116, hx116_0⟩ := Kd.at_int HR1.out x7_1 p116 q116
            cases e116
            replace p116 := eq_true p116
            replace q116 := eq_true q116
            go_wp2_with (first | ((with_reducible refine gate_callee (f := 44) rfl ?_); refine goesL_ (some 20) rfl rfl Try.func44 (by kernel_rfl) rfl #[.slice A0 l0.length c0, .int .i64 (rd l1 x7_1), .int .i64 a2] rfl (by (try simp only [List.map_toArray, List.map_cons, List.map_nil]); first | done | rfl | (simp only [List.length_drop, List.length_take]; rfl)) ?_; (with_reducible refine (spec_Alike.calls _ _ l0 (rd l1 x7_1) a2 false _ ?side1 ?side2 A6.out).mono ?_); (case side1 => repeat (first | exact HR0.out | (with_reducible refine Kd.C_alloc ?_ _) | (with_reducible refine Kd.C_drewN ?_ _) | (with_reducible refine Kd.C_drew ?_))); (case side2 => exact HC0.out); rintro e w' ⟨rfl, ⟨nd, rfl⟩⟩; refine ⟨_, rfl, ?_⟩))
            go_roundg k1
            case measure => have := HK1.out; omega
            case rel => exact ⟨(wrap64 (x7_1 + 1)), (by first | rfl | (simp; done) | (simp [*]; done)), H', ⟨by have := HK1.out; omega⟩, by repeat (first | exact Drawn0.refl _ | apply Drawn0.step)⟩
        · rw [if_neg c5] at H
          exact absurd H (by simp)
      · rw [if_neg c4] at H
        have c4b0 : decide (x7_1 < (l1.length : Int)) = false := decide_eq_false c4
        clear c4
        obtain rfl := Option.some.inj H
        go_wp2
        go_ret
        exact ⟨by first | rfl | (simp; done) | (simp [*]; done), by repeat (first | exact Drawn0.refl _ | apply Drawn0.step)⟩
def spec_lineAt.f (k : Nat) (l0 : List Int) (a1 : Int) : Option (Int) := (spec_bagAt.f k ([] : List Int) l0 a1).bind fun t118 => (some t118)
set_option maxHeartbeats 8000000 in
set_option maxRecDepth 100000 in
theorem spec_lineAt.calls (k : Nat) (A0 : Option Addr) (c0 : Nat) (l0 : List Int) (a1 : Int) (r : Int) (w : World) (hr0 : Kd.C (Kd.int .i64) w A0 l0.length l0) (hc0 : l0.length ≤ c0) (h : spec_lineAt.f k l0 a1 = some r) :
    Calls Try.prog 67 #[.slice A0 l0.length c0, .int .i64 a1] w fun e w' => e = .returned (.int .i64 r) ∧ Drawn0 w w' := by
  have HR0 := Aside0.mk hr0
  have HC0 := Aside0.mk hc0
  clear hr0 hc0
  have H : ((spec_bagAt.f k ([] : List Int) l0 a1).bind fun t118 => (some t118)) = some r := h
  clear h
  replace H := Option.bind_eq_some_iff.mp H
  obtain ⟨t118, A30, H⟩ := H
  replace H : (some t118) = some r := H
  have A3 := Aside0.mk A30
  clear A30
  obtain rfl := Option.some.inj H
  go_enter Try.func67, Try.ntmps67
  go_wp2_with (first | ((with_reducible refine gate_callee (f := 60) rfl ?_); refine goesL_ (some 7) rfl rfl Try.func60 (by kernel_rfl) rfl #[.slice none 0 0, .slice A0 l0.length c0, .int .i64 a1] rfl (by (try simp only [List.map_toArray, List.map_cons, List.map_nil]); first | done | rfl | (simp only [List.length_drop, List.length_take]; rfl)) ?_; (refine (spec_bagAt.calls k _ _ ([] : List Int) _ _ l0 a1 t118 _ ?side1 ?side2 ?side3 ?side4 A3.out).mono ?_); (case side1 => exact Kd.C_nil _ _); (case side2 => exact Nat.le_refl _); (case side3 => repeat (first | exact HR0.out | (with_reducible refine Kd.C_alloc ?_ _) | (with_reducible refine Kd.C_drewN ?_ _) | (with_reducible refine Kd.C_drew ?_))); (case side4 => exact HC0.out); rintro e w' ⟨rfl, ⟨nd, rfl⟩⟩; refine ⟨_, rfl, ?_⟩))
  go_ret
  exact ⟨by first | rfl | (simp; done) | (simp [*]; done), by repeat (first | exact Drawn0.refl _ | apply Drawn0.step)⟩
def spec_Line_May.j0 : Nat → Bool → Int → Bool → List Int → List Int → Int → Int → Int → Int → Option (Bool)
  | 0, _, _, _, _, _, _, _, _, _ => none
  | k + 1, x5, x13, x14, x120000, x120001, x121000, x121001, x121002, x121003 => if x14 = true then (some x5) else (if x13 = 3 then (if x5 = true then (some false) else (if x121003 ≥ 0 then (some (decide (x121003 < (x120000.length : Int)))) else (some false))) else (if x13 = 4 then (if x5 = true then (some false) else (if x121003 ≥ 0 then (some (decide (x121003 < (x120000.length : Int)))) else (some false))) else (some true)))
def spec_Line_May.f (k : Nat) (l0_0 : List Int) (l0_1 : List Int) (a1_0 : Int) (a1_1 : Int) (a1_2 : Int) (a1_3 : Int) : Option (Bool) := (spec_lineAt.f k l0_1 a1_3).bind fun t121 => (if a1_1 = 2 then (spec_Line_May.j0 k (decide (t121 ≥ 0)) a1_1 (a1_1 == 2) l0_0 l0_1 a1_0 a1_1 a1_2 a1_3) else (if a1_1 = 7 then (spec_Line_May.j0 k (decide (t121 ≥ 0)) a1_1 (a1_1 == 7) l0_0 l0_1 a1_0 a1_1 a1_2 a1_3) else (spec_Line_May.j0 k (decide (t121 ≥ 0)) a1_1 (a1_1 == 8) l0_0 l0_1 a1_0 a1_1 a1_2 a1_3)))
set_option maxHeartbeats 8000000 in
set_option maxRecDepth 100000 in
theorem spec_Line_May.calls (k : Nat) (A0_0 : Option Addr) (c0_0 : Nat) (l0_0 : List Int) (A0_1 : Option Addr) (c0_1 : Nat) (l0_1 : List Int) (a1_0 : Int) (a1_1 : Int) (a1_2 : Int) (a1_3 : Int) (r : Bool) (w : World) (hr0_0 : Kd.C (Kd.int .i64) w A0_0 l0_0.length l0_0) (hc0_0 : l0_0.length ≤ c0_0) (hr0_1 : Kd.C (Kd.int .i64) w A0_1 l0_1.length l0_1) (hc0_1 : l0_1.length ≤ c0_1) (h : spec_Line_May.f k l0_0 l0_1 a1_0 a1_1 a1_2 a1_3 = some r) :
    Calls Try.prog 38 #[.agg #[.slice A0_0 l0_0.length c0_0, .slice A0_1 l0_1.length c0_1], .agg #[.int .i64 a1_0, .int .i64 a1_1, .int .i64 a1_2, .int .i64 a1_3]] w fun e w' => e = .returned (.bool r) ∧ Below w.heap.size w w' := by
  have hu61 := Try.underlying61
  have hu27 := Try.underlying27
  have HR0_0 := Aside0.mk hr0_0
  have HC0_0 := Aside0.mk hc0_0
  clear hr0_0 hc0_0
  have HR0_1 := Aside0.mk hr0_1
  have HC0_1 := Aside0.mk hc0_1
  clear hr0_1 hc0_1
  have HB := Aside0.mk (Below.refl w.heap.size w)
  have H : ((spec_lineAt.f k l0_1 a1_3).bind fun t121 => (if a1_1 = 2 then (spec_Line_May.j0 k (decide (t121 ≥ 0)) a1_1 (a1_1 == 2) l0_0 l0_1 a1_0 a1_1 a1_2 a1_3) else (if a1_1 = 7 then (spec_Line_May.j0 k (decide (t121 ≥ 0)) a1_1 (a1_1 == 7) l0_0 l0_1 a1_0 a1_1 a1_2 a1_3) else (spec_Line_May.j0 k (decide (t121 ≥ 0)) a1_1 (a1_1 == 8) l0_0 l0_1 a1_0 a1_1 a1_2 a1_3)))) = some r := h
  clear h
  replace H := Option.bind_eq_some_iff.mp H
  obtain ⟨t121, A30, H⟩ := H
  replace H : (if a1_1 = 2 then (spec_Line_May.j0 k (decide (t121 ≥ 0)) a1_1 (a1_1 == 2) l0_0 l0_1 a1_0 a1_1 a1_2 a1_3) else (if a1_1 = 7 then (spec_Line_May.j0 k (decide (t121 ≥ 0)) a1_1 (a1_1 == 7) l0_0 l0_1 a1_0 a1_1 a1_2 a1_3) else (spec_Line_May.j0 k (decide (t121 ≥ 0)) a1_1 (a1_1 == 8) l0_0 l0_1 a1_0 a1_1 a1_2 a1_3))) = some r := H
  have A3 := Aside0.mk A30
  clear A30
  have HC4 := Aside0.mk H
  clear H
  go_enter Try.func38, Try.ntmps38
  go_upto_if 14 with (first | ((with_reducible refine gate_dst (N := 2) rfl ?_); (try (refine gate_guard (by rfl) ?_; dsimp only)); refine box_event ?hg (N := 2) ?hd (cs := #[.slice A0_0 l0_0.length c0_0, .slice A0_1 l0_1.length c0_1]) (t := 61) ?hr ?_; (case hd => rfl); (case hg => rfl); (case hr => first | (go_simp; done) | (go_simp; rfl)); intro gb119 hg w5 hbox hb; have n0_ := Aside0.mk (below_step (by repeat (first | (with_reducible first | exact HB.out | apply below_alloc | apply pw_below_drewN | apply below_drew1) | exact HB.out)) hb); have n1_ := Aside0.mk (hbox); have n2_ := Aside0.mk ((by rw [hg]; exact (below_size (by repeat (first | (with_reducible first | exact HB.out | apply below_alloc | apply pw_below_drewN | apply below_drew1) | exact HB.out))) : w.heap.size ≤ gb119)); have n3_ := Aside0.mk ((by rw [hg]; exact (below_size (by repeat (first | (with_reducible first | exact HB.out | apply below_alloc | apply pw_below_drewN | apply below_drew1) | exact HB.out))) : w.heap.size ≤ gb119)); clear HB; have HB := n0_; have BK119 := n1_; have GW119 := n2_; have GE119 := n3_; clear n0_ n1_ n2_ n3_; clear hb hbox hg) | ((with_reducible refine gate_dst (N := 3) rfl ?_); (try (refine gate_guard (by rfl) ?_; dsimp only)); refine box_event ?hg (N := 3) ?hd (cs := #[.int .i64 a1_0, .int .i64 a1_1, .int .i64 a1_2, .int .i64 a1_3]) (t := 27) ?hr ?_; (case hd => rfl); (case hg => rfl); (case hr => first | (go_simp; done) | (go_simp; rfl)); intro gb120 hg w6 hbox hb; have n0_ := Aside0.mk (blk_below (g := gb119) (o := .cells #[.slice A0_0 l0_0.length c0_0, .slice A0_1 l0_1.length c0_1] 61 (0, 0)) (by (with_reducible repeat (first | refine blk_drewN ?_ _ | refine blk_drew ?_ | refine blk_alloc ?_ _)); exact BK119.out) hb); have n1_ := Aside0.mk (below_step (by repeat (first | (with_reducible first | exact HB.out | apply below_alloc | apply pw_below_drewN | apply below_drew1 | refine below_set ?_ GE119.out) | exact HB.out)) hb); have n2_ := Aside0.mk (hbox); have n3_ := Aside0.mk ((by rw [hg]; exact (below_size (by repeat (first | (with_reducible first | exact HB.out | apply below_alloc | apply pw_below_drewN | apply below_drew1 | refine below_set ?_ GE119.out) | exact HB.out))) : w.heap.size ≤ gb120)); have n4_ := Aside0.mk ((by rw [hg]; exact (below_size (by repeat (first | (with_reducible first | exact HB.out | apply below_alloc | apply pw_below_drewN | apply below_drew1 | refine below_set ?_ GE119.out) | exact HB.out))) : w.heap.size ≤ gb120)); have n5_ := Aside0.mk ((by rw [hg]; exact Nat.ne_of_lt (blk_lt (g := gb119) (o := .cells #[.slice A0_0 l0_0.length c0_0, .slice A0_1 l0_1.length c0_1] 61 (0, 0)) (by (with_reducible repeat (first | refine blk_drewN ?_ _ | refine blk_drew ?_ | refine blk_alloc ?_ _)); exact BK119.out)) : gb119 ≠ gb120)); have n6_ := Aside0.mk ((by rw [hg]; exact Nat.ne_of_gt (blk_lt (g := gb119) (o := .cells #[.slice A0_0 l0_0.length c0_0, .slice A0_1 l0_1.length c0_1] 61 (0, 0)) (by (with_reducible repeat (first | refine blk_drewN ?_ _ | refine blk_drew ?_ | refine blk_alloc ?_ _)); exact BK119.out)) : gb120 ≠ gb119)); clear BK119; clear HB; have BK119 := n0_; have HB := n1_; have BK120 := n2_; have GW120 := n3_; have GE120 := n4_; have NB119_120 := n5_; have NB120_119 := n6_; clear n0_ n1_ n2_ n3_ n4_ n5_ n6_; clear hb hbox hg; have hnb7 := NB119_120.out; have hnc7 := NB120_119.out; have hcz8_0 : w6.cell? ⟨gb119, 0, none⟩ = some (.slice A0_0 l0_0.length c0_0) := (blk_cell BK119.out 0).trans rfl; have hcz8_1 : w6.cell? ⟨gb119, 1, none⟩ = some (.slice A0_1 l0_1.length c0_1) := (blk_cell BK119.out 1).trans rfl; have hfz8_0 := blk_frozen BK119.out 0; have hfz8_1 := blk_frozen BK119.out 1; have hcz9_0 : w6.cell? ⟨gb120, 0, none⟩ = some (.int .i64 a1_0) := (blk_cell BK120.out 0).trans rfl; have hcz9_1 : w6.cell? ⟨gb120, 1, none⟩ = some (.int .i64 a1_1) := (blk_cell BK120.out 1).trans rfl; have hcz9_2 : w6.cell? ⟨gb120, 2, none⟩ = some (.int .i64 a1_2) := (blk_cell BK120.out 2).trans rfl; have hcz9_3 : w6.cell? ⟨gb120, 3, none⟩ = some (.int .i64 a1_3) := (blk_cell BK120.out 3).trans rfl; have hfz9_0 := blk_frozen BK120.out 0; have hfz9_1 := blk_frozen BK120.out 1; have hfz9_2 := blk_frozen BK120.out 2; have hfz9_3 := blk_frozen BK120.out 3) | ((with_reducible refine gate_callee (f := 67) rfl ?_); refine goesL_ (some 10) rfl rfl Try.func67 (by kernel_rfl) rfl #[.slice A0_1 l0_1.length c0_1, .int .i64 a1_3] rfl (by (try simp only [List.map_toArray, List.map_cons, List.map_nil]); first | done | rfl | (simp only [List.length_drop, List.length_take]; rfl)) ?_; (with_reducible refine (spec_lineAt.calls k _ _ l0_1 a1_3 t121 _ ?side1 ?side2 A3.out).mono ?_); (case side1 => repeat (first | exact (Kd.C_below HR0_1.out HB.out) | (with_reducible refine Kd.C_alloc ?_ _) | (with_reducible refine Kd.C_drewN ?_ _) | (with_reducible refine Kd.C_drew ?_))); (case side2 => exact HC0_1.out); rintro e w' ⟨rfl, ⟨nd, rfl⟩⟩; refine ⟨_, rfl, ?_⟩))
  (try simp only [Act.put, List.setIfInBounds_toArray, List.set_cons_zero, List.set_cons_succ])
  go_cut [14] (fun v14 wc => ∃ (kq : Nat) (x14_3 : Bool), v14 = .bool x14_3 ∧ Aside0 (spec_Line_May.j0 kq (decide (t121 ≥ 0)) a1_1 x14_3 l0_0 l0_1 a1_0 a1_1 a1_2 a1_3 = some r) ∧ Aside0 (kq ≤ k) ∧ Aside0 (wc.heap[gb119]? = some (.cells #[(.slice A0_0 l0_0.length c0_0), (.slice A0_1 l0_1.length c0_1)] 61 (0, 0))) ∧ Aside0 (wc.heap[gb120]? = some (.cells #[.int .i64 a1_0, .int .i64 a1_1, .int .i64 a1_2, .int .i64 a1_3] 27 (0, 0))) ∧ Aside0 (Below w.heap.size w wc))
  case first =>
    have H := HC4.out
    clear HC4
    by_cases c10 : a1_1 = 2
    · rw [if_pos c10] at H
      have c10b0 : (a1_1 == 2) = true := beq_iff_eq.mpr c10
      have c10b1 : (a1_1 != 2) = false := bne_eq_false_iff_eq.mpr c10
      clear c10
      (first | rw [c10b0] | (simp only [i64_w, i32_w]; rw [c10b0]) | skip)
      have H' := Aside0.mk H
      clear H
      go_wp2
      go_meet
      case rel => exact ⟨_, ((a1_1 == 2)), (by first | rfl | (simp; done) | (simp [*]; done)), H', ⟨by first | omega | exact Nat.le_refl _⟩, ⟨by (with_reducible repeat (first | refine blk_drewN ?_ _ | refine blk_drew ?_ | refine blk_alloc ?_ _)); exact BK119.out⟩, ⟨by (with_reducible repeat (first | refine blk_drewN ?_ _ | refine blk_drew ?_ | refine blk_alloc ?_ _)); exact BK120.out⟩, ⟨by repeat (first | (with_reducible first | exact HB.out | apply below_alloc | apply pw_below_drewN | apply below_drew1 | refine below_set ?_ GE119.out | refine below_set ?_ GE120.out) | exact HB.out)⟩⟩
    · rw [if_neg c10] at H
      have c10b0 : (a1_1 == 2) = false := beq_eq_false_iff_ne.mpr c10
      have c10b1 : (a1_1 != 2) = true := bne_iff_ne.mpr c10
      (first | rw [c10b0] | (simp only [i64_w, i32_w]; rw [c10b0]) | skip)
      by_cases c11 : a1_1 = 7
      · rw [if_pos c11] at H
        have c11b0 : (a1_1 == 7) = true := beq_iff_eq.mpr c11
        have c11b1 : (a1_1 != 7) = false := bne_eq_false_iff_eq.mpr c11
        clear c11
        have H' := Aside0.mk H
        clear H
        go_wp2
        go_meet
        case rel => exact ⟨_, ((a1_1 == 7)), (by first | rfl | (simp; done) | (simp [*]; done)), H', ⟨by first | omega | exact Nat.le_refl _⟩, ⟨by (with_reducible repeat (first | refine blk_drewN ?_ _ | refine blk_drew ?_ | refine blk_alloc ?_ _)); exact BK119.out⟩, ⟨by (with_reducible repeat (first | refine blk_drewN ?_ _ | refine blk_drew ?_ | refine blk_alloc ?_ _)); exact BK120.out⟩, ⟨by repeat (first | (with_reducible first | exact HB.out | apply below_alloc | apply pw_below_drewN | apply below_drew1 | refine below_set ?_ GE119.out | refine below_set ?_ GE120.out) | exact HB.out)⟩⟩
      · rw [if_neg c11] at H
        have c11b0 : (a1_1 == 7) = false := beq_eq_false_iff_ne.mpr c11
        have c11b1 : (a1_1 != 7) = true := bne_iff_ne.mpr c11
        have H' := Aside0.mk H
        clear H
        go_wp2
        go_meet
        case rel => exact ⟨_, ((a1_1 == 8)), (by first | rfl | (simp; done) | (simp [*]; done)), H', ⟨by first | omega | exact Nat.le_refl _⟩, ⟨by (with_reducible repeat (first | refine blk_drewN ?_ _ | refine blk_drew ?_ | refine blk_alloc ?_ _)); exact BK119.out⟩, ⟨by (with_reducible repeat (first | refine blk_drewN ?_ _ | refine blk_drew ?_ | refine blk_alloc ?_ _)); exact BK120.out⟩, ⟨by repeat (first | (with_reducible first | exact HB.out | apply below_alloc | apply pw_below_drewN | apply below_drew1 | refine below_set ?_ GE119.out | refine below_set ?_ GE120.out) | exact HB.out)⟩⟩
  case rest =>
    clear HC4
    try clear c1
    try clear p2
    try clear c3
    try clear c6
    try clear c7
    try clear c10
    try clear c10b0
    try clear c10b1
    try clear c11
    try clear c11b0
    try clear c11b1
    try clear hcz8_0
    try clear hcz8_1
    try clear hcz9_0
    try clear hcz9_1
    try clear hcz9_2
    try clear hcz9_3
    try clear hfz8_0
    try clear hfz8_1
    try clear hfz9_0
    try clear hfz9_1
    try clear hfz9_2
    try clear hfz9_3
    obtain ⟨kq, x14_3, rfl, HA, HJ3, BK119, BK120, HB⟩ := hcut
    cases kq with
    | zero => exact absurd HA.out (by simp [spec_Line_May.j0])
    | succ kj3 =>
      have H := HA.out
      clear HA
      simp only [spec_Line_May.j0] at H
      by_cases c12 : x14_3 = true
      · subst c12
        have H1 : (some (decide (t121 ≥ 0))) = some r := by rw [if_pos rfl] at H; exact H
        clear H
        have H := H1
        clear H1
        obtain rfl := Option.some.inj H
        go_wp2
        go_ret
        exact ⟨by first | rfl | (simp [errW_none, errW_some] <;> rfl) | (simp [*, errW_none, errW_some] <;> rfl), by repeat (first | (with_reducible first | exact HB.out | apply below_alloc | apply pw_below_drewN | apply below_drew1 | refine below_set ?_ GE119.out | refine below_set ?_ GE120.out) | exact HB.out)⟩
      · replace c12 := Bool.eq_false_iff.mpr c12
        subst c12
        have H1 : (if a1_1 = 3 then (if (decide (t121 ≥ 0)) = true then (some false) else (if a1_3 ≥ 0 then (some (decide (a1_3 < (l0_0.length : Int)))) else (some false))) else (if a1_1 = 4 then (if (decide (t121 ≥ 0)) = true then (some false) else (if a1_3 ≥ 0 then (some (decide (a1_3 < (l0_0.length : Int)))) else (some false))) else (some true))) = some r := by rw [if_neg (show ¬ (false = true) by decide)] at H; exact H
        clear H
        have H := H1
        clear H1
        by_cases c13 : a1_1 = 3
        · rw [if_pos c13] at H
          have c13b0 : (a1_1 == 3) = true := beq_iff_eq.mpr c13
          have c13b1 : (a1_1 != 3) = false := bne_eq_false_iff_eq.mpr c13
          clear c13
          by_cases c14 : (decide (t121 ≥ 0)) = true
          · rw [if_pos c14] at H
            have c14b0 : (decide (t121 ≥ 0)) = true := c14
            clear c14
            obtain rfl := Option.some.inj H
            go_wp2
            go_ret
            exact ⟨by first | rfl | (simp [errW_none, errW_some] <;> rfl) | (simp [*, errW_none, errW_some] <;> rfl), by repeat (first | (with_reducible first | exact HB.out | apply below_alloc | apply pw_below_drewN | apply below_drew1 | refine below_set ?_ GE119.out | refine below_set ?_ GE120.out) | exact HB.out)⟩
          · rw [if_neg c14] at H
            have c14b0 : (decide (t121 ≥ 0)) = false := by simpa using c14
            clear c14
            by_cases c15 : a1_3 ≥ 0
            · rw [if_pos c15] at H
              have c15b0 : decide (0 ≤ a1_3) = true := decide_eq_true c15
              clear c15
              obtain rfl := Option.some.inj H
              have hnb16 := NB120_119.out
              have hnc16 := NB119_120.out
              have hcz17_0 : wc.cell? ⟨gb120, 0, none⟩ = some (.int .i64 a1_0) := (blk_cell BK120.out 0).trans rfl
              have hcz17_1 : wc.cell? ⟨gb120, 1, none⟩ = some (.int .i64 a1_1) := (blk_cell BK120.out 1).trans rfl
              have hcz17_2 : wc.cell? ⟨gb120, 2, none⟩ = some (.int .i64 a1_2) := (blk_cell BK120.out 2).trans rfl
              have hcz17_3 : wc.cell? ⟨gb120, 3, none⟩ = some (.int .i64 a1_3) := (blk_cell BK120.out 3).trans rfl
              have hfz17_0 := blk_frozen BK120.out 0
              have hfz17_1 := blk_frozen BK120.out 1
              have hfz17_2 := blk_frozen BK120.out 2
              have hfz17_3 := blk_frozen BK120.out 3
              have hcz18_0 : wc.cell? ⟨gb119, 0, none⟩ = some (.slice A0_0 l0_0.length c0_0) := (blk_cell BK119.out 0).trans rfl
              have hcz18_1 : wc.cell? ⟨gb119, 1, none⟩ = some (.slice A0_1 l0_1.length c0_1) := (blk_cell BK119.out 1).trans rfl
              have hfz18_0 := blk_frozen BK119.out 0
              have hfz18_1 := blk_frozen BK119.out 1
              go_wp2
              go_ret
              exact ⟨by first | rfl | (simp [errW_none, errW_some] <;> rfl) | (simp [*, errW_none, errW_some] <;> rfl), by repeat (first | (with_reducible first | exact HB.out | apply below_alloc | apply pw_below_drewN | apply below_drew1 | refine below_set ?_ GE119.out | refine below_set ?_ GE120.out) | exact HB.out)⟩
            · rw [if_neg c15] at H
              have c15b0 : decide (0 ≤ a1_3) = false := decide_eq_false c15
              clear c15
              obtain rfl := Option.some.inj H
              have hnb19 := NB120_119.out
              have hnc19 := NB119_120.out
              have hcz20_0 : wc.cell? ⟨gb120, 0, none⟩ = some (.int .i64 a1_0) := (blk_cell BK120.out 0).trans rfl
              have hcz20_1 : wc.cell? ⟨gb120, 1, none⟩ = some (.int .i64 a1_1) := (blk_cell BK120.out 1).trans rfl
              have hcz20_2 : wc.cell? ⟨gb120, 2, none⟩ = some (.int .i64 a1_2) := (blk_cell BK120.out 2).trans rfl
              have hcz20_3 : wc.cell? ⟨gb120, 3, none⟩ = some (.int .i64 a1_3) := (blk_cell BK120.out 3).trans rfl
              have hfz20_0 := blk_frozen BK120.out 0
              have hfz20_1 := blk_frozen BK120.out 1
              have hfz20_2 := blk_frozen BK120.out 2
              have hfz20_3 := blk_frozen BK120.out 3
              go_wp2
              go_ret
              exact ⟨by first | rfl | (simp [errW_none, errW_some] <;> rfl) | (simp [*, errW_none, errW_some] <;> rfl), by repeat (first | (with_reducible first | exact HB.out | apply below_alloc | apply pw_below_drewN | apply below_drew1 | refine below_set ?_ GE119.out | refine below_set ?_ GE120.out) | exact HB.out)⟩
        · rw [if_neg c13] at H
          have c13b0 : (a1_1 == 3) = false := beq_eq_false_iff_ne.mpr c13
          have c13b1 : (a1_1 != 3) = true := bne_iff_ne.mpr c13
          by_cases c21 : a1_1 = 4
          · rw [if_pos c21] at H
            have c21b0 : (a1_1 == 4) = true := beq_iff_eq.mpr c21
            have c21b1 : (a1_1 != 4) = false := bne_eq_false_iff_eq.mpr c21
            clear c21
            by_cases c22 : (decide (t121 ≥ 0)) = true
            · rw [if_pos c22] at H
              have c22b0 : (decide (t121 ≥ 0)) = true := c22
              clear c22
              obtain rfl := Option.some.inj H
              go_wp2
              go_ret
              exact ⟨by first | rfl | (simp [errW_none, errW_some] <;> rfl) | (simp [*, errW_none, errW_some] <;> rfl), by repeat (first | (with_reducible first | exact HB.out | apply below_alloc | apply pw_below_drewN | apply below_drew1 | refine below_set ?_ GE119.out | refine below_set ?_ GE120.out) | exact HB.out)⟩
            · rw [if_neg c22] at H
              have c22b0 : (decide (t121 ≥ 0)) = false := by simpa using c22
              clear c22
              by_cases c23 : a1_3 ≥ 0
              · rw [if_pos c23] at H
                have c23b0 : decide (0 ≤ a1_3) = true := decide_eq_true c23
                clear c23
                obtain rfl := Option.some.inj H
                have hnb24 := NB120_119.out
                have hnc24 := NB119_120.out
                have hcz25_0 : wc.cell? ⟨gb120, 0, none⟩ = some (.int .i64 a1_0) := (blk_cell BK120.out 0).trans rfl
                have hcz25_1 : wc.cell? ⟨gb120, 1, none⟩ = some (.int .i64 a1_1) := (blk_cell BK120.out 1).trans rfl
                have hcz25_2 : wc.cell? ⟨gb120, 2, none⟩ = some (.int .i64 a1_2) := (blk_cell BK120.out 2).trans rfl
                have hcz25_3 : wc.cell? ⟨gb120, 3, none⟩ = some (.int .i64 a1_3) := (blk_cell BK120.out 3).trans rfl
                have hfz25_0 := blk_frozen BK120.out 0
                have hfz25_1 := blk_frozen BK120.out 1
                have hfz25_2 := blk_frozen BK120.out 2
                have hfz25_3 := blk_frozen BK120.out 3
                have hcz26_0 : wc.cell? ⟨gb119, 0, none⟩ = some (.slice A0_0 l0_0.length c0_0) := (blk_cell BK119.out 0).trans rfl
                have hcz26_1 : wc.cell? ⟨gb119, 1, none⟩ = some (.slice A0_1 l0_1.length c0_1) := (blk_cell BK119.out 1).trans rfl
                have hfz26_0 := blk_frozen BK119.out 0
                have hfz26_1 := blk_frozen BK119.out 1
                go_wp2
                go_ret
                exact ⟨by first | rfl | (simp [errW_none, errW_some] <;> rfl) | (simp [*, errW_none, errW_some] <;> rfl), by repeat (first | (with_reducible first | exact HB.out | apply below_alloc | apply pw_below_drewN | apply below_drew1 | refine below_set ?_ GE119.out | refine below_set ?_ GE120.out) | exact HB.out)⟩
              · rw [if_neg c23] at H
                have c23b0 : decide (0 ≤ a1_3) = false := decide_eq_false c23
                clear c23
                obtain rfl := Option.some.inj H
                have hnb27 := NB120_119.out
                have hnc27 := NB119_120.out
                have hcz28_0 : wc.cell? ⟨gb120, 0, none⟩ = some (.int .i64 a1_0) := (blk_cell BK120.out 0).trans rfl
                have hcz28_1 : wc.cell? ⟨gb120, 1, none⟩ = some (.int .i64 a1_1) := (blk_cell BK120.out 1).trans rfl
                have hcz28_2 : wc.cell? ⟨gb120, 2, none⟩ = some (.int .i64 a1_2) := (blk_cell BK120.out 2).trans rfl
                have hcz28_3 : wc.cell? ⟨gb120, 3, none⟩ = some (.int .i64 a1_3) := (blk_cell BK120.out 3).trans rfl
                have hfz28_0 := blk_frozen BK120.out 0
                have hfz28_1 := blk_frozen BK120.out 1
                have hfz28_2 := blk_frozen BK120.out 2
                have hfz28_3 := blk_frozen BK120.out 3
                go_wp2
                go_ret
                exact ⟨by first | rfl | (simp [errW_none, errW_some] <;> rfl) | (simp [*, errW_none, errW_some] <;> rfl), by repeat (first | (with_reducible first | exact HB.out | apply below_alloc | apply pw_below_drewN | apply below_drew1 | refine below_set ?_ GE119.out | refine below_set ?_ GE120.out) | exact HB.out)⟩
          · rw [if_neg c21] at H
            have c21b0 : (a1_1 == 4) = false := beq_eq_false_iff_ne.mpr c21
            have c21b1 : (a1_1 != 4) = true := bne_iff_ne.mpr c21
            obtain rfl := Option.some.inj H
            go_wp2
            go_ret
            exact ⟨by first | rfl | (simp [errW_none, errW_some] <;> rfl) | (simp [*, errW_none, errW_some] <;> rfl), by repeat (first | (with_reducible first | exact HB.out | apply below_alloc | apply pw_below_drewN | apply below_drew1 | refine below_set ?_ GE119.out | refine below_set ?_ GE120.out) | exact HB.out)⟩
def spec_cut.f (l0 : List Int) (a1 : Int) : Option (List Int) := (some (([] : List Int) : List Int)).bind fun y122 => (if 0 ≤ a1 then (if a1 ≤ (l0.length : Int) then (if y122.length + (l0.take (a1 : Int).toNat).length < 17592186044416 then ((some (y122 ++ (l0.take (a1 : Int).toNat) : List Int)).bind fun y126 => (if 0 ≤ (wrap64 (a1 + 1)) then (if (wrap64 (a1 + 1)) ≤ (l0.length : Int) then (if y126.length + (l0.drop ((wrap64 (a1 + 1)) : Int).toNat).length < 17592186044416 then (some (y126 ++ (l0.drop ((wrap64 (a1 + 1)) : Int).toNat))) else (none)) else (none)) else (none))) else (none)) else (none)) else (none))
set_option maxHeartbeats 8000000 in
set_option maxRecDepth 100000 in
theorem spec_cut.calls (A0 : Option Addr) (c0 : Nat) (l0 : List Int) (a1 : Int) (r : List Int) (w : World) (hr0 : Kd.C (Kd.int .i64) w A0 l0.length l0) (hc0 : l0.length ≤ c0) (h : spec_cut.f l0 a1 = some r) :
    Calls Try.prog 61 #[.slice A0 l0.length c0, .int .i64 a1] w fun e w' => ∃ v0_ : Value, e = .returned (v0_) ∧ Kd.R (Kd.int .i64) 3 w' w.heap.size (fun _ => True) v0_ r ∧ Below w.heap.size w w' := by
  have HR0 := Aside0.mk hr0
  have HC0 := Aside0.mk hc0
  clear hr0 hc0
  have HB := Aside0.mk (Below.refl w.heap.size w)
  have H : ((some (([] : List Int) : List Int)).bind fun y122 => (if 0 ≤ a1 then (if a1 ≤ (l0.length : Int) then (if y122.length + (l0.take (a1 : Int).toNat).length < 17592186044416 then ((some (y122 ++ (l0.take (a1 : Int).toNat) : List Int)).bind fun y126 => (if 0 ≤ (wrap64 (a1 + 1)) then (if (wrap64 (a1 + 1)) ≤ (l0.length : Int) then (if y126.length + (l0.drop ((wrap64 (a1 + 1)) : Int).toNat).length < 17592186044416 then (some (y126 ++ (l0.drop ((wrap64 (a1 + 1)) : Int).toNat))) else (none)) else (none)) else (none))) else (none)) else (none)) else (none))) = some r := h
  clear h
  obtain ⟨y122, hy122⟩ : ∃ y_ : List Int, y_ = (([] : List Int)) := ⟨_, rfl⟩
  replace H : (if 0 ≤ a1 then (if a1 ≤ (l0.length : Int) then (if y122.length + (l0.take (a1 : Int).toNat).length < 17592186044416 then ((some (y122 ++ (l0.take (a1 : Int).toNat) : List Int)).bind fun y126 => (if 0 ≤ (wrap64 (a1 + 1)) then (if (wrap64 (a1 + 1)) ≤ (l0.length : Int) then (if y126.length + (l0.drop ((wrap64 (a1 + 1)) : Int).toNat).length < 17592186044416 then (some (y126 ++ (l0.drop ((wrap64 (a1 + 1)) : Int).toNat))) else (none)) else (none)) else (none))) else (none)) else (none)) else (none)) = some r := by first | (rw [hy122]; with_reducible exact H) | (have H2_ := (Option.bind_some _ _).symm.trans H; rw [hy122]; with_reducible exact H2_) | (have H2_ := (Option.bind_some _ _).symm.trans H; with_reducible exact H2_) | with_reducible exact H | (rw [hy122]; exact H) | exact H
  have Ny122 := Aside0.mk hy122
  clear hy122
  by_cases c3 : 0 ≤ a1
  · rw [if_pos c3] at H
    have c3b0 := eq_true c3
    have c3b1 : decide (0 ≤ a1) = true := decide_eq_true c3
    clear c3
    by_cases c4 : a1 ≤ (l0.length : Int)
    · rw [if_pos c4] at H
      have c4b0 := eq_true c4
      have c4b1 : decide (a1 ≤ (l0.length : Int)) = true := decide_eq_true c4
      clear c4
      by_cases c5 : y122.length + (l0.take (a1 : Int).toNat).length < 17592186044416
      · rw [if_pos c5] at H
        have LMc5 := Aside0.mk c5
        clear c5
        obtain ⟨y126, hy126⟩ : ∃ y_ : List Int, y_ = (y122 ++ (l0.take (a1 : Int).toNat)) := ⟨_, rfl⟩
        replace H : (if 0 ≤ (wrap64 (a1 + 1)) then (if (wrap64 (a1 + 1)) ≤ (l0.length : Int) then (if y126.length + (l0.drop ((wrap64 (a1 + 1)) : Int).toNat).length < 17592186044416 then (some (y126 ++ (l0.drop ((wrap64 (a1 + 1)) : Int).toNat))) else (none)) else (none)) else (none)) = some r := by first | (rw [hy126]; with_reducible exact H) | (have H2_ := (Option.bind_some _ _).symm.trans H; rw [hy126]; with_reducible exact H2_) | (have H2_ := (Option.bind_some _ _).symm.trans H; with_reducible exact H2_) | with_reducible exact H | (rw [hy126]; exact H) | exact H
        have Ny126 := Aside0.mk hy126
        clear hy126
        obtain ⟨ji6, hji6⟩ : ∃ j_ : Int, (wrap64 (a1 + 1)) = j_ := ⟨_, rfl⟩
        replace H : (if 0 ≤ (ji6) then (if (ji6) ≤ (l0.length : Int) then (if y126.length + (l0.drop ((ji6) : Int).toNat).length < 17592186044416 then (some (y126 ++ (l0.drop ((ji6) : Int).toNat))) else (none)) else (none)) else (none)) = some r := by first | (rw [hji6] at H; exact H) | (simp only [hji6] at H ⊢; exact H)
        have hji6w : (IntKind.i64.wrap (a1 + 1)) = ji6 := (i64_w _).trans hji6
        by_cases c7 : 0 ≤ (ji6)
        · rw [if_pos c7] at H
          have c7b0 := eq_true c7
          have c7b1 : decide (0 ≤ (ji6)) = true := decide_eq_true c7
          clear c7
          by_cases c8 : (ji6) ≤ (l0.length : Int)
          · rw [if_pos c8] at H
            have c8b0 := eq_true c8
            have c8b1 : decide ((ji6) ≤ (l0.length : Int)) = true := decide_eq_true c8
            clear c8
            by_cases c9 : y126.length + (l0.drop ((ji6) : Int).toNat).length < 17592186044416
            · rw [if_pos c9] at H
              have LMc9 := Aside0.mk c9
              clear c9
              obtain ⟨y130, hy130⟩ : ∃ y_ : List Int, y_ = (y126 ++ (l0.drop ((ji6) : Int).toNat)) := ⟨_, rfl⟩
              replace H : (some y130) = some r := by first | (rw [hy130]; with_reducible exact H) | (have H2_ := (Option.bind_some _ _).symm.trans H; rw [hy130]; with_reducible exact H2_) | (have H2_ := (Option.bind_some _ _).symm.trans H; with_reducible exact H2_) | with_reducible exact H | (rw [hy130]; exact H) | exact H
              have Ny130 := Aside0.mk hy130
              clear hy130
              obtain rfl := Option.some.inj H
              go_enter Try.func61, Try.ntmps61
              go_wp2_with (first | ((with_reducible refine gate_dst (N := 6) rfl ?_); refine Kd.R_lit (Kd.int .i64) _ 3 ?hg (N := 6) ?hd (xs := ([] : List Int)) (inner := []) (ok := fun _ => True) (okp := fun _ => True) ?hr ?hp (fun _ hk => hk) trivial (Below.refl _ _) (Nat.le_refl _) (by simp) ?_; (case hd => rfl); (case hg => rfl); (case hr => first | (go_simp; done) | (go_simp; rfl)); (case hp => exact (Reps.none _ _)); intro v123 w10 ho11 hb hg_ hnew_; clear hg_ hnew_; (first | rw [← Ny122.out] at ho11 | (simp only [Int.reduceToNat] at ho11; rw [← Ny122.out] at ho11)); have n0_ := Aside0.mk (Kd.R_lower ho11 (below_size (by repeat (first | (with_reducible first | exact HB.out | apply below_alloc | apply pw_below_drewN | apply below_drew1) | exact HB.out)))); have n1_ := Aside0.mk (below_step (by repeat (first | (with_reducible first | exact HB.out | apply below_alloc | apply pw_below_drewN | apply below_drew1) | exact HB.out)) hb); clear HB; have HO124 := n0_; have HB := n1_; clear n0_ n1_; clear hb ho11; obtain ⟨i012, hi012, _, hsz12, _⟩ := info_parts info3; obtain ⟨hcut12, hA12, hC12⟩ := print_take_of (P := Try.prog) (Value.int .i64) 0 30 3 .i64 Try.underlying30 hi012 hsz12 A0 c0 l0 a1 (of_decide_eq_true (by first | (with_reducible assumption) | assumption)) (of_decide_eq_true (by first | (with_reducible assumption) | assumption)) HC0.out; have HR125 := Aside0.mk (Kd.C_of_reads (h1 := fun _ => rfl) (hA12 _ (Kd.reads_of_C HR0.out))); have HC125 := Aside0.mk hC12; clear hA12 hC12 hi012 hsz12) | ((with_reducible refine gate_builtin (b := .append) (xs := #[.tmp 6, .tmp 9]) rfl ?_); at_builtin; refine Kd.R_append_rows (Kd.int .i64) (w0 := w) w.heap.size rfl (.tmp 6) (.tmp 9) 30 3 (.int .i64 0) 8 rfl Try.underlying30 info3 rfl (by decide) (by omega) v123 y122 (l0.take (a1 : Int).toNat) _ _ _ (fun _ => True) (fun _ => False) rfl rfl ?aO ?aR (fun _ _ h => h) (fun _ h => h.elim) ?aF ?aB ?aS ?aL ?_; (case aR => first | (refine Eq.mp (congrArg (fun n_ => ReadsRow _ _ _ _ n_ _) (show (l0.take (a1 : Int).toNat).length = a1.toNat from (by rw [List.length_take]; have h_ : (a1 : Int) ≤ (l0.length : Int) := of_decide_eq_true (by first | (with_reducible assumption) | assumption); omega))) ?_; repeat (first | exact (Kd.C_below HR125.out HB.out) | (with_reducible refine Kd.C_alloc ?_ _) | (with_reducible refine Kd.C_drewN ?_ _) | (with_reducible refine Kd.C_drew ?_))) | (repeat (first | exact (Kd.C_below HR125.out HB.out) | (with_reducible refine Kd.C_alloc ?_ _) | (with_reducible refine Kd.C_drewN ?_ _) | (with_reducible refine Kd.C_drew ?_)))); (case aB => exact (by repeat (first | (with_reducible first | exact HB.out | apply below_alloc | apply pw_below_drewN | apply below_drew1) | exact HB.out))); (case aF => exact (fun _ _ => trivial)); (case aO => exact (by (with_reducible repeat (first | apply Kd.R_alloc | apply Kd.R_drewN | apply Kd.R_drew)); exact HO124.out)); (case aS => exact (below_size (by repeat (first | (with_reducible first | exact HB.out | apply below_alloc | apply pw_below_drewN | apply below_drew1) | exact HB.out)))); (case aL => have := LMc5.out; have hlx_ := (show (l0.take (a1 : Int).toNat).length = a1.toNat from (by rw [List.length_take]; have h_ : (a1 : Int) ≤ (l0.length : Int) := of_decide_eq_true (by first | (with_reducible assumption) | assumption); omega)); omega); intro v127 w13 ho hb hg hat; rw [← Ny126.out] at ho; have n0_ := Aside0.mk (hb); have n1_ := Aside0.mk (ho); clear HB; clear HO124; have HB := n0_; have HO128 := n1_; clear n0_ n1_; clear ho hb hg hat; obtain ⟨i014, hi014, _, hsz14, _⟩ := info_parts info3; obtain ⟨A14, hcut14, hA14, hC14⟩ := print_drop_of (P := Try.prog) (Value.int .i64) 0 30 3 .i64 Try.underlying30 hi014 hsz14 A0 c0 l0 (ji6) (of_decide_eq_true (by first | (with_reducible assumption) | assumption)) (of_decide_eq_true (by first | (with_reducible assumption) | assumption)) HC0.out; have HR129 := Aside0.mk (Kd.C_of_reads (h1 := fun _ => rfl) (hA14 _ (Kd.reads_of_C HR0.out))); have HC129 := Aside0.mk hC14; clear hA14 hC14 hi014 hsz14) | ((with_reducible refine gate_builtin (b := .append) (xs := #[.tmp 11, .tmp 15]) rfl ?_); at_builtin; refine Kd.R_append_rows (Kd.int .i64) (w0 := w) w.heap.size rfl (.tmp 11) (.tmp 15) 30 3 (.int .i64 0) 8 rfl Try.underlying30 info3 rfl (by decide) (by omega) v127 y126 (l0.drop ((ji6) : Int).toNat) _ _ _ (fun _ => True) (fun _ => False) rfl rfl ?aO ?aR (fun _ _ h => h) (fun _ h => h.elim) ?aF ?aB ?aS ?aL ?_; (case aR => first | (rw [← show (l0.drop ((ji6) : Int).toNat).length = (l0.length - (ji6).toNat) from List.length_drop]; repeat (first | exact (Kd.C_below HR129.out HB.out) | (with_reducible refine Kd.C_alloc ?_ _) | (with_reducible refine Kd.C_drewN ?_ _) | (with_reducible refine Kd.C_drew ?_))) | (repeat (first | exact (Kd.C_below HR129.out HB.out) | (with_reducible refine Kd.C_alloc ?_ _) | (with_reducible refine Kd.C_drewN ?_ _) | (with_reducible refine Kd.C_drew ?_)))); (case aB => exact (by repeat (first | (with_reducible first | exact HB.out | apply below_alloc | apply pw_below_drewN | apply below_drew1) | exact HB.out))); (case aF => exact (fun _ _ => trivial)); (case aO => exact (by (with_reducible repeat (first | apply Kd.R_alloc | apply Kd.R_drewN | apply Kd.R_drew)); exact HO128.out)); (case aS => exact (below_size (by repeat (first | (with_reducible first | exact HB.out | apply below_alloc | apply pw_below_drewN | apply below_drew1) | exact HB.out)))); (case aL => have := LMc9.out; have hlx_ := (show (l0.drop ((ji6) : Int).toNat).length = (l0.length - (ji6).toNat) from List.length_drop); omega); intro v131 w15 ho hb hg hat; rw [← Ny130.out] at ho; have n0_ := Aside0.mk (hb); have n1_ := Aside0.mk (ho); clear HB; clear HO128; have HB := n0_; have HO132 := n1_; clear n0_ n1_; clear ho hb hg hat))
              go_ret
              exact ⟨_, by first | rfl | (simp [errW_none, errW_some] <;> rfl) | (simp only [← hji6]; first | rfl | (simp [errW_none, errW_some] <;> rfl)) | (simp [*, errW_none, errW_some] <;> rfl), by (with_reducible repeat (first | apply Kd.R_alloc | apply Kd.R_drewN | apply Kd.R_drew)); exact HO132.out, by repeat (first | (with_reducible first | exact HB.out | apply below_alloc | apply pw_below_drewN | apply below_drew1) | exact HB.out)⟩
            · rw [if_neg c9] at H
              exact absurd H (by simp)
          · rw [if_neg c8] at H
            exact absurd H (by simp)
        · rw [if_neg c7] at H
          exact absurd H (by simp)
      · rw [if_neg c5] at H
        exact absurd H (by simp)
    · rw [if_neg c4] at H
      exact absurd H (by simp)
  · rw [if_neg c3] at H
    exact absurd H (by simp)
def spec_lineRow.l0 : Nat → List Int → List Int → List Int → Int → Option (List Int)
  | 0, _, _, _, _ => none
  | k + 1, x0, x1, x5, x6 => if x6 < (x1.length : Int) then (if 0 ≤ x6 then (if 0 ≤ (rd x1 x6) then (if (rd x1 x6) < (x0.length : Int) then (if x5.length < 17592186044416 then (spec_lineRow.l0 k x0 x1 (x5 ++ [rd x0 (rd x1 x6)]) (wrap64 (x6 + 1))) else (none)) else (none)) else (none)) else (none)) else (some x5)
def spec_lineRow.f (k : Nat) (l0 : List Int) (l1 : List Int) : Option (List Int) := spec_lineRow.l0 k l0 l1 ([] : List Int) 0
set_option maxHeartbeats 8000000 in
set_option maxRecDepth 100000 in
theorem spec_lineRow.calls (k : Nat) (A0 : Option Addr) (c0 : Nat) (l0 : List Int) (A1 : Option Addr) (c1 : Nat) (l1 : List Int) (r : List Int) (w : World) (hr0 : Kd.C (Kd.int .i64) w A0 l0.length l0) (hc0 : l0.length ≤ c0) (hr1 : Kd.C (Kd.int .i64) w A1 l1.length l1) (hc1 : l1.length ≤ c1) (h : spec_lineRow.f k l0 l1 = some r) :
    Calls Try.prog 70 #[.slice A0 l0.length c0, .slice A1 l1.length c1] w fun e w' => ∃ v0_ : Value, e = .returned (v0_) ∧ Kd.R (Kd.int .i64) 3 w' w.heap.size (fun _ => True) v0_ r ∧ Below w.heap.size w w' := by
  have HR0 := Aside0.mk hr0
  have HC0 := Aside0.mk hc0
  clear hr0 hc0
  have HR1 := Aside0.mk hr1
  have HC1 := Aside0.mk hc1
  clear hr1 hc1
  have HB := Aside0.mk (Below.refl w.heap.size w)
  have H : (spec_lineRow.l0 k l0 l1 ([] : List Int) 0) = some r := h
  clear h
  have H' := Aside0.mk H
  clear H
  go_enter Try.func70, Try.ntmps70
  go_wp2
  go_loopg [5, 6] k (fun kq v5 v6 w' => ∃ (x5_1 : List Int) (x6_1 : Int), v6 = .int .i64 x6_1 ∧ Aside0 (spec_lineRow.l0 kq l0 l1 x5_1 x6_1 = some r) ∧ Aside0 (kq ≤ k) ∧ Aside0 (Kd.R (Kd.int .i64) 3 w' w.heap.size (fun _ => True) v5 x5_1) ∧ Aside0 (Below w.heap.size w w'))
  case atStart => exact ⟨(([] : List Int)), (0), (by first | rfl | (simp; done) | (simp [*]; done)), H', ⟨Nat.le_refl _⟩, ⟨by first | exact Kd.R_nil _ _ _ _ _ | exact Kd.N_nil _ _ _ _ _ | exact Kd.V_nil _ _ _ _ _ | exact Kd.Q_nil _ _ _ _ _ | exact Kd.S_nil _ _ _ _ _⟩, ⟨by repeat (first | (with_reducible first | exact HB.out | apply below_alloc | apply pw_below_drewN | apply below_drew1) | exact HB.out)⟩⟩
  case round =>
    clear H'
    try clear c1
    try clear p2
    obtain ⟨x5_1, x6_1, rfl, HA, HK1, HO_5, HB⟩ := hrel
    cases gk with
    | zero => exact absurd HA.out (by simp [spec_lineRow.l0])
    | succ k1 =>
      have H := HA.out
      clear HA
      simp only [spec_lineRow.l0] at H
      by_cases c3 : x6_1 < (l1.length : Int)
      · rw [if_pos c3] at H
        have c3b0 : decide (x6_1 < (l1.length : Int)) = true := decide_eq_true c3
        clear c3
        by_cases c4 : 0 ≤ x6_1
        · rw [if_pos c4] at H
          have c4b0 : decide (0 ≤ x6_1) = true := decide_eq_true c4
          clear c4
          by_cases c5 : 0 ≤ (rd l1 x6_1)
          · rw [if_pos c5] at H
            have c5b0 : decide (0 ≤ (rd l1 x6_1)) = true := decide_eq_true c5
            clear c5
            by_cases c6 : (rd l1 x6_1) < (l0.length : Int)
            · rw [if_pos c6] at H
              have c6b0 : decide ((rd l1 x6_1) < (l0.length : Int)) = true := decide_eq_true c6
              clear c6
              by_cases c7 : x5_1.length < 17592186044416
              · rw [if_pos c7] at H
                have LMc7 := Aside0.mk c7
                clear c7
                obtain ⟨y135, hy135⟩ : ∃ y_ : List Int, y_ = (x5_1 ++ [rd l0 (rd l1 x6_1)]) := ⟨_, rfl⟩
                replace H : (spec_lineRow.l0 k1 l0 l1 y135 (wrap64 (x6_1 + 1))) = some r := by first | (rw [hy135]; with_reducible exact H) | (have H2_ := (Option.bind_some _ _).symm.trans H; rw [hy135]; with_reducible exact H2_) | (have H2_ := (Option.bind_some _ _).symm.trans H; with_reducible exact H2_) | with_reducible exact H | (rw [hy135]; exact H) | exact H
                have Ny135 := Aside0.mk hy135
                clear hy135
                have H' := Aside0.mk H
                clear H
                have p133 : 0 ≤ (x6_1 : Int) := of_decide_eq_true (by first | (with_reducible assumption) | assumption)
                have q133 : x6_1 < (l1.length : Int) := of_decide_eq_true (by first | (with_reducible assumption) | assumption)
                obtain ⟨ad133, e133, hx133_0⟩ := Kd.at_int HR1.out x6_1 p133 q133
                cases e133
                replace hx133_0 := (HB.out.cell (World.block_lt_of_cell? w _ hx133_0)).trans hx133_0
                replace p133 := eq_true p133
                replace q133 := eq_true q133
                have p134 : 0 ≤ ((rd l1 x6_1) : Int) := of_decide_eq_true (by first | (with_reducible assumption) | assumption)
                have q134 : (rd l1 x6_1) < (l0.length : Int) := of_decide_eq_true (by first | (with_reducible assumption) | assumption)
                obtain ⟨ad134, e134, hx134_0⟩ := Kd.at_int HR0.out (rd l1 x6_1) p134 q134
                cases e134
                replace hx134_0 := (HB.out.cell (World.block_lt_of_cell? w _ hx134_0)).trans hx134_0
                replace p134 := eq_true p134
                replace q134 := eq_true q134
                go_wp2_with (first | ((with_reducible refine gate_builtin (b := .append) (xs := #[.tmp 13, .tmp 21]) rfl ?_); at_builtin; refine Kd.R_append (Kd.int .i64) (w0 := w) w.heap.size rfl (.tmp 13) (.tmp 21) 30 3 (.int .i64 0) 8 rfl Try.underlying30 info3 rfl (by decide) (by omega) u5 x5_1 (rd l0 (rd l1 x6_1)) [.int .i64 (rd l0 (rd l1 x6_1))] (fun _ => True) (fun _ => False) rfl rfl ?aP (fun _ hk => hk.elim) ?aF ?aO ?aB ?aS ?aL ?_; (case aP => exact rfl); (case aB => exact (by repeat (first | (with_reducible first | exact HB.out | apply below_alloc | apply pw_below_drewN | apply below_drew1) | exact HB.out))); (case aF => exact (fun _ _ => trivial)); (case aO => exact (by (with_reducible repeat (first | apply Kd.R_alloc | apply Kd.R_drewN | apply Kd.R_drew)); exact HO_5.out)); (case aS => exact (below_size (by repeat (first | (with_reducible first | exact HB.out | apply below_alloc | apply pw_below_drewN | apply below_drew1) | exact HB.out)))); (case aL => have := LMc7.out; omega); intro v136 w8 ho hb hg hat; rw [← Ny135.out] at ho; have n0_ := Aside0.mk (hb); have n1_ := Aside0.mk (ho); clear HB; clear HO_5; have HB := n0_; have HO137 := n1_; clear n0_ n1_; clear ho hb hg hat))
                go_roundg k1
                case measure => have := HK1.out; omega
                case rel => exact ⟨(y135), (wrap64 (x6_1 + 1)), (by first | rfl | (simp; done) | (simp [*]; done)), H', ⟨by have := HK1.out; omega⟩, ⟨by (with_reducible repeat (first | apply Kd.R_alloc | apply Kd.R_drewN | apply Kd.R_drew)); exact HO137.out⟩, ⟨by repeat (first | (with_reducible first | exact HB.out | apply below_alloc | apply pw_below_drewN | apply below_drew1) | exact HB.out)⟩⟩
              · rw [if_neg c7] at H
                exact absurd H (by simp)
            · rw [if_neg c6] at H
              exact absurd H (by simp)
          · rw [if_neg c5] at H
            exact absurd H (by simp)
        · rw [if_neg c4] at H
          exact absurd H (by simp)
      · rw [if_neg c3] at H
        have c3b0 : decide (x6_1 < (l1.length : Int)) = false := decide_eq_false c3
        clear c3
        obtain rfl := Option.some.inj H
        go_wp2
        go_ret
        exact ⟨_, by first | rfl | (simp [errW_none, errW_some] <;> rfl) | (simp [*, errW_none, errW_some] <;> rfl), by (with_reducible repeat (first | apply Kd.R_alloc | apply Kd.R_drewN | apply Kd.R_drew)); exact HO_5.out, by repeat (first | (with_reducible first | exact HB.out | apply below_alloc | apply pw_below_drewN | apply below_drew1) | exact HB.out)⟩
def spec_lineTurned.l0 : Nat → List Int → List Int → Int → Option (List Int)
  | 0, _, _, _ => none
  | k + 1, x0, x3, x4 => if x4 ≥ 0 then (if 0 ≤ x4 then (if x4 < (x0.length : Int) then (if x3.length < 17592186044416 then (spec_lineTurned.l0 k x0 (x3 ++ [rd x0 x4]) (wrap64 (x4 - 1))) else (none)) else (none)) else (none)) else (some x3)
def spec_lineTurned.f (k : Nat) (l0 : List Int) : Option (List Int) := spec_lineTurned.l0 k l0 ([] : List Int) (wrap64 ((l0.length : Int) - 1))
set_option maxHeartbeats 8000000 in
set_option maxRecDepth 100000 in
theorem spec_lineTurned.calls (k : Nat) (A0 : Option Addr) (c0 : Nat) (l0 : List Int) (r : List Int) (w : World) (hr0 : Kd.C (Kd.int .i64) w A0 l0.length l0) (hc0 : l0.length ≤ c0) (h : spec_lineTurned.f k l0 = some r) :
    Calls Try.prog 71 #[.slice A0 l0.length c0] w fun e w' => ∃ v0_ : Value, e = .returned (v0_) ∧ Kd.R (Kd.int .i64) 3 w' w.heap.size (fun _ => True) v0_ r ∧ Below w.heap.size w w' := by
  have HR0 := Aside0.mk hr0
  have HC0 := Aside0.mk hc0
  clear hr0 hc0
  have HB := Aside0.mk (Below.refl w.heap.size w)
  have H : (spec_lineTurned.l0 k l0 ([] : List Int) (wrap64 ((l0.length : Int) - 1))) = some r := h
  clear h
  have H' := Aside0.mk H
  clear H
  go_enter Try.func71, Try.ntmps71
  go_wp2
  go_loopg [3, 4] k (fun kq v3 v4 w' => ∃ (x3_1 : List Int) (x4_1 : Int), v4 = .int .i64 x4_1 ∧ Aside0 (spec_lineTurned.l0 kq l0 x3_1 x4_1 = some r) ∧ Aside0 (kq ≤ k) ∧ Aside0 (Kd.R (Kd.int .i64) 3 w' w.heap.size (fun _ => True) v3 x3_1) ∧ Aside0 (Below w.heap.size w w'))
  case atStart => exact ⟨(([] : List Int)), (wrap64 ((l0.length : Int) - 1)), (by first | rfl | (simp; done) | (simp [*]; done)), H', ⟨Nat.le_refl _⟩, ⟨by first | exact Kd.R_nil _ _ _ _ _ | exact Kd.N_nil _ _ _ _ _ | exact Kd.V_nil _ _ _ _ _ | exact Kd.Q_nil _ _ _ _ _ | exact Kd.S_nil _ _ _ _ _⟩, ⟨by repeat (first | (with_reducible first | exact HB.out | apply below_alloc | apply pw_below_drewN | apply below_drew1) | exact HB.out)⟩⟩
  case round =>
    clear H'
    obtain ⟨x3_1, x4_1, rfl, HA, HK1, HO_3, HB⟩ := hrel
    cases gk with
    | zero => exact absurd HA.out (by simp [spec_lineTurned.l0])
    | succ k1 =>
      have H := HA.out
      clear HA
      simp only [spec_lineTurned.l0] at H
      by_cases c2 : x4_1 ≥ 0
      · rw [if_pos c2] at H
        have c2b0 : decide (0 ≤ x4_1) = true := decide_eq_true c2
        clear c2
        by_cases c3 : 0 ≤ x4_1
        · rw [if_pos c3] at H
          have c3b0 : decide (0 ≤ x4_1) = true := decide_eq_true c3
          clear c3
          by_cases c4 : x4_1 < (l0.length : Int)
          · rw [if_pos c4] at H
            have c4b0 : decide (x4_1 < (l0.length : Int)) = true := decide_eq_true c4
            clear c4
            by_cases c5 : x3_1.length < 17592186044416
            · rw [if_pos c5] at H
              have LMc5 := Aside0.mk c5
              clear c5
              obtain ⟨y139, hy139⟩ : ∃ y_ : List Int, y_ = (x3_1 ++ [rd l0 x4_1]) := ⟨_, rfl⟩
              replace H : (spec_lineTurned.l0 k1 l0 y139 (wrap64 (x4_1 - 1))) = some r := by first | (rw [hy139]; with_reducible exact H) | (have H2_ := (Option.bind_some _ _).symm.trans H; rw [hy139]; with_reducible exact H2_) | (have H2_ := (Option.bind_some _ _).symm.trans H; with_reducible exact H2_) | with_reducible exact H | (rw [hy139]; exact H) | exact H
              have Ny139 := Aside0.mk hy139
              clear hy139
              have H' := Aside0.mk H
              clear H
              have p138 : 0 ≤ (x4_1 : Int) := of_decide_eq_true (by first | (with_reducible assumption) | assumption)
              have q138 : x4_1 < (l0.length : Int) := of_decide_eq_true (by first | (with_reducible assumption) | assumption)
              obtain ⟨ad138, e138, hx138_0⟩ := Kd.at_int HR0.out x4_1 p138 q138
              cases e138
              replace hx138_0 := (HB.out.cell (World.block_lt_of_cell? w _ hx138_0)).trans hx138_0
              replace p138 := eq_true p138
              replace q138 := eq_true q138
              go_wp2_with (first | ((with_reducible refine gate_builtin (b := .append) (xs := #[.tmp 12, .tmp 17]) rfl ?_); at_builtin; refine Kd.R_append (Kd.int .i64) (w0 := w) w.heap.size rfl (.tmp 12) (.tmp 17) 30 3 (.int .i64 0) 8 rfl Try.underlying30 info3 rfl (by decide) (by omega) u3 x3_1 (rd l0 x4_1) [.int .i64 (rd l0 x4_1)] (fun _ => True) (fun _ => False) rfl rfl ?aP (fun _ hk => hk.elim) ?aF ?aO ?aB ?aS ?aL ?_; (case aP => exact rfl); (case aB => exact (by repeat (first | (with_reducible first | exact HB.out | apply below_alloc | apply pw_below_drewN | apply below_drew1) | exact HB.out))); (case aF => exact (fun _ _ => trivial)); (case aO => exact (by (with_reducible repeat (first | apply Kd.R_alloc | apply Kd.R_drewN | apply Kd.R_drew)); exact HO_3.out)); (case aS => exact (below_size (by repeat (first | (with_reducible first | exact HB.out | apply below_alloc | apply pw_below_drewN | apply below_drew1) | exact HB.out)))); (case aL => have := LMc5.out; omega); intro v140 w6 ho hb hg hat; rw [← Ny139.out] at ho; have n0_ := Aside0.mk (hb); have n1_ := Aside0.mk (ho); clear HB; clear HO_3; have HB := n0_; have HO141 := n1_; clear n0_ n1_; clear ho hb hg hat))
              go_roundg k1
              case measure => have := HK1.out; omega
              case rel => exact ⟨(y139), (wrap64 (x4_1 - 1)), (by first | rfl | (simp; done) | (simp [*]; done)), H', ⟨by have := HK1.out; omega⟩, ⟨by (with_reducible repeat (first | apply Kd.R_alloc | apply Kd.R_drewN | apply Kd.R_drew)); exact HO141.out⟩, ⟨by repeat (first | (with_reducible first | exact HB.out | apply below_alloc | apply pw_below_drewN | apply below_drew1) | exact HB.out)⟩⟩
            · rw [if_neg c5] at H
              exact absurd H (by simp)
          · rw [if_neg c4] at H
            exact absurd H (by simp)
        · rw [if_neg c3] at H
          exact absurd H (by simp)
      · rw [if_neg c2] at H
        have c2b0 : decide (0 ≤ x4_1) = false := decide_eq_false c2
        clear c2
        obtain rfl := Option.some.inj H
        go_wp2
        go_ret
        exact ⟨_, by first | rfl | (simp [errW_none, errW_some] <;> rfl) | (simp [*, errW_none, errW_some] <;> rfl), by (with_reducible repeat (first | apply Kd.R_alloc | apply Kd.R_drewN | apply Kd.R_drew)); exact HO_3.out, by repeat (first | (with_reducible first | exact HB.out | apply below_alloc | apply pw_below_drewN | apply below_drew1) | exact HB.out)⟩
end Go.Proofs.Ytmhnhfmkcipcpaa.LnFn

namespace Go.Proofs.Ytmhnhfmkcipcpaa.Hk
open Go
open Go.RowKit
/-- Outside of the blocks S all that was there is as it was. -/
structure Fr (S : Nat → Prop) (w w' : World) : Prop where
  os : w'.os = w.os
  tape : w'.tape = w.tape
  output : w'.output = w.output
  size : w.heap.size ≤ w'.heap.size
  block : ∀ k, k < w.heap.size → ¬ S k → w'.heap[k]? = w.heap[k]?
theorem Fr.refl (S : Nat → Prop) (w : World) : Fr S w w := ⟨rfl, rfl, rfl, Nat.le_refl _, fun _ _ _ => rfl⟩
theorem Fr.trans {S S' : Nat → Prop} {a b c : World} (h : Fr S a b) (k : Fr S' b c) (hs : ∀ n, n < a.heap.size → S' n → S n) : Fr S a c :=
  ⟨k.os.trans h.os, k.tape.trans h.tape, k.output.trans h.output, Nat.le_trans h.size k.size,
    fun i hi hn => (k.block i (Nat.lt_of_lt_of_le hi h.size) (fun hk => hn (hs i hi hk))).trans (h.block i hi hn)⟩
theorem Fr.mono {S S' : Nat → Prop} {w w' : World} (h : Fr S w w') (hs : ∀ n, n < w.heap.size → S n → S' n) : Fr S' w w' :=
  ⟨h.os, h.tape, h.output, h.size, fun k hk hn => h.block k hk (fun hS => hn (hs k hk hS))⟩
theorem Fr.drew {S : Nat → Prop} {a w : World} (h : Fr S a w) : Fr S a w.drew := ⟨h.os, h.tape, h.output, h.size, h.block⟩
theorem Fr.alloc {S : Nat → Prop} {a w : World} (h : Fr S a w) (o : Obj) : Fr S a (w.alloc o) :=
  h.trans (S' := fun _ => False) ⟨rfl, rfl, rfl, by simp, fun k hk _ => Below.heap_alloc _ _ _ hk⟩ (fun _ _ h => h.elim)
theorem Fr.setCell {S : Nat → Prop} {a w : World} (h : Fr S a w) {p : Addr} (hp : p.block < a.heap.size → S p.block) (u : Value) : Fr S a (w.setCell p u) :=
  h.trans (S' := fun k => k = p.block) ⟨rfl, rfl, rfl, by simp [World.setCell], fun k hk hn => Below.heap_setCell _ _ _ _ hn⟩ (fun n hn e => by subst e; exact hp hn)
/-- A frame over blocks from 'base' on. -/
theorem Fr.below {S : Nat → Prop} {w w' : World} (h : Fr S w w') {base : Nat} (hb : base ≤ w.heap.size) (hS : ∀ k, S k → base ≤ k) : Below base w w' :=
  ⟨h.os, h.tape, h.output, h.size, fun k hk => h.block k (by omega) (fun hk' => by have := hS k hk'; omega)⟩
theorem Fr.of_grown {w w' : World} {row : Option Nat} (h : w.grownBy w' row) : Fr (fun k => some k = row) w w' :=
  ⟨h.os, h.tape, h.output, h.size, fun k hk hn => h.block k hk hn⟩
/-- A block of cells, none of them frozen. -/
def Blk (w : World) (b : Nat) (cs : Array Value) (t : TypeId) : Prop := w.heap[b]? = some (.cells cs t (0, 0))
section
variable {w : World} {b : Nat} {cs : Array Value} {t : TypeId}
theorem Blk.lt (h : Blk w b cs t) : b < w.heap.size := lt_of_block h
theorem Blk.cell (h : Blk w b cs t) (i : Nat) : w.cell? ⟨b, i, none⟩ = cs[i]? := by
  have h' : w.heap[b]? = some (.cells cs t (0, 0)) := h
  simp [World.cell?, h']
theorem Blk.free (h : Blk w b cs t) (i : Nat) : w.frozen? ⟨b, i, none⟩ = false := by
  have h' : w.heap[b]? = some (.cells cs t (0, 0)) := h
  simp [World.frozen?, h']
theorem Blk.fr {S : Nat → Prop} {w' : World} (h : Blk w b cs t) (hf : Fr S w w') (hn : ¬ S b) : Blk w' b cs t := (hf.block b h.lt hn).trans h
theorem Blk.below {base : Nat} {w' : World} (h : Blk w b cs t) (hf : Below base w w') (hn : b < base) : Blk w' b cs t := (hf.block b hn).trans h
theorem Blk.drew (h : Blk w b cs t) : Blk w.drew b cs t := h
theorem Blk.alloc (h : Blk w b cs t) (o : Obj) : Blk (w.alloc o) b cs t := (Below.heap_alloc w o b h.lt).trans h
theorem Blk.new (w : World) (cs : Array Value) (t : TypeId) : Blk (w.alloc (.cells cs t)) w.heap.size cs t := heap_alloc_new w _
theorem Blk.set (h : Blk w b cs t) (i : Nat) (v : Value) : Blk (w.setCell ⟨b, i, none⟩ v) b (cs.setIfInBounds i v) t := by
  have hlt := h.lt
  have h0 : w.heap[b]? = some (.cells cs t (0, 0)) := h
  have h' : w.heap[b] = .cells cs t (0, 0) := by simpa [Array.getElem?_eq_getElem hlt] using h0
  show (w.heap.modify b _)[b]? = _
  rw [Array.getElem?_eq_getElem (by simpa using hlt), Array.getElem_modify_self, h']
  rfl
theorem Blk.other (h : Blk w b cs t) (a : Addr) (v : Value) (hn : b ≠ a.block) : Blk (w.setCell a v) b cs t := (Below.heap_setCell _ _ _ _ hn).trans h
theorem Blk.inj {cs' : Array Value} {t' : TypeId} (h : Blk w b cs t) (h' : Blk w b cs' t') : cs = cs' ∧ t = t' := by
  have e : some (Obj.cells cs t (0, 0)) = some (.cells cs' t' (0, 0)) := h.symm.trans h'
  injection e with e; injection e with e1 e2; exact ⟨e1, e2⟩
end
end Go.Proofs.Ytmhnhfmkcipcpaa.Hk

namespace Go.Proofs.Ytmhnhfmkcipcpaa.Row
open Go Go.RowKit Go.Proofs.Ytmhnhfmkcipcpaa.Hk Go.Proofs.YtmhnhfmkcipcpaaW.PrintWords Go.Proofs.YtmhnhfmkcipcpaaW.PrintLast Go.Proofs.YtmhnhfmkcipcpaaW.PrintMore
theorem hid {p : Prop} (h : p) : Hid p := h
theorem alloc_size (w : World) (o : Obj) : (w.alloc o).heap.size = w.heap.size + 1 := by simp
/-- append(v, p), at a step of a region that draws: p's cells lie anywhere. -/
theorem append_step {P : Program} {ops : Array Oper} {o : Oper} {a : Act} {K : Act → World → Prop} {Q : Exit → Act → World → Prop} {E : Prop} {α : Type} (d : Kd α)
    (hgd : o.guard = none) (s x : Operand) (t e : TypeId) (z : Value) (bytes : Nat)
    (ho : o.op = .call { callee := .builtin .append, args := #[s, x], argTypes := #[t, t] })
    (ht : P.underlying t = some (.slice e)) (hinfo : (P.info? e).map (fun i => (i.zero, i.size, i.bytes)) = some (some z, d.sz, bytes)) (hz : z.cells.size = d.sz) (hs0 : 0 < d.sz)
    (base : Nat) (v : Value) (xs : List α) (p : α) (cs : List Value) (ok okp : Nat → Prop) (W : World) (hs : a.eval s = v) (hR : d.R e W base ok v xs)
    (ad : Addr) (c : Nat) (hx : a.eval x = .slice (some ad) 1 c) (hp : d.M W base okp p cs) (hcs : ∀ j u, cs[j]? = some u → W.cell? (ad.add j) = some u)
    (hokp : ∀ k, okp k → ok k ∧ some k ≠ v.ownBlock) (hfresh : ∀ k, W.heap.size ≤ k → ok k)
    (hl : (xs.length + 1) * bytes ≤ 140737488355328) (hb0 : 0 < bytes) (hbase : base ≤ W.heap.size)
    (h : ∀ v1 w1, d.R e w1 base ok v1 (xs ++ [p]) → W.grownBy w1 v.ownBlock → (v1.ownBlock = v.ownBlock ∨ ∃ b, v1.ownBlock = some b ∧ W.heap.size ≤ b) → K (a.put o.dst v1) w1) :
    if Region.wanted o (yielded ops a.tmps) = true then Oper.wp P o a W K Q else E := by
  obtain ⟨i, hi, hi2⟩ := Option.map_eq_some_iff.1 hinfo
  simp only [Prod.mk.injEq] at hi2
  obtain ⟨i0, i1, i2⟩ := hi2
  obtain ⟨h0, inner, hown, hr⟩ := hR
  have hk := d.K_of_M hp
  have hm : xs.length + 1 ≤ maxLen := by
    have : (xs.length + 1) * 1 ≤ (xs.length + 1) * bytes := Nat.mul_le_mul_left _ hb0
    unfold maxLen
    omega
  refine step_append_lies W hgd s x t ho base e i z d.sz bytes ht hi i0 i1 i2 hz hs0 v xs.length inner hs hown ad 1 c cs hx (by rw [d.K_len hk]; omega) hcs (d.K_one hk) (by omega) hm hl hbase _ rfl ?_
  intro g cap w' a1 a2 a3 a4
  refine h _ _ ?_ a2 ?_
  · refine Kd.R_appended h0 hr hp hokp hfresh ?_ a2 ?_
    · exact a1
    · rcases a3 with a3 | a3
      · exact .inl a3.symm
      · exact .inr ⟨g, rfl, by omega⟩
  · rcases a3 with a3 | a3
    · exact .inl a3.symm
    · exact .inr ⟨g, rfl, by omega⟩
/-- .. of numbers. -/
theorem append_int {P : Program} {ops : Array Oper} {o : Oper} {a : Act} {K : Act → World → Prop} {Q : Exit → Act → World → Prop} {E : Prop}
    (hgd : o.guard = none) (s x : Operand) (t e : TypeId)
    (ho : o.op = .call { callee := .builtin .append, args := #[s, x], argTypes := #[t, t] })
    (ht : P.underlying t = some (.slice e)) (hinfo : (P.info? e).map (fun i => (i.zero, i.size, i.bytes)) = some (some (.int .i64 0), 1, 8))
    (base : Nat) (v : Value) (xs : List Int) (p : Int) (ok : Nat → Prop) (W : World) (hs : a.eval s = v) (hR : (Kd.int .i64).R e W base ok v xs)
    (ad : Addr) (c : Nat) (hx : a.eval x = .slice (some ad) 1 c) (hc : W.cell? ad = some (.int .i64 p))
    (hl : (xs.length + 1) * 8 ≤ 140737488355328) (hbase : base ≤ W.heap.size)
    (h : ∀ v1 w1, (Kd.int .i64).R e w1 base (fun _ => True) v1 (xs ++ [p]) → W.grownBy w1 v.ownBlock → (v1.ownBlock = v.ownBlock ∨ ∃ b, v1.ownBlock = some b ∧ W.heap.size ≤ b) → K (a.put o.dst v1) w1) :
    if Region.wanted o (yielded ops a.tmps) = true then Oper.wp P o a W K Q else E := by
  refine append_step (Kd.int .i64) hgd s x t e (.int .i64 0) 8 ho ht hinfo rfl (by decide) base v xs p [.int .i64 p] (fun _ => True) (fun _ => False) W hs (Kd.R_mono hR (fun _ _ => trivial)) ad c hx rfl ?_ (fun _ hk => hk.elim) (fun _ _ => trivial) hl (by omega) hbase h
  intro j u hj
  match j, hj with
  | 0, hj => rw [Addr.add_zero']; rw [hc]; simpa using hj
/-- Rows of a structure, out of rows of its fields. -/
theorem reps_map {α β : Type} {R : α → List Value → Prop} {f : β → α} {sz : Nat} {xs : List β} {inner : List Value} (h : Reps R sz (xs.map f) inner) : Reps (fun x => R (f x)) sz xs inner :=
  ⟨by have := h.1; rwa [List.length_map] at this, fun j p hj => h.2 j (f p) (by rw [List.getElem?_map, hj]; rfl)⟩
theorem S_iso {α β : Type} {d : Kd α} {f : β → α} {e : Nat} {w : World} {base : Nat} {ok : Nat → Prop} {v : Value} {xs : List β} (h : Kd.S d e w base ok v (xs.map f)) : Kd.S (Kd.iso d f) e w base ok v xs := by
  obtain ⟨g, h0, inner, ho, hr⟩ := h
  have e1 : (xs.map f).zipIdx = xs.zipIdx.map (fun p => (f p.1, p.2)) := by
    apply List.ext_getElem?
    intro j
    simp only [List.getElem?_zipIdx, List.getElem?_map]
    cases xs[j]? <;> rfl
  rw [e1] at ho hr
  rw [List.length_map] at ho
  exact ⟨g, h0, inner, ho, reps_map (f := fun p : β × Nat => (f p.1, p.2)) hr⟩
theorem C_iso {α β : Type} {d : Kd α} {f : β → α} {w : World} {A : Option Addr} {n : Nat} {xs : List β} (h : (Kd.iso d f).C w A n xs) : d.C w A n (xs.map f) := by
  obtain ⟨h1, h2, h3⟩ := h
  refine ⟨by rw [List.length_map]; exact h1, h2, fun hn => ?_⟩
  obtain ⟨ad, e, hc⟩ := h3 hn
  refine ⟨ad, e, fun j p hj => ?_⟩
  rw [List.getElem?_map] at hj
  obtain ⟨q, hq, rfl⟩ := Option.map_eq_some_iff.1 hj
  exact hc j q hq
end Go.Proofs.Ytmhnhfmkcipcpaa.Row

namespace Go.Proofs.Ytmhnhfmkcipcpaa.Seen
open Go Go.RowKit Go.Proofs.Ytmhnhfmkcipcpaa.Hk Go.Proofs.YtmhnhfmkcipcpaaW.PrintWords Go.Proofs.YtmhnhfmkcipcpaaW.PrintLast Go.Proofs.YtmhnhfmkcipcpaaW.PrintMore
def cells (x : Int × Bool) : List Value := [.int .i64 x.1, .bool x.2, .slice none 0 0, .slice none 0 0]
theorem cells_one {x : Int × Bool} : ∀ u ∈ cells x, u.oneCell' = true := by
  intro u hu
  simp only [cells, List.mem_cons, List.not_mem_nil, or_false] at hu
  rcases hu with rfl | rfl | rfl | rfl <;> rfl
def seenN : Kd (Int × Bool) where
  sz := 4
  E := []
  K := fun _ x cs => cs = cells x
  M := fun _ _ _ x cs => cs = cells x
  K_len := fun h => by rw [h]; rfl
  K_one := fun h u hu => by
    rw [h] at hu
    exact cells_one u hu
  K_below := fun _ h => h
  K_of_M := fun h => h
  M_mono := fun _ h => h
  M_bound := fun h => h
  M_move := fun _ h => h
  M_lower := fun _ h => h
abbrev St := Int × Int × Int × Int
def stK : Kd St := Kd.pair (Kd.int .i64) (Kd.pair (Kd.int .i64) (Kd.pair (Kd.int .i64) (Kd.int .i64)))
theorem at_st {w : World} {A : Option Addr} {n : Nat} {xs : List St} (h : Kd.C stK w A n xs) (i : Nat) (hi : i < xs.length) : ∃ ad, A = some ad ∧ w.cell? (ad.add (i * 4)) = some (.int .i64 xs[i].1) ∧
    w.cell? ⟨(ad.add (i * 4)).block, (ad.add (i * 4)).off + 1, none⟩ = some (.int .i64 xs[i].2.1) ∧ w.cell? ⟨(ad.add (i * 4)).block, (ad.add (i * 4)).off + 2, none⟩ = some (.int .i64 xs[i].2.2.1) ∧ w.cell? ⟨(ad.add (i * 4)).block, (ad.add (i * 4)).off + 3, none⟩ = some (.int .i64 xs[i].2.2.2) := by
  have hn := h.1
  obtain ⟨ad, c, e, _, hK, hc0⟩ := Kd.C_get h ((0, 0, 0, 0) : St) i (by omega) (by omega)
  have hx : xs.getD (i : Int).toNat (0, 0, 0, 0) = xs[i] := by simp [List.getD_eq_getElem?_getD, hi]
  rw [hx] at hK
  have hc : ∀ j u, c[j]? = some u → w.cell? (ad.add (i * 4 + j)) = some u := hc0
  obtain ⟨c0, c1, rfl, h0, d0, d1, rfl, h1, e0, e1, rfl, h2, h3⟩ := hK
  cases h0; cases h1; cases h2; cases h3
  exact ⟨ad, e, hc 0 _ rfl, by rw [← add_field _ _ 1 (by omega)]; exact hc 1 _ rfl, by rw [← add_field _ _ 2 (by omega)]; exact hc 2 _ rfl, by rw [← add_field _ _ 3 (by omega)]; exact hc 3 _ rfl⟩
end Go.Proofs.Ytmhnhfmkcipcpaa.Seen

namespace Go.Proofs.Ytmhnhfmkcipcpaa.LinePure
open Go.Proofs.Ytmhnhfmkcipcpaa.Seen
/-- The values of all nodes that were made, and the numbers of those in the list. -/
abbrev Line := List Int × List Nat
def vals (b : Line) (row : List Nat) : List Int := row.map (fun k => b.1.getD k 0)
/-- The steps that may be done. -/
def May (b : Line) (a : St) : Prop :=
  ((a.2.1 = 2 ∨ a.2.1 = 7 ∨ a.2.1 = 8) → 0 ≤ a.2.2.2 ∧ a.2.2.2.toNat ∈ b.2) ∧
  ((a.2.1 = 3 ∨ a.2.1 = 4) → 0 ≤ a.2.2.2 ∧ a.2.2.2.toNat < b.1.length ∧ a.2.2.2.toNat ∉ b.2)
def stepL (b : Line) (a : St) : Line :=
  if a.2.1 = 0 then (b.1 ++ [a.2.2.1], b.2 ++ [b.1.length]) else if a.2.1 = 1 then (b.1 ++ [a.2.2.1], b.1.length :: b.2)
  else if a.2.1 = 2 then (b.1, b.2.erase a.2.2.2.toNat) else if a.2.1 = 3 then (b.1, b.2 ++ [a.2.2.2.toNat]) else if a.2.1 = 4 then (b.1, a.2.2.2.toNat :: b.2)
  else if a.2.1 = 9 then (b.1 ++ [a.2.2.1], b.2) else b
def tellL (b : Line) (a : St) : List Int :=
  if a.2.1 = 5 then vals b b.2 else if a.2.1 = 6 then (vals b b.2).reverse
  else if a.2.1 = 7 then vals b (b.2.drop (b.2.idxOf a.2.2.2.toNat)) else if a.2.1 = 8 then (vals b (b.2.take (b.2.idxOf a.2.2.2.toNat + 1))).reverse else []
def toldL : Line → List St → List (List Int)
  | _, [] => []
  | b, a :: l => tellL b a :: toldL (stepL b a) l
/-- A script each of whose steps may be done. -/
def MayAll : Line → List St → Prop
  | _, [] => True
  | b, a :: l => May b a ∧ MayAll (stepL b a) l
theorem toldL_length : ∀ (l : List St) (b : Line), (toldL b l).length = l.length
  | [], _ => rfl
  | a :: l, b => by simp [toldL, toldL_length l]
/-- The nodes in memory: the block of each number's node, the values by blocks, the row by blocks. -/
structure Rel (b : Line) (ns : List Nat) (V : Nat → Int) (row : List Nat) : Prop where
  len : ns.length = b.1.length
  val : ∀ (k n : Nat), ns[k]? = some n → b.1[k]? = some (V n)
  row : row = b.2.map (fun k => ns.getD k 0)
  sub : ∀ k ∈ b.2, k < ns.length
  nodup : ns.Nodup
theorem Rel.vals {b : Line} {ns row : List Nat} {V : Nat → Int} (h : Rel b ns V row) (l : List Nat) (hl : ∀ k ∈ l, k < ns.length) : (l.map (fun k => ns.getD k 0)).map V = vals b l := by
  unfold LinePure.vals
  rw [List.map_map]
  refine List.map_congr_left (fun k hk => ?_)
  have hk' := hl k hk
  have h1 : ns[k]? = some ns[k] := List.getElem?_eq_getElem hk'
  have h2 := h.val k _ h1
  simp only [Function.comp, List.getD_eq_getElem?_getD, h1, h2, Option.getD_some]
theorem getD_old {ns : List Nat} {q k : Nat} (h : k < ns.length) : (ns ++ [q]).getD k 0 = ns.getD k 0 := by
  rw [List.getD_eq_getElem?_getD, List.getD_eq_getElem?_getD, List.getElem?_append_left h]
theorem getD_new (ns : List Nat) (q : Nat) : (ns ++ [q]).getD ns.length 0 = q := by
  rw [List.getD_eq_getElem?_getD, List.getElem?_append_right (Nat.le_refl _)]
  simp
/-- A node more, in no list. -/
theorem Rel.add {b : Line} {ns row : List Nat} {V : Nat → Int} (h : Rel b ns V row) {q : Nat} (hq : q ∉ ns) (x : Int) : Rel (b.1 ++ [x], b.2) (ns ++ [q]) (fun k => if k = q then x else V k) row := by
  refine ⟨by simp [h.len], fun k n hk => ?_, ?_, fun k hk => by have := h.sub k hk; simp; omega, ?_⟩
  · by_cases c : k < ns.length
    · rw [List.getElem?_append_left c] at hk
      have hne : n ≠ q := fun e => hq (e ▸ List.mem_of_getElem? hk)
      show (b.1 ++ [x])[k]? = some (if n = q then x else V n)
      rw [if_neg hne, List.getElem?_append_left (by rw [← h.len]; exact c)]
      exact h.val k n hk
    · rw [List.getElem?_append_right (by omega)] at hk
      have c2 : k - ns.length = 0 := by
        rcases Nat.eq_zero_or_pos (k - ns.length) with h0 | h0
        · exact h0
        · rw [List.getElem?_eq_none (by simp; omega)] at hk; cases hk
      rw [c2] at hk
      have hn : q = n := by simpa using hk
      show (b.1 ++ [x])[k]? = some (if n = q then x else V n)
      rw [if_pos hn.symm, List.getElem?_append_right (by rw [← h.len]; omega), ← h.len, c2]
      rfl
  · rw [h.row]
    exact List.map_congr_left (fun k hk => (getD_old (h.sub k hk)).symm)
  · exact List.nodup_append.2 ⟨h.nodup, by simp, fun a ha c hc => by rw [List.mem_singleton.1 hc]; exact fun e => hq (e ▸ ha)⟩
theorem Rel.back {b : Line} {ns row : List Nat} {V : Nat → Int} (h : Rel b ns V row) {q : Nat} (hq : q ∉ ns) (x : Int) : Rel (b.1 ++ [x], b.2 ++ [b.1.length]) (ns ++ [q]) (fun k => if k = q then x else V k) (row ++ [q]) := by
  obtain ⟨h1, h2, h3, h4, h5⟩ := h.add hq x
  refine ⟨h1, h2, ?_, fun k hk => ?_, h5⟩
  · rw [List.map_append, ← h3, ← h.len]
    simp only [List.map_cons, List.map_nil]
    rw [getD_new]
  · rcases List.mem_append.1 hk with e | e
    · exact h4 k e
    · rw [List.mem_singleton.1 e, ← h.len]; simp
theorem Rel.front {b : Line} {ns row : List Nat} {V : Nat → Int} (h : Rel b ns V row) {q : Nat} (hq : q ∉ ns) (x : Int) : Rel (b.1 ++ [x], b.1.length :: b.2) (ns ++ [q]) (fun k => if k = q then x else V k) (q :: row) := by
  obtain ⟨h1, h2, h3, h4, h5⟩ := h.add hq x
  refine ⟨h1, h2, ?_, fun k hk => ?_, h5⟩
  · rw [List.map_cons, ← h3, ← h.len, getD_new]
  · rcases List.mem_cons.1 hk with e | e
    · rw [e, ← h.len]; simp
    · exact h4 k e
theorem map_erase_on {f : Nat → Nat} {k : Nat} : ∀ l : List Nat, (∀ a ∈ l, f a = f k → a = k) → (l.erase k).map f = (l.map f).erase (f k)
  | [], _ => rfl
  | a :: l, h => by
    by_cases c : a = k
    · subst c; simp
    · have hne : ¬ f a = f k := fun e => c (h a (by simp) e)
      rw [List.map_cons, List.erase_cons_tail (by simpa using c), List.erase_cons_tail (by simpa using hne), List.map_cons, map_erase_on l (fun x hx => h x (by simp [hx]))]
theorem map_idx_on {f : Nat → Nat} {k : Nat} : ∀ l : List Nat, (∀ a ∈ l, f a = f k → a = k) → (l.map f).idxOf (f k) = l.idxOf k
  | [], _ => rfl
  | a :: l, h => by
    by_cases c : a = k
    · subst c; simp
    · have hne : ¬ f a = f k := fun e => c (h a (by simp) e)
      have h1 : (f a == f k) = false := by simpa using hne
      have h2 : (a == k) = false := by simpa using c
      simp only [List.map_cons, List.idxOf_cons, h1, h2, map_idx_on l (fun x hx => h x (by simp [hx]))]
theorem Rel.inj {b : Line} {ns row : List Nat} {V : Nat → Int} (h : Rel b ns V row) {a k : Nat} (ha : a < ns.length) (hk : k < ns.length) (e : ns.getD a 0 = ns.getD k 0) : a = k := by
  rw [List.getD_eq_getElem?_getD, List.getD_eq_getElem?_getD, List.getElem?_eq_getElem ha, List.getElem?_eq_getElem hk] at e
  have e' : ns[a] = ns[k] := by simpa using e
  have hp := List.pairwise_iff_getElem.1 h.nodup
  rcases Nat.lt_trichotomy a k with q | q | q
  · exact absurd e' (hp a k ha hk q)
  · exact q
  · exact absurd e'.symm (hp k a hk ha q)
theorem Rel.mem {b : Line} {ns row : List Nat} {V : Nat → Int} (h : Rel b ns V row) {k n : Nat} (hn : ns[k]? = some n) : n ∈ row ↔ k ∈ b.2 := by
  have hk := (List.getElem?_eq_some_iff.1 hn).1
  have hg : ns.getD k 0 = n := by rw [List.getD_eq_getElem?_getD, hn]; rfl
  rw [h.row]
  constructor
  · intro hm
    obtain ⟨a, ha, e⟩ := List.mem_map.1 hm
    have := h.inj (h.sub a ha) hk (e.trans hg.symm)
    exact this ▸ ha
  · intro hm
    exact List.mem_map.2 ⟨k, hm, hg⟩
/-- The row without a node. -/
theorem Rel.out {b : Line} {ns row : List Nat} {V : Nat → Int} (h : Rel b ns V row) {k n : Nat} (hn : ns[k]? = some n) : Rel (b.1, b.2.erase k) ns V (row.erase n) := by
  have hk := (List.getElem?_eq_some_iff.1 hn).1
  have hg : ns.getD k 0 = n := by rw [List.getD_eq_getElem?_getD, hn]; rfl
  refine ⟨h.len, h.val, ?_, fun a ha => h.sub a (List.mem_of_mem_erase ha), h.nodup⟩
  rw [h.row, ← hg]
  exact (map_erase_on (f := fun k => ns.getD k 0) b.2 (fun a ha e => h.inj (h.sub a ha) hk e)).symm
theorem Rel.put {b : Line} {ns row : List Nat} {V : Nat → Int} (h : Rel b ns V row) {k n : Nat} (hn : ns[k]? = some n) : Rel (b.1, b.2 ++ [k]) ns V (row ++ [n]) ∧ Rel (b.1, k :: b.2) ns V (n :: row) := by
  have hk := (List.getElem?_eq_some_iff.1 hn).1
  have hg : ns.getD k 0 = n := by rw [List.getD_eq_getElem?_getD, hn]; rfl
  refine ⟨⟨h.len, h.val, ?_, fun a ha => ?_, h.nodup⟩, ⟨h.len, h.val, ?_, fun a ha => ?_, h.nodup⟩⟩
  · rw [List.map_append, ← h.row]
    simp only [List.map_cons, List.map_nil]
    rw [hg]
  · rcases List.mem_append.1 ha with e | e
    · exact h.sub a e
    · rw [List.mem_singleton.1 e]; exact hk
  · rw [List.map_cons, ← h.row, hg]
  · rcases List.mem_cons.1 ha with e | e
    · rw [e]; exact hk
    · exact h.sub a e
theorem Rel.idx {b : Line} {ns row : List Nat} {V : Nat → Int} (h : Rel b ns V row) {k n : Nat} (hn : ns[k]? = some n) : row.idxOf n = b.2.idxOf k := by
  have hk := (List.getElem?_eq_some_iff.1 hn).1
  have hg : ns.getD k 0 = n := by rw [List.getD_eq_getElem?_getD, hn]; rfl
  rw [h.row, ← hg]
  exact map_idx_on (f := fun k => ns.getD k 0) b.2 (fun a ha e => h.inj (h.sub a ha) hk e)
end Go.Proofs.Ytmhnhfmkcipcpaa.LinePure

namespace Go.Proofs.Ytmhnhfmkcipcpaa.LineEv
open Go Go.RowKit Go.Proofs.Ytmhnhfmkcipcpaa.LnFn Go.Proofs.Ytmhnhfmkcipcpaa.LinePure Go.Proofs.YtmhnhfmkcipcpaaW.PrintWords Go.Proofs.YtmhnhfmkcipcpaaW.PrintLast Go.Proofs.YtmhnhfmkcipcpaaW.PrintMore
theorem wi (x : Int) (h1 : -9223372036854775808 ≤ x) (h2 : x ≤ 9223372036854775807) : wrap64 x = x := by unfold wrap64; omega
theorem w1 (q : Nat) (h : q ≤ 1099511627776) : wrap64 ((q : Int) + 1) = ((q + 1 : Nat) : Int) := by rw [wi _ (by omega) (by omega)]; rfl
theorem rd_mid (A B : List Int) (x : Int) : rd (A ++ x :: B) A.length = x := by simp [rd, List.getD_eq_getElem?_getD]
/-- Where a number stands, from a place on; -1: nowhere. -/
def seek (n : Int) : List Int → Nat → Int
  | [], _ => -1
  | x :: r, i => if x = n then i else seek n r (i + 1)
theorem alike_nil (a b : Int) : spec_Alike.f [] a b = some (a == b) := rfl
theorem bagAt_ev (n : Int) : ∀ (B A : List Int), (A ++ B).length ≤ 1099511627776 → Ev (fun k => spec_bagAt.l0 k [] (A ++ B) n A.length) (seek n B A.length)
  | [], A, _ => by
    refine Ev.step (f := fun _ => some (-1)) (fun k => ?_) (Ev.now _)
    simp only [spec_bagAt.l0]
    rw [if_neg (by simp)]
  | x :: B, A, hl => by
    have hlt : (A.length : Int) < ((A ++ x :: B).length : Int) := by simp; omega
    simp only [List.length_append, List.length_cons] at hl
    by_cases h : x = n
    · refine Ev.step (f := fun _ => some (A.length : Int)) (fun k => ?_) (by rw [seek, if_pos h]; exact Ev.now _)
      simp only [spec_bagAt.l0]
      rw [if_pos hlt, if_pos (by omega), rd_mid, alike_nil, Option.bind_some, if_pos (by simp [h])]
    · have e : A ++ x :: B = (A ++ [x]) ++ B := by simp
      have ih := bagAt_ev n B (A ++ [x]) (by simp; omega)
      rw [← e] at ih
      have el : (A ++ [x]).length = A.length + 1 := by simp
      rw [el] at ih
      refine Ev.step (fun k => ?_) (by rw [seek, if_neg h]; exact ih)
      simp only [spec_bagAt.l0]
      rw [if_pos hlt, if_pos (by omega), rd_mid, alike_nil, Option.bind_some, if_neg (by simp [h]), w1 _ (by omega)]
theorem lineAt_ev (n : Int) (row : List Int) (hl : row.length ≤ 1099511627776) : Ev (fun k => spec_lineAt.f k row n) (seek n row 0) := by
  have h : Ev (fun k => spec_bagAt.l0 k [] row n 0) (seek n row 0) := bagAt_ev n row [] hl
  refine Ev.congr (fun k => ?_) h
  unfold spec_lineAt.f spec_bagAt.f
  cases spec_bagAt.l0 k [] row n 0 <;> rfl
theorem seek_in {n : Int} : ∀ (l : List Int) (i : Nat), n ∈ l → seek n l i = ((i + l.idxOf n : Nat) : Int)
  | x :: r, i, h => by
    unfold seek
    by_cases c : x = n
    · rw [if_pos c]; simp [c]
    · have hr : n ∈ r := by
        rcases List.mem_cons.1 h with e | e
        · exact absurd e.symm c
        · exact e
      have hc : (x == n) = false := by simpa using c
      rw [if_neg c, seek_in r (i + 1) hr, List.idxOf_cons, hc]
      simp only [cond_false]
      omega
theorem seek_out {n : Int} : ∀ (l : List Int) (i : Nat), n ∉ l → seek n l i = -1
  | [], _, _ => rfl
  | x :: r, i, h => by
    unfold seek
    rw [if_neg (fun e => h (by rw [e]; simp)), seek_out r (i + 1) (fun e => h (by simp [e]))]
theorem cut_some (A B : List Int) (x : Int) (hl : (A ++ x :: B).length ≤ 1099511627776) : spec_cut.f (A ++ x :: B) A.length = some (A ++ B) := by
  have e1 : (A ++ x :: B).take A.length = A := by simp
  have e2 : (A ++ x :: B).drop (A.length + 1) = B := by rw [List.drop_append]; simp
  have el : (A ++ x :: B).length = A.length + B.length + 1 := by simp; omega
  have w : wrap64 ((A.length : Int) + 1) = ((A.length + 1 : Nat) : Int) := w1 _ (by omega)
  unfold spec_cut.f
  rw [Option.bind_some, if_pos (by omega), if_pos (by omega), Int.toNat_natCast, e1, if_pos (by simp; omega), Option.bind_some, w, if_pos (by omega), if_pos (by omega), Int.toNat_natCast, e2, if_pos (by simp; omega), List.nil_append]
theorem rd_nat (vals : List Int) (k : Nat) : rd vals (k : Int) = vals.getD k 0 := rfl
def ints (l : List Nat) : List Int := l.map (fun k : Nat => (k : Int))
theorem lineRow_ev (vals : List Int) (hv : vals.length ≤ 1099511627776) : ∀ (B A : List Nat) (acc : List Int), (A ++ B).length ≤ 1099511627776 → acc.length ≤ A.length → (∀ k ∈ B, k < vals.length) →
    Ev (fun k => spec_lineRow.l0 k vals (ints (A ++ B)) acc A.length) (acc ++ B.map (fun k => vals.getD k 0))
  | [], A, acc, _, _, _ => by
    refine Ev.step (f := fun _ => some acc) (fun k => ?_) (by simpa using Ev.now acc)
    simp only [spec_lineRow.l0]
    rw [if_neg (by simp [ints])]
  | x :: B, A, acc, hl, ha, hk => by
    have el : (ints (A ++ x :: B)).length = A.length + B.length + 1 := by simp [ints]; omega
    have hx := hk x (by simp)
    simp only [List.length_append, List.length_cons] at hl
    have e : A ++ x :: B = (A ++ [x]) ++ B := by simp
    have ih := lineRow_ev vals hv B (A ++ [x]) (acc ++ [vals.getD x 0]) (by simp; omega) (by simp; omega) (fun k hk' => hk k (by simp [hk']))
    rw [← e] at ih
    have el2 : (A ++ [x]).length = A.length + 1 := by simp
    rw [el2] at ih
    have er : rd (ints (A ++ x :: B)) (A.length : Int) = (x : Int) := by
      have : ints (A ++ x :: B) = ints A ++ (x : Int) :: ints B := by simp [ints]
      rw [this, show (A.length : Int) = ((ints A).length : Int) by simp [ints], rd_mid]
    have e9 : acc ++ (x :: B).map (fun k => vals.getD k 0) = (acc ++ [vals.getD x 0]) ++ B.map (fun k => vals.getD k 0) := by rw [List.map_cons, List.append_assoc]; rfl
    rw [e9]
    refine Ev.step (fun k => ?_) ih
    simp only [spec_lineRow.l0]
    rw [if_pos (by omega), if_pos (by omega), er, if_pos (by omega), if_pos (by omega), if_pos (by omega), rd_nat, w1 _ (by omega)]
theorem row_ev (vals : List Int) (hv : vals.length ≤ 1099511627776) (row : List Nat) (hl : row.length ≤ 1099511627776) (hk : ∀ k ∈ row, k < vals.length) :
    Ev (fun k => spec_lineRow.f k vals (ints row)) (row.map (fun k => vals.getD k 0)) := lineRow_ev vals hv row [] [] hl (Nat.zero_le _) hk
theorem turned_ev (xs : List Int) (hl : xs.length ≤ 1099511627776) : ∀ (n : Nat) (acc : List Int), n ≤ xs.length → acc.length + n ≤ xs.length →
    Ev (fun k => spec_lineTurned.l0 k xs acc ((n : Int) - 1)) (acc ++ (xs.take n).reverse)
  | 0, acc, _, _ => by
    refine Ev.step (f := fun _ => some acc) (fun k => ?_) (by simpa using Ev.now acc)
    simp only [spec_lineTurned.l0]
    rw [if_neg (by omega)]
  | n + 1, acc, hn, ha => by
    have ih := turned_ev xs hl n (acc ++ [xs.getD n 0]) (by omega) (by simp; omega)
    have et : (xs.take (n + 1)).reverse = xs.getD n 0 :: (xs.take n).reverse := by
      rw [List.take_succ_eq_append_getElem (by omega), List.reverse_append]
      simp [List.getD_eq_getElem?_getD, List.getElem?_eq_getElem (show n < xs.length by omega)]
    have ei : ((n + 1 : Nat) : Int) - 1 = (n : Int) := by omega
    have e9 : acc ++ (xs.getD n 0 :: (xs.take n).reverse) = (acc ++ [xs.getD n 0]) ++ (xs.take n).reverse := by rw [List.append_assoc]; rfl
    rw [ei, et, e9]
    refine Ev.step (fun k => ?_) ih
    simp only [spec_lineTurned.l0]
    rw [if_pos (by omega), if_pos (by omega), if_pos (by omega), if_pos (by omega), rd_nat, wi _ (by omega) (by omega)]
theorem turn_ev (xs : List Int) (hl : xs.length ≤ 1099511627776) : Ev (fun k => spec_lineTurned.f k xs) xs.reverse := by
  have h := turned_ev xs hl xs.length [] (Nat.le_refl _) (by simp)
  rw [List.take_length, List.nil_append] at h
  refine Ev.congr (fun k => ?_) h
  unfold spec_lineTurned.f
  rw [wi _ (by omega) (by omega)]
/-- Whether a step may be done, as it is told. -/
def mayB (vals row : List Int) (d val : Int) : Bool :=
  if d = 2 ∨ d = 7 ∨ d = 8 then decide (0 ≤ seek val row 0) else if d = 3 ∨ d = 4 then (if 0 ≤ seek val row 0 then false else if val ≥ 0 then decide (val < (vals.length : Int)) else false) else true
theorem may_j {t : Int} {k : Nat} {vals row : List Int} {o d key val : Int} (h2 : ¬ d = 2) (h7 : ¬ d = 7) (ht : t = seek val row 0) : spec_Line_May.j0 (k + 1) (decide (t ≥ 0)) d (d == 8) vals row o d key val = some (mayB vals row d val) := by
  subst ht
  unfold mayB
  simp only [spec_Line_May.j0]
  by_cases h8 : d = 8
  · have e1 : (d == 8) = true := by simp [h8]
    have e2 : d = 2 ∨ d = 7 ∨ d = 8 := .inr (.inr h8)
    rw [if_pos e1, if_pos e2]
  · have e1 : ¬ (d == 8) = true := by simp [h8]
    have e2 : ¬ (d = 2 ∨ d = 7 ∨ d = 8) := by omega
    rw [if_neg e1, if_neg e2]
    by_cases h3 : d = 3
    · have e3 : d = 3 ∨ d = 4 := .inl h3
      rw [if_pos h3, if_pos e3]
      by_cases c : 0 ≤ seek val row 0
      · have c1 : decide (seek val row 0 ≥ 0) = true := decide_eq_true c
        rw [if_pos c1, if_pos c]
      · have c1 : ¬ decide (seek val row 0 ≥ 0) = true := by simpa using c
        rw [if_neg c1, if_neg c]; split <;> rfl
    · rw [if_neg h3]
      by_cases h4 : d = 4
      · have e3 : d = 3 ∨ d = 4 := .inr h4
        rw [if_pos h4, if_pos e3]
        by_cases c : 0 ≤ seek val row 0
        · have c1 : decide (seek val row 0 ≥ 0) = true := decide_eq_true c
          rw [if_pos c1, if_pos c]
        · have c1 : ¬ decide (seek val row 0 ≥ 0) = true := by simpa using c
          rw [if_neg c1, if_neg c]; split <;> rfl
      · have e3 : ¬ (d = 3 ∨ d = 4) := by omega
        rw [if_neg h4, if_neg e3]
theorem may_ev (vals row : List Int) (o d key val : Int) (hl : row.length ≤ 1099511627776) : Ev (fun k => spec_Line_May.f k vals row o d key val) (mayB vals row d val) := by
  unfold spec_Line_May.f
  refine Ev.bind (lineAt_ev val row hl) ?_
  by_cases h2 : d = 2
  · subst h2
    refine ⟨1, fun k hk => ?_⟩
    obtain ⟨m, rfl⟩ : ∃ m, k = m + 1 := ⟨k - 1, by omega⟩
    show (if _ then _ else _) = _
    rw [if_pos rfl]
    simp only [spec_Line_May.j0]
    rfl
  by_cases h7 : d = 7
  · subst h7
    refine ⟨1, fun k hk => ?_⟩
    obtain ⟨m, rfl⟩ : ∃ m, k = m + 1 := ⟨k - 1, by omega⟩
    show (if _ then _ else _) = _
    rw [if_neg (show ¬ (7 : Int) = 2 by omega), if_pos rfl]
    simp only [spec_Line_May.j0]
    rfl
  refine ⟨1, fun k hk => ?_⟩
  obtain ⟨m, rfl⟩ : ∃ m, k = m + 1 := ⟨k - 1, by omega⟩
  show (if _ then _ else _) = _
  rw [if_neg h2, if_neg h7]
  exact may_j h2 h7 rfl
/-- .. and whether it may. -/
theorem mem_ints {k : Nat} {row : List Nat} : ((k : Nat) : Int) ∈ ints row ↔ k ∈ row := by
  unfold ints
  constructor
  · intro h
    obtain ⟨a, ha, e⟩ := List.mem_map.1 h
    have : a = k := by omega
    exact this ▸ ha
  · intro h
    exact List.mem_map.2 ⟨k, h, rfl⟩
theorem idx_ints {k : Nat} (row : List Nat) : (ints row).idxOf (k : Int) = row.idxOf k := by
  induction row with
  | nil => rfl
  | cons x r ih =>
    unfold ints at ih ⊢
    simp only [List.map_cons, List.idxOf_cons, ih]
    by_cases c : x = k
    · subst c; simp
    · have h1 : ((x : Int) == (k : Int)) = false := beq_eq_false_iff_ne.2 (by omega)
      have h2 : (x == k) = false := by simpa using c
      rw [h1, h2]
theorem at_ints {val : Int} (row : List Nat) : (0 ≤ seek val (ints row) 0 ↔ 0 ≤ val ∧ val.toNat ∈ row) := by
  by_cases h : val ∈ ints row
  · rw [seek_in _ _ h]
    obtain ⟨a, ha, e⟩ := List.mem_map.1 h
    subst e
    rw [Int.toNat_natCast]
    exact ⟨fun _ => ⟨by omega, ha⟩, fun _ => by omega⟩
  · rw [seek_out _ _ h]
    refine ⟨fun e => by omega, fun ⟨e1, e2⟩ => absurd (mem_ints.2 e2) (fun e => h ?_)⟩
    rw [show val = ((val.toNat : Nat) : Int) by omega]
    exact e
theorem may_iff (b : Line) (o d key val : Int) : mayB b.1 (ints b.2) d val = true ↔ May b (o, d, key, val) := by
  unfold mayB May
  simp only
  by_cases h : d = 2 ∨ d = 7 ∨ d = 8
  · rw [if_pos h]
    simp only [decide_eq_true_eq, at_ints]
    exact ⟨fun e => ⟨fun _ => e, fun e3 => by omega⟩, fun e => e.1 h⟩
  · rw [if_neg h]
    by_cases h3 : d = 3 ∨ d = 4
    · rw [if_pos h3]
      by_cases c : 0 ≤ seek val (ints b.2) 0
      · rw [if_pos c]
        have c' := (at_ints b.2).1 c
        exact ⟨(fun e => by cases e), fun e => absurd c'.2 (e.2 h3).2.2⟩
      · rw [if_neg c]
        have c' : ¬ (0 ≤ val ∧ val.toNat ∈ b.2) := fun e => c ((at_ints b.2).2 e)
        by_cases z : val ≥ 0
        · rw [if_pos z]
          simp only [decide_eq_true_eq]
          exact ⟨fun e => ⟨fun e2 => absurd e2 h, fun _ => ⟨z, by omega, fun e2 => c' ⟨z, e2⟩⟩⟩, fun e => by have := (e.2 h3).2.1; omega⟩
        · rw [if_neg z]
          exact ⟨(fun e => by cases e), fun e => absurd (e.2 h3).1 z⟩
    · rw [if_neg h3]
      exact ⟨fun _ => ⟨fun e => absurd e h, fun e => absurd e h3⟩, fun _ => rfl⟩
end Go.Proofs.Ytmhnhfmkcipcpaa.LineEv

namespace Go.Proofs.Ytmhnhfmkcipcpaa.Less
open Go Go.RowKit Go.IntWalk Go.Proofs.Ytmhnhfmkcipcpaa.Hk Go.Proofs.YtmhnhfmkcipcpaaW.PrintWords Go.Proofs.YtmhnhfmkcipcpaaW.PrintLast Go.Proofs.YtmhnhfmkcipcpaaW.PrintMore
/-- A number's rank by a table. -/
def rankOf (t : List Int) (k : Int) : Int := if t = [] then k else rd t (k % (t.length : Int))
theorem tmod_bd (k n : Int) (h : 0 < n) : -n < k.tmod n ∧ k.tmod n < n ∧ (k.tmod n + n) % n = k % n := by
  have h2 := Int.emod_nonneg k (show n ≠ 0 by omega)
  have h3 := Int.emod_lt_of_pos k h
  rw [Int.tmod_eq_emod]
  split
  · exact ⟨by omega, by omega, by simp⟩
  · rename_i hc
    have h4 : k % n ≠ 0 := fun e => hc (.inr (Int.dvd_of_emod_eq_zero e))
    have h5 : (n.natAbs : Int) = n := by omega
    rw [h5]
    exact ⟨by omega, by omega, by rw [show k % n - n + n = k % n by omega, Int.emod_emod]⟩
/-- A function value that orders by a table: the captured table lies where it lay. -/
def LessV (w : World) (v : Value) (t : List Int) : Prop :=
  t.length ≤ 140737488351232 ∧ ∃ B A c, v = .func (.func 84) #[] #[.pointer (some ⟨B, 0, none⟩)] ∧ Blk w B #[.slice A t.length c] 30 ∧ Kd.C (Kd.int .i64) w A t.length t
theorem LessV.below {w w' : World} {v : Value} {t : List Int} (h : LessV w v t) (hb : Below w.heap.size w w') : LessV w' v t := by
  obtain ⟨h0, B, A, c, rfl, h1, h2⟩ := h
  exact ⟨h0, B, A, c, rfl, h1.below hb h1.lt, Kd.C_below h2 hb⟩
/-- The order, as a Bool. -/
def lt (t : List Int) (a b : Int) : Bool := decide (rankOf t a < rankOf t b)
end Go.Proofs.Ytmhnhfmkcipcpaa.Less

namespace Go.Proofs.Ytmhnhfmkcipcpaa.Hk
open Go Go.RowKit
theorem Fr.into {Z Z' : Nat → Prop} {a w : World} (h : Fr Z a w) (hs : ∀ n, Z n → Z' n) : Fr Z' a w := h.mono (fun n _ q => hs n q)
theorem Fr.then {Z : Nat → Prop} {a b c : World} (h : Fr Z a b) (k : Fr Z b c) : Fr Z a c := h.trans k (fun _ _ q => q)
theorem Fr.drewN {Z : Nat → Prop} {a w : World} (h : Fr Z a w) (n : Nat) : Fr Z a (w.drewN n) := ⟨h.os, h.tape, h.output, h.size, h.block⟩
theorem Fr.one {w : World} {b i : Nat} {v : Value} : Fr (· = b) w (w.setCell ⟨b, i, none⟩ v) := Fr.setCell (S := (· = b)) (Fr.refl _ _) (p := ⟨b, i, none⟩) (fun _ => rfl) _
theorem Fr.new {Z : Nat → Prop} {w w' : World} (h : Below w.heap.size w w') : Fr Z w w' := ⟨h.os, h.tape, h.output, h.size, fun k hk _ => h.block k hk⟩
/-- A frame whose blocks are all from 'base' on, or new. -/
theorem Fr.under {Z : Nat → Prop} {w w' : World} (h : Fr Z w w') (base : Nat) (hb : base ≤ w.heap.size) (hZ : ∀ k, Z k → base ≤ k) : Below base w w' := h.below hb hZ
theorem Blk.drewN {w : World} {b : Nat} {cs : Array Value} {t : TypeId} (h : Blk w b cs t) (n : Nat) : Blk (w.drewN n) b cs t := h
theorem below_dN {base : Nat} {a w : World} (h : Below base a w) (n : Nat) : Below base a (w.drewN n) := ⟨h.os, h.tape, h.output, h.size, h.block⟩
theorem below_at {base : Nat} {a b c : World} (h : Below base a b) (k : Below b.heap.size b c) (hs : base ≤ b.heap.size) : Below base a c :=
  ⟨k.os.trans h.os, k.tape.trans h.tape, k.output.trans h.output, Nat.le_trans h.size k.size, fun i hi => (k.block i (by omega)).trans (h.block i hi)⟩
theorem hid {p : Prop} (h : p) : Hid p := h
theorem alloc_size (w : World) (o : Obj) : (w.alloc o).heap.size = w.heap.size + 1 := by simp
end Go.Proofs.Ytmhnhfmkcipcpaa.Hk

namespace Go.Proofs.Ytmhnhfmkcipcpaa.HeapPure
abbrev at_ (xs : List Int) (i : Nat) : Int := xs.getD i 0
def swp (xs : List Int) (i j : Nat) : List Int := (xs.set i (at_ xs j)).set j (at_ xs i)
theorem swp_length (xs : List Int) (i j : Nat) : (swp xs i j).length = xs.length := by simp [swp]
theorem at_set (xs : List Int) (i k : Nat) (v : Int) (hi : i < xs.length) : at_ (xs.set i v) k = if k = i then v else at_ xs k := by
  unfold at_
  rw [List.getD_eq_getElem?_getD, List.getElem?_set]
  by_cases h : k = i
  · subst h; simp [hi]
  · rw [if_neg (fun e => h e.symm), if_neg h, List.getD_eq_getElem?_getD]
theorem at_swp (xs : List Int) (i j k : Nat) (hi : i < xs.length) (hj : j < xs.length) : at_ (swp xs i j) k = if k = j then at_ xs i else if k = i then at_ xs j else at_ xs k := by
  unfold swp
  rw [at_set _ _ _ _ (by simpa using hj), at_set _ _ _ _ hi]
theorem count_set (xs : List Int) (i : Nat) (v a : Int) (hi : i < xs.length) : (xs.set i v).count a + (if at_ xs i = a then 1 else 0) = xs.count a + (if v = a then 1 else 0) := by
  induction xs generalizing i with
  | nil => simp at hi
  | cons x xs ih =>
    cases i with
    | zero =>
      simp only [List.set_cons_zero, List.count_cons, at_, List.getD_cons_zero, beq_iff_eq]
      omega
    | succ i =>
      have := ih i (by simpa using hi)
      simp only [List.set_cons_succ, List.count_cons, at_, List.getD_cons_succ, beq_iff_eq] at this ⊢
      omega
theorem swp_count (xs : List Int) (i j : Nat) (a : Int) (hi : i < xs.length) (hj : j < xs.length) : (swp xs i j).count a = xs.count a := by
  have h1 := count_set xs i (at_ xs j) a hi
  have h2 := count_set (xs.set i (at_ xs j)) j (at_ xs i) a (by simpa using hj)
  rw [at_set _ _ _ _ hi] at h2
  unfold swp
  by_cases h : j = i
  · subst h; simp only [if_true] at h2; omega
  · rw [if_neg h] at h2; omega
/-- One number goes up. -/
def upT (r : Int → Int) (xs : List Int) (i : Nat) : List Int :=
  if i = 0 then xs else if r (at_ xs i) < r (at_ xs ((i - 1) / 2)) then upT r (swp xs i ((i - 1) / 2)) ((i - 1) / 2) else xs
termination_by i
decreasing_by omega
/-- The lesser one of two numbers below. -/
def least (r : Int → Int) (xs : List Int) (i : Nat) : Nat := if 2 * i + 2 < xs.length ∧ r (at_ xs (2 * i + 2)) < r (at_ xs (2 * i + 1)) then 2 * i + 2 else 2 * i + 1
theorem least_or (r : Int → Int) (xs : List Int) (i : Nat) (h : 2 * i + 1 < xs.length) : (least r xs i = 2 * i + 1 ∨ least r xs i = 2 * i + 2) ∧ least r xs i < xs.length := by
  unfold least; split
  · rename_i h; exact ⟨.inr rfl, h.1⟩
  · exact ⟨.inl rfl, h⟩
/-- One number goes down. -/
def downT (r : Int → Int) (xs : List Int) (i : Nat) : List Int :=
  if 2 * i + 1 < xs.length then if r (at_ xs (least r xs i)) < r (at_ xs i) then downT r (swp xs i (least r xs i)) (least r xs i) else xs else xs
termination_by xs.length - i
decreasing_by
  rw [swp_length]
  have := least_or r xs i ‹_›
  omega
theorem upT_length (r : Int → Int) : ∀ (n i : Nat) (xs : List Int), i ≤ n → (upT r xs i).length = xs.length
  | 0, i, xs, h => by rw [upT, if_pos (by omega)]
  | n + 1, i, xs, h => by
    rw [upT]
    split
    · rfl
    · split
      · rw [upT_length r n _ _ (by omega), swp_length]
      · rfl
theorem upT_count (r : Int → Int) (a : Int) : ∀ (n i : Nat) (xs : List Int), i ≤ n → i < xs.length → (upT r xs i).count a = xs.count a
  | 0, i, xs, h, _ => by rw [upT, if_pos (by omega)]
  | n + 1, i, xs, h, hi => by
    rw [upT]
    split
    · rfl
    · split
      · rw [upT_count r a n _ _ (by omega) (by rw [swp_length]; omega), swp_count _ _ _ _ hi (by omega)]
      · rfl
theorem downT_length (r : Int → Int) : ∀ (n i : Nat) (xs : List Int), xs.length ≤ n + i → (downT r xs i).length = xs.length
  | 0, i, xs, h => by rw [downT, if_neg (by omega)]
  | n + 1, i, xs, h => by
    rw [downT]
    split
    · rename_i h1
      split
      · have := least_or r xs i h1
        rw [downT_length r n _ _ (by rw [swp_length]; omega), swp_length]
      · rfl
    · rfl
theorem downT_count (r : Int → Int) (a : Int) : ∀ (n i : Nat) (xs : List Int), xs.length ≤ n + i → (downT r xs i).count a = xs.count a
  | 0, i, xs, h => by rw [downT, if_neg (by omega)]
  | n + 1, i, xs, h => by
    rw [downT]
    split
    · rename_i h1
      split
      · have := least_or r xs i h1
        rw [downT_count r a n _ _ (by rw [swp_length]; omega), swp_count _ _ _ _ (by omega) (by omega)]
      · rfl
    · rfl
/-- Each number, but the first one, is not less than the one above it. -/
def Hp (r : Int → Int) (xs : List Int) : Prop := ∀ k, 0 < k → k < xs.length → r (at_ xs ((k - 1) / 2)) ≤ r (at_ xs k)
def UpOk (r : Int → Int) (i : Nat) (xs : List Int) : Prop :=
  (∀ k, 0 < k → k < xs.length → k ≠ i → r (at_ xs ((k - 1) / 2)) ≤ r (at_ xs k)) ∧
  (∀ k, 0 < k → k < xs.length → (k - 1) / 2 = i → 0 < i → r (at_ xs ((i - 1) / 2)) ≤ r (at_ xs k))
theorem up_hp (r : Int → Int) : ∀ (n i : Nat) (xs : List Int), i ≤ n → i < xs.length → UpOk r i xs → Hp r (upT r xs i)
  | 0, i, xs, h, hi, hu => by
    rw [upT, if_pos (by omega)]
    exact fun k h0 hk => hu.1 k h0 hk (by omega)
  | n + 1, i, xs, h, hi, hu => by
    rw [upT]
    split
    · exact fun k h0 hk => hu.1 k h0 hk (by omega)
    · rename_i hi0
      split
      · rename_i hlt
        refine up_hp r n _ _ (by omega) (by rw [swp_length]; omega) ⟨fun k h0 hk hne => ?_, fun k h0 hk hp hp0 => ?_⟩
        · rw [swp_length] at hk
          rw [at_swp _ _ _ _ hi (by omega), at_swp _ _ _ _ hi (by omega), if_neg hne]
          by_cases h1 : k = i
          · subst h1; rw [if_pos rfl, if_pos rfl]; omega
          · rw [if_neg h1]
            by_cases h2 : (k - 1) / 2 = i
            · rw [if_neg (by omega), if_pos h2]
              exact hu.2 k h0 hk h2 (by omega)
            · by_cases h3 : (k - 1) / 2 = (i - 1) / 2
              · rw [if_pos h3]
                have := hu.1 k h0 hk h1
                rw [h3] at this
                omega
              · rw [if_neg h3, if_neg h2]
                exact hu.1 k h0 hk h1
        · rw [swp_length] at hk
          rw [at_swp _ _ _ _ hi (by omega), at_swp _ _ _ _ hi (by omega), if_neg (by omega), if_neg (by omega), if_neg (by omega : ¬ k = (i - 1) / 2)]
          have h1 := hu.1 ((i - 1) / 2) hp0 (by omega) (by omega)
          by_cases h2 : k = i
          · rw [if_pos h2]; exact h1
          · rw [if_neg h2]
            have := hu.1 k h0 hk h2
            rw [hp] at this
            omega
      · rename_i hlt
        intro k h0 hk
        by_cases h1 : k = i
        · subst h1; omega
        · exact hu.1 k h0 hk h1
/-- .. of the places from m on, and those below them. -/
def HpFrom (r : Int → Int) (m : Nat) (xs : List Int) : Prop := ∀ k, 0 < k → k < xs.length → m ≤ (k - 1) / 2 → r (at_ xs ((k - 1) / 2)) ≤ r (at_ xs k)
def DnOk (r : Int → Int) (m i : Nat) (xs : List Int) : Prop :=
  (∀ k, 0 < k → k < xs.length → m ≤ (k - 1) / 2 → (k - 1) / 2 ≠ i → r (at_ xs ((k - 1) / 2)) ≤ r (at_ xs k)) ∧
  (∀ k, 0 < k → k < xs.length → (k - 1) / 2 = i → 0 < i → m ≤ (i - 1) / 2 → r (at_ xs ((i - 1) / 2)) ≤ r (at_ xs k))
theorem least_le (r : Int → Int) (xs : List Int) (i k : Nat) (h0 : 0 < k) (hk : k < xs.length) (hp : (k - 1) / 2 = i) : r (at_ xs (least r xs i)) ≤ r (at_ xs k) := by
  have h1 : k = 2 * i + 1 ∨ k = 2 * i + 2 := by omega
  unfold least
  rcases h1 with rfl | rfl
  · split
    · rename_i h; omega
    · exact Int.le_refl _
  · split
    · exact Int.le_refl _
    · rename_i h
      have : ¬ r (at_ xs (2 * i + 2)) < r (at_ xs (2 * i + 1)) := fun hh => h ⟨hk, hh⟩
      omega
theorem down_hp (r : Int → Int) (m : Nat) : ∀ (n i : Nat) (xs : List Int), xs.length ≤ n + i → m ≤ i → DnOk r m i xs → HpFrom r m (downT r xs i)
  | 0, i, xs, h, hm, hd => by
    rw [downT, if_neg (by omega)]
    exact fun k h0 hk hmk => hd.1 k h0 hk hmk (by omega)
  | n + 1, i, xs, h, hm, hd => by
    rw [downT]
    split
    · rename_i h1
      obtain ⟨hj, hjl⟩ := least_or r xs i h1
      have hle := fun k h0 hk hp => least_le r xs i k h0 hk hp
      split
      · rename_i hlt
        generalize least r xs i = j at hj hjl hle hlt ⊢
        have hi : i < xs.length := by omega
        refine down_hp r m n _ _ (by rw [swp_length]; omega) (by omega) ⟨fun k h0 hk hmk hne => ?_, fun k h0 hk hp _ hmj => ?_⟩
        · rw [swp_length] at hk
          rw [at_swp _ _ _ _ hi hjl, at_swp _ _ _ _ hi hjl, if_neg hne]
          by_cases h2 : (k - 1) / 2 = i
          · rw [if_pos h2]
            by_cases h3 : k = j
            · rw [if_pos h3]; omega
            · rw [if_neg h3, if_neg (by omega)]
              exact hle k h0 hk h2
          · rw [if_neg h2, if_neg (by omega : ¬ k = j)]
            by_cases h3 : k = i
            · subst h3
              rw [if_pos rfl]
              exact hd.2 j (by omega) hjl (by omega) h0 hmk
            · rw [if_neg h3]
              exact hd.1 k h0 hk hmk h2
        · rw [swp_length] at hk
          rw [at_swp _ _ _ _ hi hjl, at_swp _ _ _ _ hi hjl, if_neg (by omega : ¬ k = j), if_neg (by omega : ¬ k = i), if_neg (by omega), if_pos (by omega)]
          have := hd.1 k h0 hk (by omega) (by omega)
          rw [hp] at this
          exact this
      · rename_i hlt
        intro k h0 hk hmk
        by_cases h2 : (k - 1) / 2 = i
        · have := hle k h0 hk h2
          rw [h2]
          omega
        · exact hd.1 k h0 hk hmk h2
    · exact fun k h0 hk hmk => hd.1 k h0 hk hmk (by omega)
def pushT (r : Int → Int) (xs : List Int) (x : Int) : List Int := upT r (xs ++ [x]) xs.length
def popT (r : Int → Int) (xs : List Int) : List Int := if xs.length = 0 then xs else downT r ((xs.set 0 (at_ xs (xs.length - 1))).take (xs.length - 1)) 0
/-- The places below n, from the last one on, go down. -/
def buildT (r : Int → Int) (xs : List Int) : Nat → List Int
  | 0 => xs
  | n + 1 => buildT r (downT r xs n) n
def madeT (r : Int → Int) (how : Int) (first : List Int) : List Int := if how = 0 then first.foldl (pushT r) [] else buildT r first (first.length / 2)
theorem at_append (xs : List Int) (x : Int) (k : Nat) (h : k < xs.length) : at_ (xs ++ [x]) k = at_ xs k := by
  unfold at_; rw [List.getD_eq_getElem?_getD, List.getElem?_append_left h, List.getD_eq_getElem?_getD]
theorem push_hp (r : Int → Int) (xs : List Int) (x : Int) (h : Hp r xs) : Hp r (pushT r xs x) := by
  refine up_hp r _ _ _ (Nat.le_refl _) (by simp) ⟨fun k h0 hk hne => ?_, fun k h0 hk hp _ => ?_⟩
  · rw [List.length_append, List.length_singleton] at hk
    rw [at_append _ _ _ (by omega), at_append _ _ _ (by omega)]
    exact h k h0 (by omega)
  · rw [List.length_append, List.length_singleton] at hk
    omega
theorem push_count (r : Int → Int) (xs : List Int) (x a : Int) : (pushT r xs x).count a = (xs ++ [x]).count a := upT_count r a _ _ _ (Nat.le_refl _) (by simp)
theorem push_length (r : Int → Int) (xs : List Int) (x : Int) : (pushT r xs x).length = xs.length + 1 := by rw [pushT, upT_length r _ _ _ (Nat.le_refl _)]; simp
theorem build_hp (r : Int → Int) : ∀ (n : Nat) (xs : List Int), HpFrom r n xs → Hp r (buildT r xs n)
  | 0, xs, h => fun k h0 hk => h k h0 hk (Nat.zero_le _)
  | n + 1, xs, h => build_hp r n _ (down_hp r n _ n _ (Nat.le_add_right _ _) (Nat.le_refl _) ⟨fun k h0 hk hm hne => h k h0 hk (by omega), fun k h0 hk hp h1 hm => by omega⟩)
theorem build_count (r : Int → Int) (a : Int) : ∀ (n : Nat) (xs : List Int), (buildT r xs n).count a = xs.count a
  | 0, _ => rfl
  | n + 1, _ => (build_count r a n _).trans (downT_count r a _ _ _ (Nat.le_add_right _ _))
theorem build_length (r : Int → Int) : ∀ (n : Nat) (xs : List Int), (buildT r xs n).length = xs.length
  | 0, _ => rfl
  | n + 1, _ => (build_length r n _).trans (downT_length r _ _ _ (Nat.le_add_right _ _))
theorem pushes (r : Int → Int) : ∀ (l xs : List Int), Hp r xs → Hp r (l.foldl (pushT r) xs) ∧ (l.foldl (pushT r) xs).length = xs.length + l.length ∧ ∀ a, (l.foldl (pushT r) xs).count a = xs.count a + l.count a
  | [], xs, h => ⟨h, rfl, fun _ => rfl⟩
  | x :: l, xs, h => by
    obtain ⟨h1, h2, h3⟩ := pushes r l (pushT r xs x) (push_hp r xs x h)
    refine ⟨h1, by rw [List.foldl_cons, h2, push_length, List.length_cons]; omega, fun a => ?_⟩
    rw [List.foldl_cons, h3, push_count, List.count_append, List.count_cons, List.count_cons, List.count_nil]
    omega
theorem made (r : Int → Int) (how : Int) (first : List Int) : Hp r (madeT r how first) ∧ (madeT r how first).length = first.length ∧ ∀ a, (madeT r how first).count a = first.count a := by
  unfold madeT
  split
  · obtain ⟨h1, h2, h3⟩ := pushes r first [] (fun k _ hk => by simp at hk)
    exact ⟨h1, by simpa using h2, fun a => by simpa using h3 a⟩
  · exact ⟨build_hp r _ _ (fun k h0 hk hm => by omega), build_length r _ _, fun a => build_count r a _ _⟩
/-- A step: 0 push, 1 pop; the others leave all. -/
def stepT (r : Int → Int) (xs : List Int) (d key : Int) : List Int := if d = 0 then pushT r xs key else if d = 1 then popT r xs else xs
/-- What a step tells. -/
def tellT (xs : List Int) (d : Int) : Int × Bool := if d = 1 ∨ d = 2 then (if xs.length = 0 then (0, false) else (at_ xs 0, true)) else if d = 3 then ((xs.length : Int), false) else (0, false)
end Go.Proofs.Ytmhnhfmkcipcpaa.HeapPure

namespace Go.Proofs.Ytmhnhfmkcipcpaa.Heap
open Go Go.RowKit Go.Proofs.Ytmhnhfmkcipcpaa.Hk Go.Proofs.Ytmhnhfmkcipcpaa.HeapPure Go.Proofs.Ytmhnhfmkcipcpaa.Less Go.Proofs.YtmhnhfmkcipcpaaW.PrintWords Go.Proofs.YtmhnhfmkcipcpaaW.PrintLast Go.Proofs.YtmhnhfmkcipcpaaW.PrintMore
/-- An order that stays as long as nothing below 'base' turns. -/
def LessS (base : Nat) (w : World) (v : Value) (t : List Int) : Prop := ∀ w', Below base w w' → LessV w' v t
theorem LessS.now {base : Nat} {w : World} {v : Value} {t : List Int} (h : LessS base w v t) : LessV w v t := h w (Below.refl _ _)
theorem LessS.to {base : Nat} {w w1 : World} {v : Value} {t : List Int} (h : LessS base w v t) (hb : Below base w w1) : LessS base w1 v t := fun w' hw => h w' (hb.trans hw)
theorem LessS.drewN {base : Nat} {w : World} {v : Value} {t : List Int} (h : LessS base w v t) (n : Nat) : LessS base (w.drewN n) v t := h.to ⟨rfl, rfl, rfl, Nat.le_refl _, fun _ _ => rfl⟩
theorem LessS.of {w : World} {v : Value} {t : List Int} (h : LessV w v t) : LessS w.heap.size w v t := fun _ hb => h.below hb
/-- A row of numbers of the call's own. -/
abbrev Ro (w : World) (base : Nat) (v : Value) (xs : List Int) : Prop := (Kd.int .i64).R 3 w base (fun _ => True) v xs
theorem Ro.fr {Z : Nat → Prop} {w w' : World} {base : Nat} {v : Value} {xs : List Int} (h : Ro w base v xs) (hf : Fr Z w w') (hn : ∀ k, v.ownBlock = some k → ¬ Z k) : Ro w' base v xs :=
  Kd.R_mono (Kd.R_step (Kd.R_reok (ok := fun k => some k = v.ownBlock) rfl h (fun _ hk => hk.symm)) (fun k hk hlt => hf.block k hlt (hn k hk.symm))) (fun _ _ => trivial)
theorem Ro.drewN {w : World} {base : Nat} {v : Value} {xs : List Int} (h : Ro w base v xs) (n : Nat) : Ro (w.drewN n) base v xs := Kd.R_drewN h n
section
variable {w : World} {base g n c : Nat} {xs : List Int}
end
end Go.Proofs.Ytmhnhfmkcipcpaa.Heap

namespace Go.Proofs.Ytmhnhfmkcipcpaa.Heap
open Go Go.RowKit Go.Proofs.Ytmhnhfmkcipcpaa.Hk Go.Proofs.Ytmhnhfmkcipcpaa.HeapPure Go.Proofs.Ytmhnhfmkcipcpaa.Less Go.Proofs.YtmhnhfmkcipcpaaW.PrintWords Go.Proofs.YtmhnhfmkcipcpaaW.PrintLast Go.Proofs.YtmhnhfmkcipcpaaW.PrintMore
end Go.Proofs.Ytmhnhfmkcipcpaa.Heap

namespace Go.Proofs.Ytmhnhfmkcipcpaa.Heap
open Go Go.RowKit Go.Proofs.Ytmhnhfmkcipcpaa.Hk Go.Proofs.Ytmhnhfmkcipcpaa.HeapPure Go.Proofs.Ytmhnhfmkcipcpaa.Less Go.Proofs.YtmhnhfmkcipcpaaW.PrintWords Go.Proofs.YtmhnhfmkcipcpaaW.PrintLast Go.Proofs.YtmhnhfmkcipcpaaW.PrintMore
theorem info3 : (Try.prog.info? 3).map (fun i => (i.zero, i.size, i.bytes)) = some (some (.int .i64 0), 1, 8) := by kernel_rfl
/-- The blocks that a heap's steps may turn: its own, and rows of numbers, from 'base' on. -/
def Zh (base R : Nat) (w : World) (k : Nat) : Prop := base ≤ k ∧ (k = R ∨ ∃ cs, w.heap[k]? = some (.cells cs 3 (0, 0)))
theorem zh_trans {base R : Nat} {a b c : World} (h : Fr (Zh base R a) a b) (k : Fr (Zh base R b) b c) : Fr (Zh base R a) a c :=
  h.trans k (fun n hn hz => by
    by_cases h0 : Zh base R a n
    · exact h0
    · have := h.block n hn h0
      obtain ⟨h1, h2⟩ := hz
      rw [this] at h2
      exact ⟨h1, h2⟩)
theorem zh_below {base R : Nat} {a b : World} (h : Fr (Zh base R a) a b) (hb : base ≤ a.heap.size) : Below base a b := h.below hb (fun _ hk => hk.1)
/-- A heap: its block, its order, and its row. -/
structure HeapV (base R : Nat) (tb : List Int) (v lv : Value) (xs : List Int) (w : World) : Prop where
  blk : Blk w R #[v, lv] 121
  less : LessS base w lv tb
  row : Ro w base v xs
  ge : base ≤ R
def HeapIn (base R : Nat) (tb xs : List Int) (w : World) : Prop := ∃ v lv, HeapV base R tb v lv xs w
section
variable {base R : Nat} {tb xs : List Int} {v lv : Value} {w w1 : World}
theorem HeapV.ne (h : HeapV base R tb v lv xs w) : some R ≠ v.ownBlock := Kd.R_ne h.row h.blk (by decide)
theorem HeapV.below (h : HeapV base R tb v lv xs w) (hb : Below w.heap.size w w1) (hs : base ≤ w.heap.size) : HeapV base R tb v lv xs w1 :=
  ⟨h.blk.below hb h.blk.lt, h.less.to ⟨hb.os, hb.tape, hb.output, hb.size, fun k hk => hb.block k (by omega)⟩, Kd.R_below h.row hb, h.ge⟩
theorem HeapV.drewN (h : HeapV base R tb v lv xs w) (n : Nat) : HeapV base R tb v lv xs (w.drewN n) := ⟨h.blk.drewN n, h.less.drewN n, h.row.drewN n, h.ge⟩
theorem HeapV.func (h : HeapV base R tb v lv xs w) : ∃ B, lv = .func (.func 84) #[] #[.pointer (some ⟨B, 0, none⟩)] := by
  obtain ⟨_, B, _, _, e, _⟩ := h.less.now
  exact ⟨B, e⟩
theorem HeapV.slice (h : HeapV base R tb v lv xs w) : ∃ A c, v = .slice A xs.length c := Kd.R_slice h.row
end
end Go.Proofs.Ytmhnhfmkcipcpaa.Heap

namespace Go.Proofs.Ytmhnhfmkcipcpaa.Heap
open Go Go.RowKit Go.Proofs.Ytmhnhfmkcipcpaa.Hk Go.Proofs.Ytmhnhfmkcipcpaa.HeapPure Go.Proofs.Ytmhnhfmkcipcpaa.Less Go.Proofs.YtmhnhfmkcipcpaaW.PrintWords Go.Proofs.YtmhnhfmkcipcpaaW.PrintLast Go.Proofs.YtmhnhfmkcipcpaaW.PrintMore
section
variable {base R g n c : Nat} {tb xs ys : List Int} {v v1 lv : Value} {w : World}
theorem HeapV.store (h : HeapV base R tb v lv xs w) (hb : base ≤ w.heap.size) (hr : Ro w base v1 ys) : HeapV base R tb v1 lv ys (w.setCell ⟨R, 0, none⟩ v1) ∧ Fr (Zh base R w) w (w.setCell ⟨R, 0, none⟩ v1) := by
  have hF : Fr (Zh base R w) w (w.setCell ⟨R, 0, none⟩ v1) := (Fr.refl _ _).setCell (p := ⟨R, 0, none⟩) (fun _ => ⟨h.ge, .inl rfl⟩) _
  exact ⟨⟨h.blk.set 0 _, h.less.to (zh_below hF hb), hr.fr (Fr.one (b := R) (i := 0)) (fun k hk e => Kd.R_ne hr h.blk (by decide) (by rw [hk, e])), h.ge⟩, hF⟩
end
end Go.Proofs.Ytmhnhfmkcipcpaa.Heap

namespace Go.Proofs.Ytmhnhfmkcipcpaa.Heap
open Go Go.RowKit Go.Proofs.Ytmhnhfmkcipcpaa.Hk Go.Proofs.Ytmhnhfmkcipcpaa.HeapPure Go.Proofs.Ytmhnhfmkcipcpaa.Less Go.Proofs.YtmhnhfmkcipcpaaW.PrintWords Go.Proofs.YtmhnhfmkcipcpaaW.PrintLast Go.Proofs.YtmhnhfmkcipcpaaW.PrintMore
end Go.Proofs.Ytmhnhfmkcipcpaa.Heap

namespace Go.Proofs.Ytmhnhfmkcipcpaa.Heap
open Go Go.RowKit Go.Proofs.Ytmhnhfmkcipcpaa.Hk Go.Proofs.Ytmhnhfmkcipcpaa.HeapPure Go.Proofs.Ytmhnhfmkcipcpaa.Less Go.Proofs.YtmhnhfmkcipcpaaW.PrintWords Go.Proofs.YtmhnhfmkcipcpaaW.PrintLast Go.Proofs.YtmhnhfmkcipcpaaW.PrintMore
theorem LessS.fun {base : Nat} {w : World} {lv : Value} {tb : List Int} (h : LessS base w lv tb) : ∃ B, lv = .func (.func 84) #[] #[.pointer (some ⟨B, 0, none⟩)] := by
  obtain ⟨_, B, _, _, e, _⟩ := h.now
  exact ⟨B, e⟩
set_option maxHeartbeats 4000000 in
set_option maxRecDepth 100000 in
theorem new_any (base : Nat) (tb : List Int) (lv : Value) (w : World) (hL : LessS base w lv tb) (hb : base ≤ w.heap.size) :
    Calls Try.prog 76 #[lv] w fun e w' => ∃ R, e = .returned (.pointer (some ⟨R, 0, none⟩)) ∧ HeapIn base R tb [] w' ∧ Below w.heap.size w w' := by
  obtain ⟨B, rfl⟩ := hL.fun
  have HL := hid hL
  have HB := hid hb
  clear hL hb
  go_enter Try.func76, Try.ntmps76
  go_wp2_with (first | ((with_reducible refine gate_dst (N := 3) rfl ?_); refine Kd.R_make (Kd.int .i64) (w0 := w) w.heap.size 3 rfl (N := 3) rfl 30 (.const (.int .i64 0)) (.const (.int .i64 0)) rfl 0 rfl rfl Try.underlying30 (.int .i64 0) 8 info3 rfl (by decide) (by omega) (0 : Int) (ok := fun _ => True) (okp := fun _ => False) ?hz (fun _ hk => hk.elim) trivial (by omega) (by decide) (Below.refl _ _) (Nat.le_refl _) ?_; (case hz => rfl); intro v1 w1 ho hb hg_ hnew_; obtain ⟨A_, c_, rfl⟩ := Kd.R_slice ho; have HO : Hid (Ro w1 w.heap.size (.slice A_ 0 c_) [] ∧ Below w.heap.size w w1) := hid (And.intro ho hb); clear hg_ hnew_ ho hb))
  go_ret
  have h1 : Below w1.heap.size w1 (w1.alloc (.cells #[.slice A_ 0 c_, .func (.func 84) #[] #[.pointer (some ⟨B, 0, none⟩)]] 121)) := (Below.refl _ _).alloc (Nat.le_refl _) _
  have h2 := below_at HO.out.2 h1 HO.out.2.size
  exact ⟨w1.heap.size, rfl, ⟨_, _, ⟨Blk.new w1 _ _, HL.out.to ⟨h2.os, h2.tape, h2.output, h2.size, fun k hk => h2.block k (Nat.lt_of_lt_of_le hk HB.out)⟩, Kd.R_lower (Kd.R_below HO.out.1 h1) HB.out, Nat.le_trans HB.out HO.out.2.size⟩⟩, h2⟩
end Go.Proofs.Ytmhnhfmkcipcpaa.Heap

namespace Go.Proofs.Ytmhnhfmkcipcpaa.Stack
open Go Go.RowKit Go.Proofs.Ytmhnhfmkcipcpaa.Hk Go.Proofs.Ytmhnhfmkcipcpaa.HeapPure Go.Proofs.Ytmhnhfmkcipcpaa.Heap Go.Proofs.YtmhnhfmkcipcpaaW.PrintWords Go.Proofs.YtmhnhfmkcipcpaaW.PrintLast Go.Proofs.YtmhnhfmkcipcpaaW.PrintMore
/-- A stack: its block, and its row. -/
structure One (base b : Nat) (v : Value) (xs : List Int) (w : World) : Prop where
  blk : Blk w b #[v] 107
  row : Ro w base v xs
  ge : base ≤ b
section
variable {base b : Nat} {xs ys : List Int} {v v1 : Value} {w w1 : World}
theorem One.ne (h : One base b v xs w) : some b ≠ v.ownBlock := Kd.R_ne h.row h.blk (by decide)
theorem One.below (h : One base b v xs w) (hb : Below w.heap.size w w1) : One base b v xs w1 := ⟨h.blk.below hb h.blk.lt, Kd.R_below h.row hb, h.ge⟩
theorem One.drewN (h : One base b v xs w) (n : Nat) : One base b v xs (w.drewN n) := ⟨h.blk.drewN n, h.row.drewN n, h.ge⟩
theorem One.fr {Z : Nat → Prop} (h : One base b v xs w) (hF : Fr Z w w1) (h1 : ¬ Z b) (h2 : ∀ k, v.ownBlock = some k → ¬ Z k) : One base b v xs w1 := ⟨h.blk.fr hF h1, h.row.fr hF h2, h.ge⟩
theorem One.slice (h : One base b v xs w) : ∃ A c, v = .slice A xs.length c := Kd.R_slice h.row
theorem One.store (h : One base b v xs w) (hr : Ro w base v1 ys) : One base b v1 ys (w.setCell ⟨b, 0, none⟩ v1) :=
  ⟨h.blk.set 0 _, hr.fr (Fr.one (b := b) (i := 0)) (fun k hk e => Kd.R_ne hr h.blk (by decide) (by rw [hk, e])), h.ge⟩
end
set_option maxHeartbeats 4000000 in
set_option maxRecDepth 100000 in
theorem new_any (w : World) : Calls Try.prog 30 #[] w fun e w' => ∃ b v, e = .returned (.pointer (some ⟨b, 0, none⟩)) ∧ One w.heap.size b v [] w' ∧ v.ownBlock = none ∧ Below w.heap.size w w' := by
  go_enter Try.func30, Try.ntmps30
  go_wp2_with fail
  go_ret
  exact ⟨w.heap.size, .slice none 0 0, rfl, ⟨Blk.new w _ _, Kd.R_nil .., Nat.le_refl _⟩, rfl, (Below.refl _ _).alloc (Nat.le_refl _) _⟩
/-- The last number, or nought. -/
def top (xs : List Int) : Int := at_ xs (xs.length - 1)
end Go.Proofs.Ytmhnhfmkcipcpaa.Stack

namespace Go.Proofs.Ytmhnhfmkcipcpaa.StackPure
open Go.Proofs.Ytmhnhfmkcipcpaa.HeapPure Go.Proofs.Ytmhnhfmkcipcpaa.Seen
/-- The last number, or nought. -/
def top (xs : List Int) : Int := at_ xs (xs.length - 1)
/-- Which stack a step is on. -/
def on (L : List (List Int)) (o : Int) : Nat := (o % (L.length : Int)).toNat
def stepS (L : List (List Int)) (a : St) : List (List Int) :=
  let b := L.getD (on L a.1) []
  if a.2.1 = 0 then L.set (on L a.1) (b ++ [a.2.2.1]) else if a.2.1 = 1 then L.set (on L a.1) (b.take (b.length - 1)) else if a.2.1 = 4 then L ++ [b] else L
def tellS (L : List (List Int)) (a : St) : Int × Bool :=
  let b := L.getD (on L a.1) []
  if a.2.1 = 1 ∨ a.2.1 = 2 then (top b, false) else if a.2.1 = 3 then ((b.length : Int), false) else (0, false)
def toldS : List (List Int) → List St → List (Int × Bool)
  | _, [] => []
  | L, a :: l => tellS L a :: toldS (stepS L a) l
end Go.Proofs.Ytmhnhfmkcipcpaa.StackPure

namespace Go.Proofs.Ytmhnhfmkcipcpaa.Heap
open Go Go.RowKit Go.Proofs.Ytmhnhfmkcipcpaa.Hk Go.Proofs.Ytmhnhfmkcipcpaa.HeapPure Go.Proofs.Ytmhnhfmkcipcpaa.Less Go.Proofs.YtmhnhfmkcipcpaaW.PrintWords Go.Proofs.YtmhnhfmkcipcpaaW.PrintLast Go.Proofs.YtmhnhfmkcipcpaaW.PrintMore
end Go.Proofs.Ytmhnhfmkcipcpaa.Heap

namespace Go.Proofs.Ytmhnhfmkcipcpaa.Heap
open Go Go.RowKit Go.Proofs.Ytmhnhfmkcipcpaa.Hk Go.Proofs.Ytmhnhfmkcipcpaa.HeapPure Go.Proofs.Ytmhnhfmkcipcpaa.Less Go.Proofs.YtmhnhfmkcipcpaaW.PrintWords Go.Proofs.YtmhnhfmkcipcpaaW.PrintLast Go.Proofs.YtmhnhfmkcipcpaaW.PrintMore
theorem zh_not {base R b : Nat} {w : World} {cs : Array Value} {t : TypeId} (h : Blk w b cs t) (ht : t ≠ 3) (hne : b ≠ R) : ¬ Zh base R w b := fun hz => by
  rcases hz.2 with e | ⟨cs', e⟩
  · exact hne e
  · have h' : w.heap[b]? = some (.cells cs t (0, 0)) := h
    rw [h'] at e
    injection e with e
    injection e with _ e
    exact ht e
/-- The cells of what a step tells. -/
abbrev F4 (n : Int) (ok : Bool) : Array Value := #[.int .i64 n, .bool ok, .slice none 0 0, .slice none 0 0]
/-- What stands while a step is done: the heap, the result's cells, what is told so far. -/
structure Sd (base R s : Nat) (tb xs : List Int) (n : Int) (ok : Bool) (w0 W : World) : Prop where
  heap : HeapIn base R tb xs W
  fr : Fr (Zh base R w0) w0 W
  x4 : Blk W (s + 1) (F4 0 false) 34
  x5 : Blk W (s + 2) (F4 n ok) 34
  lt : R < s
  big : base ≤ W.heap.size
  sz : s + 2 < W.heap.size
  s0 : w0.heap.size = s
section
variable {base R s : Nat} {tb xs ys : List Int} {n m : Int} {ok ok' : Bool} {w0 W W1 : World}
theorem Sd.step (h : Sd base R s tb xs n ok w0 W) (hH : HeapIn base R tb ys W1) (hF : Fr (Zh base R W) W W1) : Sd base R s tb ys n ok w0 W1 :=
  ⟨hH, zh_trans h.fr hF, h.x4.fr hF (zh_not h.x4 (by decide) (by have := h.lt; omega)), h.x5.fr hF (zh_not h.x5 (by decide) (by have := h.lt; omega)), h.lt, Nat.le_trans h.big hF.size, Nat.lt_of_lt_of_le h.sz hF.size, h.s0⟩
theorem Sd.set5 (h : Sd base R s tb xs n ok w0 W) (i : Nat) (u : Value) {n' : Int} {ok' : Bool} (hc : (F4 n ok).setIfInBounds i u = F4 n' ok') : Sd base R s tb xs n' ok' w0 (W.setCell ⟨s + 2, i, none⟩ u) := by
  obtain ⟨v, lv, hV⟩ := h.heap
  have hF : Fr (· = s + 2) W (W.setCell ⟨s + 2, i, none⟩ u) := Fr.one
  have hs0 := h.s0
  have hlt := h.lt
  have hbelow : Below (s + 2) W (W.setCell ⟨s + 2, i, none⟩ u) := hF.below (Nat.le_of_lt h.sz) (fun k hk => Nat.le_of_eq hk.symm)
  have hbase : base ≤ s := Nat.le_trans hV.ge (Nat.le_of_lt hlt)
  refine ⟨⟨v, lv, ⟨hV.blk.fr hF (by omega), hV.less.to ⟨hbelow.os, hbelow.tape, hbelow.output, hbelow.size, fun k hk => hbelow.block k (by omega)⟩, Ro.fr hV.row hF (fun k hk e => ?_), hV.ge⟩⟩, h.fr.trans hF (fun k hk e => by omega), h.x4.fr hF (by omega), ?_, h.lt, Nat.le_trans h.big hF.size, Nat.lt_of_lt_of_le h.sz hF.size, hs0⟩
  · obtain ⟨inner, ho⟩ := Kd.R_own hV.row
    obtain ⟨cells, hc'⟩ := own_typed ho k hk
    subst e
    have h5 : W.heap[s + 2]? = some (.cells (F4 n ok) 34 (0, 0)) := h.x5
    rw [h5] at hc'
    injection hc' with hc'
    injection hc' with _ hc'
    exact absurd hc' (by decide)
  · have := h.x5.set i u
    rw [hc] at this
    exact this
theorem Sd.start (hH : HeapIn base R tb xs w0) (hb : base ≤ w0.heap.size) (st : Array Value) :
    Sd base R w0.heap.size tb xs 0 false w0 (((w0.alloc (.cells st 27)).alloc (.cells (F4 0 false) 34)).alloc (.cells (F4 0 false) 34)) := by
  obtain ⟨v, lv, hV⟩ := hH
  have hB : Below w0.heap.size w0 (((w0.alloc (.cells st 27)).alloc (.cells (F4 0 false) 34)).alloc (.cells (F4 0 false) 34)) := (((Below.refl _ _).alloc (Nat.le_refl _) _).alloc (by simp) _).alloc (by simp; omega) _
  have h4 := Blk.new (w0.alloc (.cells st 27)) (F4 0 false) 34
  have h5 := Blk.new ((w0.alloc (.cells st 27)).alloc (.cells (F4 0 false) 34)) (F4 0 false) 34
  rw [Hk.alloc_size] at h4
  rw [Hk.alloc_size, Hk.alloc_size] at h5
  exact ⟨⟨v, lv, hV.below hB hb⟩, Fr.new hB, h4.alloc _, h5, hV.blk.lt, Nat.le_trans hb hB.size, by simp, rfl⟩
end
end Go.Proofs.Ytmhnhfmkcipcpaa.Heap

namespace Go.Proofs.Ytmhnhfmkcipcpaa.Heap
open Go Go.RowKit Go.Proofs.Ytmhnhfmkcipcpaa.Hk Go.Proofs.Ytmhnhfmkcipcpaa.HeapPure Go.Proofs.Ytmhnhfmkcipcpaa.Less Go.Proofs.Ytmhnhfmkcipcpaa.Seen Go.Proofs.YtmhnhfmkcipcpaaW.PrintWords Go.Proofs.YtmhnhfmkcipcpaaW.PrintLast Go.Proofs.YtmhnhfmkcipcpaaW.PrintMore
theorem infoSeen : (Try.prog.info? 34).map (fun i => (i.zero, i.size, i.bytes)) = some (some (.agg #[(.int .i64 0), (.bool false), (.slice none 0 0), (.slice none 0 0)]), 4, 64) := by kernel_rfl
theorem undSeens : Try.prog.underlying 24 = some (.slice 34) := by kernel_rfl
/-- What a heap holds behind a script. -/
def runH (r : Int → Int) : List Int → List St → List Int
  | xs, [] => xs
  | xs, a :: l => runH r (HeapPure.stepT r xs a.2.1 a.2.2.1) l
/-- What the steps tell. -/
def toldH (r : Int → Int) : List Int → List St → List (Int × Bool)
  | _, [] => []
  | xs, a :: l => tellT xs a.2.1 :: toldH r (HeapPure.stepT r xs a.2.1 a.2.2.1) l
/-- What holds between the steps of a script that began at w. -/
structure Rn (base R : Nat) (tb : List Int) (w : World) (xs0 : List Int) (l : List St) (i : Nat) (xs : List Int) (v : Value) (rs : List (Int × Bool)) (W : World) : Prop where
  heap : HeapIn base R tb xs W
  row : seenN.R 34 W base (fun _ => True) v rs
  below : Below w.heap.size w W
  big : base ≤ W.heap.size
  told : rs ++ toldH (rankOf tb) xs (l.drop i) = toldH (rankOf tb) xs0 l
  run : runH (rankOf tb) xs (l.drop i) = runH (rankOf tb) xs0 l
  len : xs.length + (l.length - i) ≤ 549755813888
  rlen : rs.length = i
end Go.Proofs.Ytmhnhfmkcipcpaa.Heap

namespace Go.Proofs.Ytmhnhfmkcipcpaa.Stack
open Go Go.RowKit Go.Proofs.Ytmhnhfmkcipcpaa.Hk Go.Proofs.Ytmhnhfmkcipcpaa.HeapPure Go.Proofs.Ytmhnhfmkcipcpaa.Heap Go.Proofs.Ytmhnhfmkcipcpaa.StackPure Go.Proofs.Ytmhnhfmkcipcpaa.Seen Go.Proofs.YtmhnhfmkcipcpaaW.PrintWords Go.Proofs.YtmhnhfmkcipcpaaW.PrintLast Go.Proofs.YtmhnhfmkcipcpaaW.PrintMore
/-- A stack in memory: its block, its row's value, its numbers. -/
structure Sk where
  b : Nat
  v : Value
  xs : List Int
def ptrV (b : Nat) : Value := .pointer (some ⟨b, 0, none⟩)
def ptrK : Kd Nat := Kd.scalar ptrV (fun _ => rfl)
/-- Stacks, no two of which share anything. -/
structure Al (base : Nat) (w : World) (ks : List Sk) : Prop where
  one : ∀ (i : Nat) (k : Sk), ks[i]? = some k → One base k.b k.v k.xs w
  ap : ∀ (i j : Nat) (k k' : Sk), ks[i]? = some k → ks[j]? = some k' → i ≠ j → k.b ≠ k'.b ∧ ∀ g, k.v.ownBlock = some g → k'.v.ownBlock ≠ some g
section
variable {base b : Nat} {w w1 : World} {ks : List Sk} {k : Sk} {v v' : Value} {xs xs' : List Int}
theorem One.typed (h : One base b v xs w) : ∀ g, v.ownBlock = some g → ∃ cs, w.heap[g]? = some (.cells cs 3 (0, 0)) := fun g hg => by
  obtain ⟨inner, ho⟩ := Kd.R_own h.row
  exact own_typed ho g hg
theorem clash {g : Nat} {cs cs' : Array Value} {t t' : TypeId} (h : w.heap[g]? = some (.cells cs t (0, 0))) (h' : w.heap[g]? = some (.cells cs' t' (0, 0))) (hne : t ≠ t') : False := by
  rw [h] at h'
  injection h' with h'
  injection h' with _ h'
  exact hne h'
/-- What a step on a stack turns. -/
def Zs (k : Sk) (z : Nat) : Prop := z = k.b ∨ k.v.ownBlock = some z
theorem Al.below (h : Al base w ks) (hb : Below w.heap.size w w1) : Al base w1 ks := ⟨fun i k hk => (h.one i k hk).below hb, h.ap⟩
theorem Al.drewN (h : Al base w ks) (n : Nat) : Al base (w.drewN n) ks := ⟨fun i k hk => (h.one i k hk).drewN n, h.ap⟩
/-- A block of another type is none that a step turns. -/
theorem zs_not {i : Nat} (h : Al base w ks) (hk : ks[i]? = some k) {g : Nat} {cs : Array Value} {t : TypeId} (hg : w.heap[g]? = some (.cells cs t (0, 0))) (h1 : t ≠ 107) (h2 : t ≠ 3) : ¬ Zs k g := by
  rintro (rfl | e)
  · exact clash hg (h.one i k hk).blk h1
  · obtain ⟨cs', h'⟩ := (h.one i k hk).typed g e
    exact clash hg h' h2
theorem Al.set {i : Nat} (h : Al base w ks) (hk : ks[i]? = some k) (hO : One base k.b v' xs' w1) (hF : Fr (Zs k) w w1) (hat : v'.ownBlock = k.v.ownBlock ∨ ∃ g, v'.ownBlock = some g ∧ w.heap.size ≤ g) : Al base w1 (ks.set i ⟨k.b, v', xs'⟩) := by
  have hil : i < ks.length := (List.getElem?_eq_some_iff.1 hk).1
  have other : ∀ (j : Nat) (k' : Sk), ks[j]? = some k' → j ≠ i → One base k'.b k'.v k'.xs w1 ∧ k'.b ≠ k.b ∧ (∀ g, k'.v.ownBlock = some g → v'.ownBlock ≠ some g) := by
    intro j k' hk' hne
    have hj := h.one j k' hk'
    have ha := h.ap j i k' k hk' hk hne
    refine ⟨hj.fr hF ?_ ?_, ha.1, ?_⟩
    · rintro (e | e)
      · exact ha.1 e
      · obtain ⟨cs, h'⟩ := (h.one i k hk).typed _ e
        exact clash hj.blk h' (by decide)
    · intro g hg
      rintro (e | e)
      · subst e
        obtain ⟨cs, h'⟩ := hj.typed _ hg
        exact clash (h.one i k hk).blk h' (by decide)
      · exact ha.2 g hg e
    · intro g hg e
      rcases hat with q | ⟨g', q, hge⟩
      · rw [q] at e; exact ha.2 g hg e
      · rw [q] at e; injection e with e; have := Kd.R_lt hj.row g hg; omega
  refine ⟨fun j k' hk' => ?_, fun j j' k1 k2 h1 h2 hne => ?_⟩
  · rw [List.getElem?_set] at hk'
    by_cases c : i = j
    · rw [if_pos c, if_pos hil] at hk'
      injection hk' with hk'
      subst hk'
      exact hO
    · rw [if_neg c] at hk'
      exact (other j k' hk' (fun e => c e.symm)).1
  · rw [List.getElem?_set] at h1 h2
    by_cases c1 : i = j
    · rw [if_pos c1, if_pos hil] at h1
      injection h1 with h1
      subst h1
      rw [if_neg (fun e => hne (c1.symm.trans e))] at h2
      have o := other j' k2 h2 (fun e => hne (c1.symm.trans e.symm))
      exact ⟨o.2.1.symm, fun g e e2 => o.2.2 g e2 e⟩
    · rw [if_neg c1] at h1
      have o := other j k1 h1 (fun e => c1 e.symm)
      by_cases c2 : i = j'
      · rw [if_pos c2, if_pos hil] at h2
        injection h2 with h2
        subst h2
        exact ⟨o.2.1, o.2.2⟩
      · rw [if_neg c2] at h2
        exact h.ap j j' k1 k2 h1 h2 hne
/-- A row of pointers, or of what is told, stays while a step is done on a stack. -/
theorem row_zs {α : Type} {d : Kd α} {e i : Nat} {vr : Value} {rs : List α} (hE : d.E = []) (he : e ≠ 107) (he3 : e ≠ 3) (h : Al base w ks) (hk : ks[i]? = some k) (hR : d.R e w base (fun _ => True) vr rs) (hF : Fr (Zs k) w w1) : d.R e w1 base (fun _ => True) vr rs := by
  refine Kd.R_mono (Kd.R_step (Kd.R_reok (ok := fun g => some g = vr.ownBlock) hE hR (fun _ hk => hk.symm)) (fun g hg hlt => hF.block g hlt ?_)) (fun _ _ => trivial)
  obtain ⟨inner, ho⟩ := Kd.R_own hR
  obtain ⟨cells, hc'⟩ := own_typed ho g hg.symm
  exact zs_not h hk hc' he he3
end
/-- What holds within a step of a script that began at w0. -/
structure Sr (base s : Nat) (w0 : World) (ks : List Sk) (va vo : Value) (rs : List (Int × Bool)) (n : Int) (W : World) : Prop where
  al : Al base W ks
  all : ptrK.R 53 W base (fun _ => True) va (ks.map (·.b))
  out : seenN.R 34 W base (fun _ => True) vo rs
  off : ∀ k, vo.ownBlock = some k → k ≠ s + 1
  below : Below base w0 W
  big : base ≤ W.heap.size
  bs : base ≤ s
  x6 : ∃ cs, Blk W s cs 27
  x8 : Blk W (s + 1) (F4 n false) 34
section
variable {base s i : Nat} {w0 W W1 : World} {ks : List Sk} {k : Sk} {va vo : Value} {rs : List (Int × Bool)} {n : Int} {v' : Value} {xs' : List Int}
theorem Sr.step (h : Sr base s w0 ks va vo rs n W) (hk : ks[i]? = some k) (hO : One base k.b v' xs' W1) (hF : Fr (Zs k) W W1) (hat : v'.ownBlock = k.v.ownBlock ∨ ∃ g, v'.ownBlock = some g ∧ W.heap.size ≤ g) : Sr base s w0 (ks.set i ⟨k.b, v', xs'⟩) va vo rs n W1 := by
  have hkb : base ≤ k.b := (h.al.one i k hk).ge
  have hz : ∀ z, Zs k z → base ≤ z := by
    rintro z (rfl | e)
    · exact hkb
    · exact Kd.R_base (h.al.one i k hk).row z e
  have hmap : (ks.set i ⟨k.b, v', xs'⟩).map (·.b) = ks.map (·.b) := by
    rw [List.map_set]
    apply List.ext_getElem?
    intro j
    rw [List.getElem?_set]
    split
    · rename_i e
      subst e
      rw [List.getElem?_map, hk, List.length_map, if_pos (List.getElem?_eq_some_iff.1 hk).1]
      rfl
    · rfl
  obtain ⟨cs, h6⟩ := h.x6
  refine ⟨h.al.set hk hO hF hat, ?_, row_zs (d := seenN) rfl (by decide) (by decide) h.al hk h.out hF, h.off, h.below.trans (hF.below h.big hz), Nat.le_trans h.big hF.size, h.bs, ⟨cs, h6.fr hF (zs_not h.al hk h6 (by decide) (by decide))⟩, h.x8.fr hF (zs_not h.al hk h.x8 (by decide) (by decide))⟩
  rw [hmap]
  exact row_zs (d := ptrK) rfl (by decide) (by decide) h.al hk h.all hF
theorem Sr.drewN (h : Sr base s w0 ks va vo rs n W) (m : Nat) : Sr base s w0 ks va vo rs n (W.drewN m) := by
  obtain ⟨cs, h6⟩ := h.x6
  exact ⟨h.al.drewN m, Kd.R_drewN h.all m, Kd.R_drewN h.out m, h.off, below_dN h.below m, h.big, h.bs, ⟨cs, h6.drewN m⟩, h.x8.drewN m⟩
end
/-- What holds between the steps of a script that began at w0. -/
structure Rn (base : Nat) (w0 : World) (l : List St) (i : Nat) (ks : List Sk) (va vo : Value) (rs : List (Int × Bool)) (W : World) : Prop where
  al : Al base W ks
  all : ptrK.R 53 W base (fun _ => True) va (ks.map (·.b))
  out : seenN.R 34 W base (fun _ => True) vo rs
  below : Below base w0 W
  big : base ≤ W.heap.size
  told : rs ++ toldS (ks.map (·.xs)) (l.drop i) = toldS [[]] l
  len : ks ≠ [] ∧ ks.length ≤ i + 1
  each : ∀ (j : Nat) (k : Sk), ks[j]? = some k → k.xs.length ≤ i
  rlen : rs.length = i
theorem at_ptr {w : World} {A : Option Addr} {n : Nat} {xs : List Nat} (h : Kd.C ptrK w A n xs) (i : Int) (h0 : 0 ≤ i) (h1 : i < n) : ∃ ad, A = some ad ∧ w.cell? (ad.add i.toNat) = some (ptrV (xs.getD i.toNat 0)) :=
  ReadsOf.at_ (Kd.reads_of_C (enc := ptrV) (d := (0 : Nat)) (h1 := fun _ => rfl) h) i h0 h1
end Go.Proofs.Ytmhnhfmkcipcpaa.Stack

namespace Go.Proofs.Ytmhnhfmkcipcpaa.Stack
open Go Go.RowKit Go.Proofs.Ytmhnhfmkcipcpaa.Hk Go.Proofs.Ytmhnhfmkcipcpaa.HeapPure Go.Proofs.Ytmhnhfmkcipcpaa.Heap Go.Proofs.Ytmhnhfmkcipcpaa.StackPure Go.Proofs.Ytmhnhfmkcipcpaa.Seen Go.Proofs.YtmhnhfmkcipcpaaW.PrintWords Go.Proofs.YtmhnhfmkcipcpaaW.PrintLast Go.Proofs.YtmhnhfmkcipcpaaW.PrintMore
section
variable {base : Nat} {w w1 : World} {ks : List Sk} {Z : Nat → Prop}
theorem Al.fr (h : Al base w ks) (hF : Fr Z w w1) (hZ : ∀ g, Z g → ∃ cs t, w.heap[g]? = some (.cells cs t (0, 0)) ∧ t ≠ 107 ∧ t ≠ 3) : Al base w1 ks :=
  ⟨fun i k hk => (h.one i k hk).fr hF (fun e => by
      obtain ⟨cs, t, h', h1, _⟩ := hZ _ e
      exact clash h' (h.one i k hk).blk h1) (fun g hg e => by
      obtain ⟨cs, t, h', _, h2⟩ := hZ _ e
      obtain ⟨cs', h''⟩ := (h.one i k hk).typed g hg
      exact clash h' h'' h2), h.ap⟩
theorem row_fr {α : Type} {d : Kd α} {e : Nat} {vr : Value} {rs : List α} (hE : d.E = []) (hR : d.R e w base (fun _ => True) vr rs) (hF : Fr Z w w1) (hZ : ∀ g, Z g → ∃ cs t, w.heap[g]? = some (.cells cs t (0, 0)) ∧ t ≠ e) : d.R e w1 base (fun _ => True) vr rs := by
  refine Kd.R_mono (Kd.R_step (Kd.R_reok (ok := fun g => some g = vr.ownBlock) hE hR (fun _ hk => hk.symm)) (fun g hg hlt => hF.block g hlt (fun hz => ?_))) (fun _ _ => trivial)
  obtain ⟨cs, t, h', hne⟩ := hZ g hz
  obtain ⟨inner, ho⟩ := Kd.R_own hR
  obtain ⟨cells, hc'⟩ := own_typed ho g hg.symm
  exact clash h' hc' hne
theorem blk_fr {g : Nat} {cs : Array Value} {e : TypeId} (hb : Blk w g cs e) (hF : Fr Z w w1) (hZ : ∀ g, Z g → ∃ cs t, w.heap[g]? = some (.cells cs t (0, 0)) ∧ t ≠ e) : Blk w1 g cs e := hb.fr hF (fun hz => by
  obtain ⟨cs', t, h', hne⟩ := hZ g hz
  exact clash h' hb hne)
end
section
variable {base s i : Nat} {w0 W W1 W2 : World} {ks : List Sk} {k : Sk} {va va' vo vo' : Value} {rs rs' : List (Int × Bool)} {n : Int} {b' : Nat} {v' : Value} {xs' : List Int}
theorem Sr.told (h : Sr base s w0 ks va vo rs n W) (hR : seenN.R 34 W1 base (fun _ => True) vo' rs') (hg : W.grownBy W1 vo.ownBlock) :
    Al base W1 ks ∧ ptrK.R 53 W1 base (fun _ => True) va (ks.map (·.b)) ∧ seenN.R 34 W1 base (fun _ => True) vo' rs' ∧ Below base w0 W1 ∧ base ≤ W1.heap.size := by
  have hF : Fr (fun k => some k = vo.ownBlock) W W1 := Fr.of_grown hg
  have hZ : ∀ g, some g = vo.ownBlock → ∃ cs, W.heap[g]? = some (.cells cs 34 (0, 0)) := fun g e => by
    obtain ⟨inner, ho⟩ := Kd.R_own h.out
    exact own_typed ho g e.symm
  refine ⟨h.al.fr hF (fun g e => ?_), row_fr (d := ptrK) rfl h.all hF (fun g e => ?_), hR, h.below.trans (hF.below h.big (fun g e => Kd.R_base h.out g e.symm)), Nat.le_trans h.big hF.size⟩
  · obtain ⟨cs, h'⟩ := hZ g e
    exact ⟨cs, _, h', by decide, by decide⟩
  · obtain ⟨cs, h'⟩ := hZ g e
    exact ⟨cs, _, h', by decide⟩
end
theorem start {b0 : Nat} {v0 v2 : Value} {w w1 w2 : World} {l : List St} (hO : One w.heap.size b0 v0 [] w1) (_ : Below w.heap.size w w1) (ho : ptrK.R 53 w2 w.heap.size (fun _ => True) v2 [b0]) (hb : Below w.heap.size w w2) (hg : w1.grownBy w2 none) : Rn w.heap.size w l 0 [⟨b0, v0, []⟩] v2 (.slice none 0 0) [] w2 := by
  have h2 : Below w1.heap.size w1 w2 := ⟨hg.os, hg.tape, hg.output, hg.size, fun k hk => hg.block k hk (by simp)⟩
  have get : ∀ (i : Nat) (k : Sk), ([⟨b0, v0, []⟩] : List Sk)[i]? = some k → i = 0 ∧ k = ⟨b0, v0, []⟩ := by
    intro i k hk
    match i, hk with
    | 0, hk =>
      simp only [List.getElem?_cons_zero, Option.some.injEq] at hk
      exact ⟨rfl, hk.symm⟩
  refine ⟨⟨fun i k hk => ?_, fun i j k k' h1 h2 hne => ?_⟩, ho, Kd.R_nil .., hb, hb.size, rfl, ⟨by simp, by simp⟩, fun j k hk => ?_, rfl⟩
  · obtain ⟨_, rfl⟩ := get i k hk
    exact hO.below h2
  · exact absurd ((get i k h1).1.trans (get j k' h2).1.symm) hne
  · obtain ⟨_, rfl⟩ := get j k hk
    exact Nat.zero_le _
end Go.Proofs.Ytmhnhfmkcipcpaa.Stack

namespace Go.Proofs.Ytmhnhfmkcipcpaa.Stack
open Go Go.RowKit Go.Proofs.Ytmhnhfmkcipcpaa.Hk Go.Proofs.Ytmhnhfmkcipcpaa.HeapPure Go.Proofs.Ytmhnhfmkcipcpaa.Heap Go.Proofs.Ytmhnhfmkcipcpaa.StackPure Go.Proofs.Ytmhnhfmkcipcpaa.Seen Go.Proofs.YtmhnhfmkcipcpaaW.PrintWords Go.Proofs.YtmhnhfmkcipcpaaW.PrintLast Go.Proofs.YtmhnhfmkcipcpaaW.PrintMore
set_option maxHeartbeats 400000 in
theorem smod_any (k n : Int) (w : World) (h0 : 0 < n) (h1 : n ≤ 140737488351232) :
    Calls Try.prog 37 #[.int .i64 k, .int .i64 n] w fun e w' => e = .returned (.int .i64 (k % n)) ∧ w' = w := by
  obtain ⟨b0, b1, ht⟩ := Less.tmod_bd k n h0
  have hz : (n == 0) = false := beq_eq_false_iff_ne.2 (by omega)
  have HT : Hid ((k.tmod n + n) % n = k % n) := ht
  clear ht
  go_enter Try.func37, Try.ntmps37
  go_wp2
  go_ret
  exact ⟨congrArg (fun x => Ending.returned (.int .i64 x)) HT.out, rfl⟩
/-- A slice's value: where, how long, how much room. -/
abbrev Sl := Option Addr × Nat × Nat
def slV (p : Sl) : Value := .slice p.1 p.2.1 p.2.2
def slK : Kd Sl := Kd.scalar slV (fun _ => rfl)
/-- Numbers that lie in rows of numbers, and are only read. -/
structure Lies (w : World) (p : Sl) (xs : List Int) : Prop where
  len : p.2.1 = xs.length
  cap : p.2.1 ≤ p.2.2
  cells : Kd.C (Kd.int .i64) w p.1 xs.length xs
  typed : ∀ ad, p.1 = some ad → 0 < xs.length → ∃ cs, w.heap[ad.block]? = some (.cells cs 3 (0, 0))
theorem cell_same {w w1 : World} {a : Addr} (h : w1.heap[a.block]? = w.heap[a.block]?) : w1.cell? a = w.cell? a := by simp [World.cell?, h]
theorem add_block (a : Addr) (k : Nat) : (a.add k).block = a.block := by
  unfold Addr.add
  split <;> rfl
section
variable {w w1 : World} {p : Sl} {xs : List Int} {Z : Nat → Prop} {base c n : Nat} {A : Option Addr}
theorem Lies.fr (h : Lies w p xs) (hF : Fr Z w w1) (hZ : ∀ g, Z g → ∃ cs t, w.heap[g]? = some (.cells cs t (0, 0)) ∧ t ≠ 3) : Lies w1 p xs := by
  have same : ∀ ad, p.1 = some ad → 0 < xs.length → w1.heap[ad.block]? = w.heap[ad.block]? := fun ad e h0 => by
    obtain ⟨cs, hc⟩ := h.typed ad e h0
    refine hF.block _ (lt_of_block hc) (fun hz => ?_)
    obtain ⟨cs', t, h', hne⟩ := hZ _ hz
    exact clash h' hc hne
  refine ⟨h.len, h.cap, ⟨h.cells.1, h.cells.2.1, fun hn => ?_⟩, fun ad e h0 => ?_⟩
  · obtain ⟨ad, e, hc⟩ := h.cells.2.2 hn
    refine ⟨ad, e, fun j q hq => ?_⟩
    obtain ⟨cs, h1, h2, h3⟩ := hc j q hq
    exact ⟨cs, h1, h2, fun i u hu => (cell_same (by rw [add_block]; exact same ad e hn)).trans (h3 i u hu)⟩
  · obtain ⟨cs, hc⟩ := h.typed ad e h0
    exact ⟨cs, (same ad e h0).trans hc⟩
theorem Lies.below (h : Lies w p xs) (hB : Below w.heap.size w w1) : Lies w1 p xs := h.fr (Fr.new (Z := fun _ => False) hB) (fun _ h => h.elim)
theorem Lies.of (h : Ro w base (.slice A n c) xs) : Lies w (A, n, c) xs := by
  obtain ⟨h1, h2, h3⟩ := Kd.R_reads' h
  refine ⟨h1, h2, h3, fun ad e h0 => ?_⟩
  obtain ⟨inner, ho⟩ := Kd.R_own h
  obtain ⟨g, c', e', _⟩ := Kd.R_form h h0
  injection e' with e' _ _
  have e2 : ad = ⟨g, 0, none⟩ := by
    rw [e'] at e
    injection e with e
    exact e.symm
  subst e2
  exact own_typed ho g (by rw [e']; rfl)
theorem Lies.take (h : Lies w p xs) {m : Nat} (hm : m ≤ xs.length) : Lies w (p.1, m, p.2.2) (xs.take m) := by
  have hl : (xs.take m).length = m := by rw [List.length_take]; omega
  exact ⟨hl.symm, by have := h.cap; have := h.len; show m ≤ p.2.2; omega, Kd.C_take h.cells hm, fun ad e h0 => h.typed ad e (by omega)⟩
theorem Lies.cell (h : Lies w p xs) {j : Nat} (hj : j < xs.length) : ∃ ad, p.1 = some ad ∧ w.cell? (ad.add j) = some (.int .i64 (at_ xs j)) := by
  obtain ⟨ad, e, hc⟩ := Kd.at_int h.cells (j : Int) (by omega) (by omega)
  exact ⟨ad, e, by rw [Int.toNat_natCast] at hc; exact hc⟩
theorem Lies.nil (w : World) : Lies w (none, 0, 0) [] := ⟨rfl, Nat.le_refl _, Kd.C_nil _ _, fun _ e => by cases e⟩
end
/-- Rows that lie. -/
def Lie2 (w : World) (ps : List Sl) (L : List (List Int)) : Prop := ps.length = L.length ∧ ∀ (j : Nat) (p : Sl) (xs : List Int), ps[j]? = some p → L[j]? = some xs → Lies w p xs
section
variable {w w1 : World} {ps : List Sl} {L : List (List Int)} {Z : Nat → Prop}
theorem Lie2.fr (h : Lie2 w ps L) (hF : Fr Z w w1) (hZ : ∀ g, Z g → ∃ cs t, w.heap[g]? = some (.cells cs t (0, 0)) ∧ t ≠ 3) : Lie2 w1 ps L := ⟨h.1, fun j p xs hp hx => (h.2 j p xs hp hx).fr hF hZ⟩
theorem Lie2.below (h : Lie2 w ps L) (hB : Below w.heap.size w w1) : Lie2 w1 ps L := ⟨h.1, fun j p xs hp hx => (h.2 j p xs hp hx).below hB⟩
theorem Lie2.set (h : Lie2 w ps L) {j : Nat} {p : Sl} {xs : List Int} (hp : Lies w p xs) : Lie2 w (ps.set j p) (L.set j xs) := by
  refine ⟨by rw [List.length_set, List.length_set]; exact h.1, fun i q ys h1 h2 => ?_⟩
  rw [List.getElem?_set] at h1 h2
  by_cases c : j = i
  · rw [if_pos c] at h1 h2
    split at h1
    · split at h2
      · injection h1 with h1; injection h2 with h2; subst h1; subst h2; exact hp
      · cases h2
    · cases h1
  · rw [if_neg c] at h1 h2
    exact h.2 i q ys h1 h2
end
/-- A row of slices of the call's own. -/
abbrev Rsl (w : World) (base : Nat) (v : Value) (ps : List Sl) : Prop := slK.R 30 w base (fun _ => True) v ps
section
variable {w : World} {base g n c : Nat} {ps : List Sl}
theorem sl_cell (h : Rsl w base (.slice (some ⟨g, 0, none⟩) n c) ps) (i : Nat) {p : Sl} (hp : ps[i]? = some p) : w.cell? ⟨g, i, none⟩ = some (slV p) := by
  obtain ⟨hn, _, hC⟩ := Kd.R_reads' h
  have hi := (List.getElem?_eq_some_iff.1 hp).1
  obtain ⟨ad, e, hc⟩ := ReadsOf.at_ (Kd.reads_of_C (enc := slV) (d := ((none, 0, 0) : Sl)) (h1 := fun _ => rfl) hC) (i : Int) (by omega) (by omega)
  injection e with e
  subst e
  rw [Int.toNat_natCast] at hc
  have e1 : (⟨g, 0, none⟩ : Addr).add i = ⟨g, i, none⟩ := by
    unfold Addr.add
    by_cases h0 : i = 0 <;> simp [h0]
  rw [e1] at hc
  rw [hc, rdOf, Int.toNat_natCast, List.getD_eq_getElem?_getD, hp]
  rfl
theorem sl_set (h : Rsl w base (.slice (some ⟨g, 0, none⟩) n c) ps) (i : Nat) {q : Sl} (hq : ps[i]? = some q) (p : Sl) : Rsl (w.setCell ⟨g, i, none⟩ (slV p)) base (.slice (some ⟨g, 0, none⟩) n c) (ps.set i p) := by
  have hn := (Kd.R_reads' h).1
  have hi := (List.getElem?_eq_some_iff.1 hq).1
  have h1 := (Kd.R_seg (okp := fun _ => False) h (i : Int) (by omega) (by omega) (c := [slV q]) (seg := [slV p]) (j := 0) rfl (fun j u hj => ?_) (Nat.le_refl 1) (x' := p) rfl (fun _ h => h.elim)).1
  · have e1 : ((i : Int).toNat * slK.sz + 0) = i := by show (i : Int).toNat * 1 + 0 = i; omega
    rw [e1, Int.toNat_natCast] at h1
    exact h1
  · match j, hj with
    | 0, hj =>
      have := sl_cell h i hq
      simp only [List.getElem?_cons_zero, Option.some.injEq] at hj
      rw [← hj]
      have e1 : ((i : Int).toNat * slK.sz + 0) = i := by show (i : Int).toNat * 1 + 0 = i; omega
      rw [e1]
      exact this
end
/-- What holds within one. -/
structure Md (base s : Nat) (w0 : World) (ps : List Sl) (L : List (List Int)) (va vo : Value) (rs : List (Int × Bool)) (n : Int) (W : World) : Prop where
  all : Rsl W base va ps
  lies : Lie2 W ps L
  out : seenN.R 34 W base (fun _ => True) vo rs
  off : ∀ k, vo.ownBlock = some k → k ≠ s
  below : Below base w0 W
  big : base ≤ W.heap.size
  bs : base ≤ s
  x6 : Blk W s (F4 n false) 34
section
variable {base s j : Nat} {w0 W W1 : World} {ps ps' : List Sl} {L L' : List (List Int)} {va va' vo vo' : Value} {rs rs' : List (Int × Bool)} {n : Int} {p q : Sl} {xs : List Int}
theorem row_typed {α : Type} {d : Kd α} {e : Nat} {ok : Nat → Prop} {v : Value} {ys : List α} (h : d.R e W base ok v ys) : ∀ g, some g = v.ownBlock → ∃ cs, W.heap[g]? = some (.cells cs e (0, 0)) := fun g hg => by
  obtain ⟨inner, ho⟩ := Kd.R_own h
  exact own_typed ho g hg.symm
theorem Md.later (h : Md base s w0 ps L va vo rs n W) (hB : Below W.heap.size W W1) : Md base s w0 ps L va vo rs n W1 :=
  ⟨Kd.R_below h.all hB, h.lies.below hB, Kd.R_below h.out hB, h.off, h.below.trans ⟨hB.os, hB.tape, hB.output, hB.size, fun k hk => hB.block k (Nat.lt_of_lt_of_le hk h.big)⟩, Nat.le_trans h.big hB.size, h.bs, h.x6.below hB h.x6.lt⟩
/-- A row set in its place. -/
theorem Md.put {g c m : Nat} (h : Md base s w0 ps L (.slice (some ⟨g, 0, none⟩) m c) vo rs n W) (hq : ps[j]? = some q) (hp : Lies W p xs) : Md base s w0 (ps.set j p) (L.set j xs) (.slice (some ⟨g, 0, none⟩) m c) vo rs n (W.setCell ⟨g, j, none⟩ (slV p)) := by
  have hF : Fr (· = g) W (W.setCell ⟨g, j, none⟩ (slV p)) := Fr.one
  have hZ : ∀ e, (30 : Nat) ≠ e → ∀ k, k = g → ∃ cs t, W.heap[k]? = some (.cells cs t (0, 0)) ∧ t ≠ e := fun e hne k hk => by
    subst hk
    obtain ⟨cs, h'⟩ := row_typed h.all k rfl
    exact ⟨cs, _, h', hne⟩
  exact ⟨sl_set h.all j hq p, (h.lies.set hp).fr hF (hZ _ (by decide)), row_fr (d := seenN) rfl h.out hF (hZ _ (by decide)), h.off, h.below.trans (hF.below h.big (fun k hk => by rw [hk]; exact Kd.R_base h.all g rfl)), Nat.le_trans h.big hF.size, h.bs, blk_fr h.x6 hF (hZ _ (by decide))⟩
theorem Md.told (h : Md base s w0 ps L va vo rs n W) (hR : seenN.R 34 W1 base (fun _ => True) vo' rs') (hg : W.grownBy W1 vo.ownBlock) :
    Rsl W1 base va ps ∧ Lie2 W1 ps L ∧ seenN.R 34 W1 base (fun _ => True) vo' rs' ∧ Below base w0 W1 ∧ base ≤ W1.heap.size := by
  have hF : Fr (fun k => some k = vo.ownBlock) W W1 := Fr.of_grown hg
  have hZ : ∀ e, 34 ≠ e → ∀ g, some g = vo.ownBlock → ∃ cs t, W.heap[g]? = some (.cells cs t (0, 0)) ∧ t ≠ e := fun e hne g q => by
    obtain ⟨cs, h'⟩ := row_typed h.out g q
    exact ⟨cs, _, h', hne⟩
  exact ⟨row_fr (d := slK) rfl h.all hF (hZ _ (by decide)), h.lies.fr hF (hZ _ (by decide)), hR, h.below.trans (hF.below h.big (fun k hk => Kd.R_base h.out k hk.symm)), Nat.le_trans h.big hF.size⟩
end
end Go.Proofs.Ytmhnhfmkcipcpaa.Stack

namespace Go.Proofs.Ytmhnhfmkcipcpaa.ListPure
def upd (f : Nat → Option Nat) (a : Nat) (v : Option Nat) : Nat → Option Nat := fun k => if k = a then v else f k
/-- The links when a node comes to an end of the row. -/
def link (F : Nat → Option Nat) (n : Nat) : Option Nat → Nat → Option Nat
  | none => upd F n none
  | some j => upd (upd F n none) j (some n)
def first (n : Nat) (far : Option Nat) : Option Nat → Option Nat
  | none => some n
  | some _ => far
theorem upd_self (f : Nat → Option Nat) (a : Nat) (v : Option Nat) : upd f a v a = v := if_pos rfl
theorem upd_other {f : Nat → Option Nat} {a k : Nat} {v : Option Nat} (h : k ≠ a) : upd f a v k = f k := if_neg h
/-- Each node of a row knows the one ahead of it, and the one behind it. -/
def Lk (row : List Nat) (P X : Nat → Option Nat) : Prop := ∀ l n r, row = l ++ n :: r → P n = l.getLast? ∧ X n = r.head?
theorem lk_nil (P X : Nat → Option Nat) : Lk [] P X := fun l n r h => by simp at h
theorem last_app (l : List Nat) (n : Nat) : (l ++ [n]).getLast? = some n := by simp
theorem last_mem {l : List Nat} {j : Nat} (h : l.getLast? = some j) : ∃ t, l = t ++ [j] := by
  have := List.getLast?_eq_some_iff.1 h
  exact this
theorem head_mem {l : List Nat} {j : Nat} (h : l.head? = some j) : ∃ t, l = j :: t := by
  cases l with
  | nil => simp at h
  | cons a t => simp at h; exact ⟨t, by rw [h]⟩
theorem snoc_split {l r row : List Nat} {m n : Nat} (h : row ++ [n] = l ++ m :: r) : (r = [] ∧ l = row ∧ m = n) ∨ ∃ s, r = s ++ [n] ∧ row = l ++ m :: s := by
  rcases List.eq_nil_or_concat r with rfl | ⟨s, x, rfl⟩
  · left
    have h1 := List.append_inj' h rfl
    exact ⟨rfl, h1.1.symm, by simpa using h1.2.symm⟩
  · right
    rw [List.concat_eq_append, ← List.cons_append, ← List.append_assoc] at h
    have h1 := List.append_inj' h rfl
    have h2 : n = x := by simpa using h1.2
    exact ⟨s, by rw [List.concat_eq_append, h2], h1.1⟩
/-- A node put behind all. -/
theorem Lk.back {row : List Nat} {P X : Nat → Option Nat} {n : Nat} (h : Lk row P X) (hn : n ∉ row) (hd : row.Nodup) :
    Lk (row ++ [n]) (upd P n row.getLast?) (link X n row.getLast?) := by
  intro l m r e
  rcases snoc_split e with ⟨rfl, rfl, rfl⟩ | ⟨s, rfl, e2⟩
  · refine ⟨upd_self _ _ _, ?_⟩
    cases hl : l.getLast? with
    | none => exact upd_self _ _ _
    | some j =>
      obtain ⟨t, ht⟩ := last_mem hl
      have hne : m ≠ j := fun e => hn (by rw [ht, e]; simp)
      show upd (upd X m none) j (some m) m = _
      rw [upd_other hne, upd_self]
      rfl
  · obtain ⟨h1, h2⟩ := h l m s e2
    have hmn : m ≠ n := fun e => hn (by rw [e2, e]; simp)
    refine ⟨by rw [upd_other hmn]; exact h1, ?_⟩
    cases hl : row.getLast? with
    | none =>
      rw [e2] at hl
      simp at hl
    | some j =>
      obtain ⟨t, ht⟩ := last_mem hl
      show upd (upd X n none) j (some n) m = _
      by_cases hj : m = j
      · subst hj
        rw [upd_self]
        -- m is the last one: nothing stands behind it
        have hs : s = [] := by
          rcases List.eq_nil_or_concat s with rfl | ⟨s', y, rfl⟩
          · rfl
          · exfalso
            rw [List.concat_eq_append] at e2
            have e3 : (l ++ m :: s') ++ [y] = t ++ [m] := by rw [← ht, e2]; simp
            have e4 := List.append_inj' e3 rfl
            have e5 : y = m := by simpa using e4.2
            rw [e2, e5] at hd
            have := (List.nodup_append.1 hd).2.1
            simp at this
        rw [hs]; rfl
      · rw [upd_other hj, upd_other hmn, h2]
        cases s with
        | nil =>
          exfalso
          apply hj
          rw [e2] at hl
          simpa using hl
        | cons a s => rfl
/-- A node put ahead of all. -/
theorem Lk.front {row : List Nat} {P X : Nat → Option Nat} {n : Nat} (h : Lk row P X) (hn : n ∉ row) (hd : row.Nodup) :
    Lk (n :: row) (link P n row.head?) (upd X n row.head?) := by
  intro l m r e
  cases l with
  | nil =>
    simp only [List.nil_append, List.cons.injEq] at e
    obtain ⟨rfl, rfl⟩ := e
    refine ⟨?_, upd_self _ _ _⟩
    cases hl : row.head? with
    | none => exact upd_self _ _ _
    | some j =>
      obtain ⟨t, ht⟩ := head_mem hl
      have hne : n ≠ j := fun e => hn (by rw [ht, e]; simp)
      show upd (upd P n none) j (some n) n = _
      rw [upd_other hne, upd_self]
      rfl
  | cons a l =>
    simp only [List.cons_append, List.cons.injEq] at e
    obtain ⟨rfl, e2⟩ := e
    obtain ⟨h1, h2⟩ := h l m r e2
    have hmn : m ≠ n := fun e => hn (by rw [e2, e]; simp)
    refine ⟨?_, by rw [upd_other hmn]; exact h2⟩
    cases hl : row.head? with
    | none =>
      rw [e2] at hl
      cases l <;> simp at hl
    | some j =>
      show upd (upd P n none) j (some n) m = _
      by_cases hj : m = j
      · subst hj
        rw [upd_self]
        have hs : l = [] := by
          cases l with
          | nil => rfl
          | cons y l' =>
            exfalso
            rw [e2] at hl
            have e5 : y = m := by simpa using hl
            rw [e2, e5] at hd
            simp at hd
        rw [hs]; rfl
      · rw [upd_other hj, upd_other hmn, h1]
        cases l with
        | nil =>
          exfalso
          apply hj
          rw [e2] at hl
          simpa using hl
        | cons y l' => simp
theorem mid_split {l r l' r' : List Nat} {m : Nat} (h : l ++ r = l' ++ m :: r') : (∃ t, l = l' ++ m :: t ∧ r' = t ++ r) ∨ ∃ t, r = t ++ m :: r' ∧ l' = l ++ t := by
  rcases List.append_eq_append_iff.1 h with ⟨a, h1, h2⟩ | ⟨a, h1, h2⟩
  · right; exact ⟨a, h2, h1⟩
  · cases a with
    | nil =>
      right
      exact ⟨[], by simpa using h2.symm, by simpa using h1.symm⟩
    | cons y a =>
      simp only [List.cons_append, List.cons.injEq] at h2
      left
      exact ⟨a, by rw [h1, h2.1], h2.2⟩
/-- A node taken out. -/
theorem Lk.out {l r : List Nat} {P X : Nat → Option Nat} {n : Nat} (h : Lk (l ++ n :: r) P X) (hd : (l ++ n :: r).Nodup) :
    Lk (l ++ r) (match r.head? with | none => P | some j => upd P j l.getLast?) (match l.getLast? with | none => X | some i => upd X i r.head?) := by
  intro l' m r' e
  obtain ⟨d1, d2, d3⟩ := List.nodup_append.1 hd
  rcases mid_split e with ⟨t, rfl, rfl⟩ | ⟨t, rfl, rfl⟩
  · -- m stands ahead of what goes
    obtain ⟨h1, h2⟩ := h l' m (t ++ n :: r) (by simp)
    have hml : m ∈ l' ++ m :: t := by simp
    refine ⟨?_, ?_⟩
    · cases hr : r.head? with
      | none => exact h1
      | some j =>
        obtain ⟨q, hq⟩ := head_mem hr
        have hne : m ≠ j := fun e => d3 m hml m (by rw [hq, e]; simp) rfl
        show upd P j _ m = _
        rw [upd_other hne]; exact h1
    · cases hl : (l' ++ m :: t).getLast? with
      | none => simp at hl
      | some i =>
        show upd X i r.head? m = _
        by_cases hi : m = i
        · subst hi
          rw [upd_self]
          have ht : t = [] := by
            rcases List.eq_nil_or_concat t with rfl | ⟨s, y, rfl⟩
            · rfl
            · exfalso
              rw [List.concat_eq_append] at hl d1
              have e5 : y = m := by
                have : (l' ++ m :: (s ++ [y])).getLast? = some y := by rw [show l' ++ m :: (s ++ [y]) = (l' ++ m :: s) ++ [y] by simp]; exact last_app _ _
                rw [this] at hl
                simpa using hl
              rw [e5] at d1
              have := (List.nodup_append.1 d1).2.1
              simp at this
          rw [ht]; rfl
        · rw [upd_other hi, h2]
          cases t with
          | nil =>
            exfalso
            apply hi
            simpa using hl
          | cons a t => rfl
  · obtain ⟨h1, h2⟩ := h (l ++ n :: t) m r' (by simp)
    have hmr : m ∈ n :: (t ++ m :: r') := by simp
    refine ⟨?_, ?_⟩
    · cases hr : (t ++ m :: r').head? with
      | none => cases t <;> simp at hr
      | some j =>
        show upd P j l.getLast? m = _
        by_cases hj : m = j
        · subst hj
          rw [upd_self]
          have ht : t = [] := by
            cases t with
            | nil => rfl
            | cons y t =>
              exfalso
              have e5 : y = m := by simpa using hr
              rw [e5] at d2
              simp at d2
          rw [ht, List.append_nil]
        · rw [upd_other hj, h1]
          cases t with
          | nil =>
            exfalso
            apply hj
            simpa using hr
          | cons y t => simp
    · cases hl : l.getLast? with
      | none => exact h2
      | some i =>
        obtain ⟨q, hq⟩ := last_mem hl
        have hne : m ≠ i := fun e => d3 i (by rw [hq]; simp) m hmr e.symm
        show upd X i _ m = _
        rw [upd_other hne]; exact h2
end Go.Proofs.Ytmhnhfmkcipcpaa.ListPure

namespace Go.Proofs.Ytmhnhfmkcipcpaa.Lists
open Go Go.RowKit Go.Proofs.Ytmhnhfmkcipcpaa.Hk Go.Proofs.Ytmhnhfmkcipcpaa.ListPure Go.Proofs.YtmhnhfmkcipcpaaW.PrintWords Go.Proofs.YtmhnhfmkcipcpaaW.PrintLast Go.Proofs.YtmhnhfmkcipcpaaW.PrintMore
/-- A pointer to a node, or to none. -/
def pv : Option Nat → Value
  | none => .pointer none
  | some b => .pointer (some ⟨b, 0, none⟩)
/-- A list's block and its nodes' blocks, those in it and those that are not. -/
structure Mem (w : World) (Lb : Nat) (ns : List Nat) (V : Nat → Int) (P X : Nat → Option Nat) (f b : Option Nat) : Prop where
  lb : Blk w Lb #[pv f, pv b] 112
  nd : ∀ k, k ∈ ns → Blk w k #[.int .i64 (V k), pv (P k), pv (X k)] 115
section
variable {w w1 : World} {Lb : Nat} {ns : List Nat} {V : Nat → Int} {P X : Nat → Option Nat} {f b v : Option Nat} {a : Nat}
theorem Mem.ne (h : Mem w Lb ns V P X f b) (ha : a ∈ ns) : a ≠ Lb := fun e => by
  have h1 := h.nd a ha
  rw [e] at h1
  exact absurd (h1.inj h.lb).2 (by decide)
theorem Mem.fr {Z : Nat → Prop} (h : Mem w Lb ns V P X f b) (hF : Fr Z w w1) (h1 : ¬ Z Lb) (h2 : ∀ k ∈ ns, ¬ Z k) : Mem w1 Lb ns V P X f b := ⟨h.lb.fr hF h1, fun k hk => (h.nd k hk).fr hF (h2 k hk)⟩
theorem Mem.below (h : Mem w Lb ns V P X f b) (hB : Below w.heap.size w w1) : Mem w1 Lb ns V P X f b := ⟨h.lb.below hB h.lb.lt, fun k hk => (h.nd k hk).below hB (h.nd k hk).lt⟩
theorem Mem.drewN (h : Mem w Lb ns V P X f b) (n : Nat) : Mem (w.drewN n) Lb ns V P X f b := ⟨h.lb.drewN n, fun k hk => (h.nd k hk).drewN n⟩
theorem Mem.setX (h : Mem w Lb ns V P X f b) (ha : a ∈ ns) (v : Option Nat) : Mem (w.setCell ⟨a, 2, none⟩ (pv v)) Lb ns V P (upd X a v) f b := by
  refine ⟨h.lb.other ⟨a, 2, none⟩ _ (fun e => h.ne ha e.symm), fun k hk => ?_⟩
  by_cases c : k = a
  · subst c
    rw [upd_self]
    exact (h.nd k hk).set 2 _
  · rw [upd_other c]
    exact (h.nd k hk).other ⟨a, 2, none⟩ _ c
theorem Mem.setP (h : Mem w Lb ns V P X f b) (ha : a ∈ ns) (v : Option Nat) : Mem (w.setCell ⟨a, 1, none⟩ (pv v)) Lb ns V (upd P a v) X f b := by
  refine ⟨h.lb.other ⟨a, 1, none⟩ _ (fun e => h.ne ha e.symm), fun k hk => ?_⟩
  by_cases c : k = a
  · subst c
    rw [upd_self]
    exact (h.nd k hk).set 1 _
  · rw [upd_other c]
    exact (h.nd k hk).other ⟨a, 1, none⟩ _ c
theorem Mem.setF (h : Mem w Lb ns V P X f b) (v : Option Nat) : Mem (w.setCell ⟨Lb, 0, none⟩ (pv v)) Lb ns V P X v b :=
  ⟨h.lb.set 0 _, fun k hk => (h.nd k hk).other ⟨Lb, 0, none⟩ _ (h.ne hk)⟩
theorem Mem.setB (h : Mem w Lb ns V P X f b) (v : Option Nat) : Mem (w.setCell ⟨Lb, 1, none⟩ (pv v)) Lb ns V P X f v :=
  ⟨h.lb.set 1 _, fun k hk => (h.nd k hk).other ⟨Lb, 1, none⟩ _ (h.ne hk)⟩
/-- The blocks of a list and its nodes. -/
def Zl (Lb : Nat) (ns : List Nat) (k : Nat) : Prop := k = Lb ∨ k ∈ ns
theorem frN {i : Nat} {u : Value} (ha : a ∈ ns) : Fr (Zl Lb ns) w (w.setCell ⟨a, i, none⟩ u) := (Fr.one (b := a) (i := i)).mono (fun _ _ e => .inr (e ▸ ha))
theorem frL {i : Nat} {u : Value} : Fr (Zl Lb ns) w (w.setCell ⟨Lb, i, none⟩ u) := (Fr.one (b := Lb) (i := i)).mono (fun _ _ e => .inl e)
end
set_option maxHeartbeats 4000000 in
set_option maxRecDepth 100000 in
theorem pushback_any (w : World) (Lb n : Nat) (ns : List Nat) (V : Nat → Int) (P X : Nat → Option Nat) (f b : Option Nat) (hM : Mem w Lb ns V P X f b) (hn : n ∈ ns) (he : ∀ j, b = some j → j ∈ ns ∧ j ≠ n) :
    Calls Try.prog 106 #[.pointer (some ⟨Lb, 0, none⟩), .pointer (some ⟨n, 0, none⟩)] w fun e w' => e = .returned (.tuple #[]) ∧
      Mem w' Lb ns V (upd P n b) (link X n b) (first n f b) (some n) ∧ Fr (Zl Lb ns) w w' := by
  have H0 := hid (And.intro hM (Fr.refl (Zl Lb ns) w))
  have HN := hid hn
  have HE := hid he
  have hnL : ¬ n = Lb := hM.ne hn
  have hnL' : ¬ Lb = n := fun e => hnL e.symm
  clear hM hn he
  cases b with
  | none =>
    go_enter Try.func106, Try.ntmps106
    have g0 := (H0.out.1.nd n HN.out).cell 2
    have g1 : w.frozen? ⟨n, 2, none⟩ = false := (H0.out.1.nd n HN.out).free 2
    have H1 := hid (And.intro (H0.out.1.setX HN.out none) (H0.out.2.then (frN (i := 2) (u := pv none) HN.out)))
    clear H0
    go_upto_region 1 with fail
    change Code.wp _ _ _ _ (w.setCell ⟨n, 2, none⟩ (pv none))
    clear g0 g1
    generalize w.setCell ⟨n, 2, none⟩ (pv none) = w1 at H1 ⊢
    have g0 := (H1.out.1.nd n HN.out).cell 1
    have g1 : w1.frozen? ⟨n, 1, none⟩ = false := (H1.out.1.nd n HN.out).free 1
    have g2 : w1.cell? ⟨Lb, 1, none⟩ = some (.pointer none) := H1.out.1.lb.cell 1
    have H2 := hid (And.intro (H1.out.1.setP HN.out none) (H1.out.2.then (frN (i := 1) (u := pv none) HN.out)))
    clear H1
    go_upto_region 2 with fail
    change Code.wp _ _ _ _ (w1.setCell ⟨n, 1, none⟩ (pv none))
    clear g0 g1 g2
    generalize w1.setCell ⟨n, 1, none⟩ (pv none) = w2 at H2 ⊢
    have g2 : w2.cell? ⟨Lb, 1, none⟩ = some (.pointer none) := H2.out.1.lb.cell 1
    have g0 := H2.out.1.lb.cell 0
    have g1 : w2.frozen? ⟨Lb, 0, none⟩ = false := H2.out.1.lb.free 0
    have H3 := hid (And.intro (H2.out.1.setF (some n)) (H2.out.2.then (frL (i := 0) (u := pv (some n)))))
    clear H2
    go_upto_region 5 with fail
    change Code.wp _ _ _ _ (w2.setCell ⟨Lb, 0, none⟩ (pv (some n)))
    clear g0 g1 g2
    generalize w2.setCell ⟨Lb, 0, none⟩ (pv (some n)) = w3 at H3 ⊢
    have g0 := H3.out.1.lb.cell 1
    have g1 : w3.frozen? ⟨Lb, 1, none⟩ = false := H3.out.1.lb.free 1
    have H4 := hid (And.intro (H3.out.1.setB (some n)) (H3.out.2.then (frL (i := 1) (u := pv (some n)))))
    clear H3
    go_wp2_with fail
    go_end0
    exact ⟨rfl, H4.out.1, H4.out.2⟩
  | some j =>
    have HJ := hid (HE.out j rfl)
    have hjn : ¬ j = n := HJ.out.2
    go_enter Try.func106, Try.ntmps106
    have g0 := (H0.out.1.nd n HN.out).cell 2
    have g1 : w.frozen? ⟨n, 2, none⟩ = false := (H0.out.1.nd n HN.out).free 2
    have H1 := hid (And.intro (H0.out.1.setX HN.out none) (H0.out.2.then (frN (i := 2) (u := pv none) HN.out)))
    clear H0
    go_upto_region 1 with fail
    change Code.wp _ _ _ _ (w.setCell ⟨n, 2, none⟩ (pv none))
    clear g0 g1
    generalize w.setCell ⟨n, 2, none⟩ (pv none) = w1 at H1 ⊢
    have g0 := (H1.out.1.nd n HN.out).cell 1
    have g1 : w1.frozen? ⟨n, 1, none⟩ = false := (H1.out.1.nd n HN.out).free 1
    have g2 : w1.cell? ⟨Lb, 1, none⟩ = some (.pointer (some ⟨j, 0, none⟩)) := H1.out.1.lb.cell 1
    have H2 := hid (And.intro (H1.out.1.setP HN.out (some j)) (H1.out.2.then (frN (i := 1) (u := pv (some j)) HN.out)))
    clear H1
    go_upto_region 2 with fail
    change Code.wp _ _ _ _ (w1.setCell ⟨n, 1, none⟩ (pv (some j)))
    clear g0 g1 g2
    generalize w1.setCell ⟨n, 1, none⟩ (pv (some j)) = w2 at H2 ⊢
    have g2 : w2.cell? ⟨Lb, 1, none⟩ = some (.pointer (some ⟨j, 0, none⟩)) := H2.out.1.lb.cell 1
    have g0 := (H2.out.1.nd j HJ.out.1).cell 2
    have g1 : w2.frozen? ⟨j, 2, none⟩ = false := (H2.out.1.nd j HJ.out.1).free 2
    have H3 := hid (And.intro (H2.out.1.setX HJ.out.1 (some n)) (H2.out.2.then (frN (i := 2) (u := pv (some n)) HJ.out.1)))
    clear H2
    go_upto_region 5 with fail
    change Code.wp _ _ _ _ (w2.setCell ⟨j, 2, none⟩ (pv (some n)))
    clear g0 g1 g2
    generalize w2.setCell ⟨j, 2, none⟩ (pv (some n)) = w3 at H3 ⊢
    have g0 := H3.out.1.lb.cell 1
    have g1 : w3.frozen? ⟨Lb, 1, none⟩ = false := H3.out.1.lb.free 1
    have H4 := hid (And.intro (H3.out.1.setB (some n)) (H3.out.2.then (frL (i := 1) (u := pv (some n)))))
    clear H3
    go_wp2_with fail
    go_end0
    exact ⟨rfl, H4.out.1, H4.out.2⟩
set_option maxHeartbeats 4000000 in
set_option maxRecDepth 100000 in
theorem pushfront_any (w : World) (Lb n : Nat) (ns : List Nat) (V : Nat → Int) (P X : Nat → Option Nat) (f b : Option Nat) (hM : Mem w Lb ns V P X f b) (hn : n ∈ ns) (he : ∀ j, f = some j → j ∈ ns ∧ j ≠ n) :
    Calls Try.prog 107 #[.pointer (some ⟨Lb, 0, none⟩), .pointer (some ⟨n, 0, none⟩)] w fun e w' => e = .returned (.tuple #[]) ∧
      Mem w' Lb ns V (link P n f) (upd X n f) (some n) (first n b f) ∧ Fr (Zl Lb ns) w w' := by
  have H0 := hid (And.intro hM (Fr.refl (Zl Lb ns) w))
  have HN := hid hn
  have HE := hid he
  have hnL : ¬ n = Lb := hM.ne hn
  have hnL' : ¬ Lb = n := fun e => hnL e.symm
  clear hM hn he
  cases f with
  | none =>
    go_enter Try.func107, Try.ntmps107
    have g0 := (H0.out.1.nd n HN.out).cell 2
    have g1 : w.frozen? ⟨n, 2, none⟩ = false := (H0.out.1.nd n HN.out).free 2
    have g2 : w.cell? ⟨Lb, 0, none⟩ = some (.pointer none) := H0.out.1.lb.cell 0
    have H1 := hid (And.intro (H0.out.1.setX HN.out none) (H0.out.2.then (frN (i := 2) (u := pv none) HN.out)))
    clear H0
    go_upto_region 1 with fail
    change Code.wp _ _ _ _ (w.setCell ⟨n, 2, none⟩ (pv none))
    clear g0 g1 g2
    generalize w.setCell ⟨n, 2, none⟩ (pv none) = w1 at H1 ⊢
    have g0 := (H1.out.1.nd n HN.out).cell 1
    have g1 : w1.frozen? ⟨n, 1, none⟩ = false := (H1.out.1.nd n HN.out).free 1
    have H2 := hid (And.intro (H1.out.1.setP HN.out none) (H1.out.2.then (frN (i := 1) (u := pv none) HN.out)))
    clear H1
    go_upto_region 2 with fail
    change Code.wp _ _ _ _ (w1.setCell ⟨n, 1, none⟩ (pv none))
    clear g0 g1
    generalize w1.setCell ⟨n, 1, none⟩ (pv none) = w2 at H2 ⊢
    have g2 : w2.cell? ⟨Lb, 0, none⟩ = some (.pointer none) := H2.out.1.lb.cell 0
    have g0 := H2.out.1.lb.cell 1
    have g1 : w2.frozen? ⟨Lb, 1, none⟩ = false := H2.out.1.lb.free 1
    have H3 := hid (And.intro (H2.out.1.setB (some n)) (H2.out.2.then (frL (i := 1) (u := pv (some n)))))
    clear H2
    go_upto_region 5 with fail
    change Code.wp _ _ _ _ (w2.setCell ⟨Lb, 1, none⟩ (pv (some n)))
    clear g0 g1 g2
    generalize w2.setCell ⟨Lb, 1, none⟩ (pv (some n)) = w3 at H3 ⊢
    have g0 := H3.out.1.lb.cell 0
    have g1 : w3.frozen? ⟨Lb, 0, none⟩ = false := H3.out.1.lb.free 0
    have H4 := hid (And.intro (H3.out.1.setF (some n)) (H3.out.2.then (frL (i := 0) (u := pv (some n)))))
    clear H3
    go_wp2_with fail
    go_end0
    exact ⟨rfl, H4.out.1, H4.out.2⟩
  | some j =>
    have HJ := hid (HE.out j rfl)
    have hjn : ¬ j = n := HJ.out.2
    go_enter Try.func107, Try.ntmps107
    have g0 := (H0.out.1.nd n HN.out).cell 2
    have g1 : w.frozen? ⟨n, 2, none⟩ = false := (H0.out.1.nd n HN.out).free 2
    have g2 : w.cell? ⟨Lb, 0, none⟩ = some (.pointer (some ⟨j, 0, none⟩)) := H0.out.1.lb.cell 0
    have H1 := hid (And.intro (H0.out.1.setX HN.out (some j)) (H0.out.2.then (frN (i := 2) (u := pv (some j)) HN.out)))
    clear H0
    go_upto_region 1 with fail
    change Code.wp _ _ _ _ (w.setCell ⟨n, 2, none⟩ (pv (some j)))
    clear g0 g1 g2
    generalize w.setCell ⟨n, 2, none⟩ (pv (some j)) = w1 at H1 ⊢
    have g0 := (H1.out.1.nd n HN.out).cell 1
    have g1 : w1.frozen? ⟨n, 1, none⟩ = false := (H1.out.1.nd n HN.out).free 1
    have H2 := hid (And.intro (H1.out.1.setP HN.out none) (H1.out.2.then (frN (i := 1) (u := pv none) HN.out)))
    clear H1
    go_upto_region 2 with fail
    change Code.wp _ _ _ _ (w1.setCell ⟨n, 1, none⟩ (pv none))
    clear g0 g1
    generalize w1.setCell ⟨n, 1, none⟩ (pv none) = w2 at H2 ⊢
    have g2 : w2.cell? ⟨Lb, 0, none⟩ = some (.pointer (some ⟨j, 0, none⟩)) := H2.out.1.lb.cell 0
    have g0 := (H2.out.1.nd j HJ.out.1).cell 1
    have g1 : w2.frozen? ⟨j, 1, none⟩ = false := (H2.out.1.nd j HJ.out.1).free 1
    have H3 := hid (And.intro (H2.out.1.setP HJ.out.1 (some n)) (H2.out.2.then (frN (i := 1) (u := pv (some n)) HJ.out.1)))
    clear H2
    go_upto_region 5 with fail
    change Code.wp _ _ _ _ (w2.setCell ⟨j, 1, none⟩ (pv (some n)))
    clear g0 g1 g2
    generalize w2.setCell ⟨j, 1, none⟩ (pv (some n)) = w3 at H3 ⊢
    have g0 := H3.out.1.lb.cell 0
    have g1 : w3.frozen? ⟨Lb, 0, none⟩ = false := H3.out.1.lb.free 0
    have H4 := hid (And.intro (H3.out.1.setF (some n)) (H3.out.2.then (frL (i := 0) (u := pv (some n)))))
    clear H3
    go_wp2_with fail
    go_end0
    exact ⟨rfl, H4.out.1, H4.out.2⟩
set_option maxHeartbeats 4000000 in
set_option maxRecDepth 100000 in
theorem remove_any (w : World) (Lb n : Nat) (ns : List Nat) (V : Nat → Int) (P X : Nat → Option Nat) (f b : Option Nat) (hM : Mem w Lb ns V P X f b) (hn : n ∈ ns) (hx : ∀ j, X n = some j → j ∈ ns ∧ j ≠ n) (hp : ∀ j, P n = some j → j ∈ ns ∧ j ≠ n) :
    Calls Try.prog 112 #[.pointer (some ⟨Lb, 0, none⟩), .pointer (some ⟨n, 0, none⟩)] w fun e w' => e = .returned (.tuple #[]) ∧
      Mem w' Lb ns V (match X n with | none => P | some j => upd P j (P n)) (match P n with | none => X | some i => upd X i (X n)) (match P n with | none => X n | some _ => f) (match X n with | none => P n | some _ => b) ∧ Fr (Zl Lb ns) w w' := by
  have H0 := hid (And.intro hM (Fr.refl (Zl Lb ns) w))
  have HN := hid hn
  have hnL : ¬ n = Lb := hM.ne hn
  have hnL' : ¬ Lb = n := fun e => hnL e.symm
  have HX0 := hid hx
  have HP0 := hid hp
  clear hM hn hx hp
  obtain ⟨xn, hxn⟩ : ∃ xn, X n = xn := ⟨_, rfl⟩
  obtain ⟨pn, hpn⟩ : ∃ pn, P n = pn := ⟨_, rfl⟩
  have HXN := hid hxn
  have HPN := hid hpn
  rw [hxn, hpn]
  rw [hxn] at HX0
  rw [hpn] at HP0
  clear hxn hpn
  cases xn with
  | none =>
    cases pn with
    | none =>
      go_enter Try.func112, Try.ntmps112
      have x2 : w.cell? ⟨n, 2, none⟩ = some (.pointer none) := by have := (H0.out.1.nd n HN.out).cell 2; rw [HXN.out] at this; exact this
      have x1 : w.cell? ⟨n, 1, none⟩ = some (.pointer none) := by have := (H0.out.1.nd n HN.out).cell 1; rw [HPN.out] at this; exact this
      have g0 := H0.out.1.lb.cell 1
      have g1 : w.frozen? ⟨Lb, 1, none⟩ = false := H0.out.1.lb.free 1
      have H1 := hid (And.intro (H0.out.1.setB none) (H0.out.2.then (frL (i := 1) (u := pv none))))
      clear H0
      go_upto_region 3 with fail
      change Code.wp _ _ _ _ (w.setCell ⟨Lb, 1, none⟩ (pv none))
      clear g0 g1 x1 x2
      generalize w.setCell ⟨Lb, 1, none⟩ (pv none) = w1 at H1 ⊢
      have HP1 : Hid (P n = none) := HPN
      have x2 : w1.cell? ⟨n, 2, none⟩ = some (.pointer none) := by have := (H1.out.1.nd n HN.out).cell 2; rw [HXN.out] at this; exact this
      have x1 : w1.cell? ⟨n, 1, none⟩ = some (.pointer none) := by have := (H1.out.1.nd n HN.out).cell 1; rw [HP1.out] at this; exact this
      have g0 := H1.out.1.lb.cell 0
      have g1 : w1.frozen? ⟨Lb, 0, none⟩ = false := H1.out.1.lb.free 0
      have H2 := hid (And.intro (H1.out.1.setF none) (H1.out.2.then (frL (i := 0) (u := pv none))))
      clear H1
      go_wp2_with fail
      go_end0
      exact ⟨rfl, H2.out.1, H2.out.2⟩
    | some i =>
      have HI := hid (HP0.out i rfl)
      have hin : ¬ i = n := HI.out.2
      go_enter Try.func112, Try.ntmps112
      have x2 : w.cell? ⟨n, 2, none⟩ = some (.pointer none) := by have := (H0.out.1.nd n HN.out).cell 2; rw [HXN.out] at this; exact this
      have x1 : w.cell? ⟨n, 1, none⟩ = some (.pointer (some ⟨i, 0, none⟩)) := by have := (H0.out.1.nd n HN.out).cell 1; rw [HPN.out] at this; exact this
      have g0 := H0.out.1.lb.cell 1
      have g1 : w.frozen? ⟨Lb, 1, none⟩ = false := H0.out.1.lb.free 1
      have H1 := hid (And.intro (H0.out.1.setB (some i)) (H0.out.2.then (frL (i := 1) (u := pv (some i)))))
      clear H0
      go_upto_region 3 with fail
      change Code.wp _ _ _ _ (w.setCell ⟨Lb, 1, none⟩ (pv (some i)))
      clear g0 g1 x1 x2
      generalize w.setCell ⟨Lb, 1, none⟩ (pv (some i)) = w1 at H1 ⊢
      have HP1 : Hid (P n = (some i)) := HPN
      have x2 : w1.cell? ⟨n, 2, none⟩ = some (.pointer none) := by have := (H1.out.1.nd n HN.out).cell 2; rw [HXN.out] at this; exact this
      have x1 : w1.cell? ⟨n, 1, none⟩ = some (.pointer (some ⟨i, 0, none⟩)) := by have := (H1.out.1.nd n HN.out).cell 1; rw [HP1.out] at this; exact this
      go_upto_region 4 with fail
      have H1' := hid (And.intro (H1.out.1.drewN 1) (H1.out.2.drewN 1))
      have g0 := (H1'.out.1.nd i HI.out.1).cell 2
      have g1 : (w1.drewN 1).frozen? ⟨i, 2, none⟩ = false := (H1'.out.1.nd i HI.out.1).free 2
      have H2 := hid (And.intro (H1'.out.1.setX HI.out.1 none) (H1'.out.2.then (frN (i := 2) (u := pv none) HI.out.1)))
      clear H1 H1'
      go_still_tail 8, (by kernel_rfl)
      change wpList _ _ _ _ _ (w1.drewN 1)
      generalize w1.drewN 1 = we at g0 g1 H2 ⊢
      go_wp2_with fail
      go_end0
      exact ⟨rfl, H2.out.1, H2.out.2⟩
  | some j =>
    have HJ := hid (HX0.out j rfl)
    have hjn : ¬ j = n := HJ.out.2
    cases pn with
    | none =>
      go_enter Try.func112, Try.ntmps112
      have x2 : w.cell? ⟨n, 2, none⟩ = some (.pointer (some ⟨j, 0, none⟩)) := by have := (H0.out.1.nd n HN.out).cell 2; rw [HXN.out] at this; exact this
      have x1 : w.cell? ⟨n, 1, none⟩ = some (.pointer none) := by have := (H0.out.1.nd n HN.out).cell 1; rw [HPN.out] at this; exact this
      go_upto_region 1 with fail
      have H0' := hid (And.intro (H0.out.1.drewN 1) (H0.out.2.drewN 1))
      have g0 := (H0'.out.1.nd j HJ.out.1).cell 1
      have g1 : (w.drewN 1).frozen? ⟨j, 1, none⟩ = false := (H0'.out.1.nd j HJ.out.1).free 1
      have H1 := hid (And.intro (H0'.out.1.setP HJ.out.1 none) (H0'.out.2.then (frN (i := 1) (u := pv none) HJ.out.1)))
      clear H0 H0'
      go_still_tail 8, (by kernel_rfl)
      change wpList _ _ _ _ _ (w.drewN 1)
      generalize w.drewN 1 = wd at g0 g1 H1 ⊢
      go_upto_region 3 with fail
      change Code.wp _ _ _ _ (wd.setCell ⟨j, 1, none⟩ (pv none))
      clear g0 g1 x1 x2
      generalize wd.setCell ⟨j, 1, none⟩ (pv none) = w1 at H1 ⊢
      have HP1 : Hid (upd P j none n = none) := by rw [upd_other (fun e => HJ.out.2 e.symm)]; exact HPN
      have x2 : w1.cell? ⟨n, 2, none⟩ = some (.pointer (some ⟨j, 0, none⟩)) := by have := (H1.out.1.nd n HN.out).cell 2; rw [HXN.out] at this; exact this
      have x1 : w1.cell? ⟨n, 1, none⟩ = some (.pointer none) := by have := (H1.out.1.nd n HN.out).cell 1; rw [HP1.out] at this; exact this
      have g0 := H1.out.1.lb.cell 0
      have g1 : w1.frozen? ⟨Lb, 0, none⟩ = false := H1.out.1.lb.free 0
      have H2 := hid (And.intro (H1.out.1.setF (some j)) (H1.out.2.then (frL (i := 0) (u := pv (some j)))))
      clear H1
      go_wp2_with fail
      go_end0
      exact ⟨rfl, H2.out.1, H2.out.2⟩
    | some i =>
      have HI := hid (HP0.out i rfl)
      have hin : ¬ i = n := HI.out.2
      go_enter Try.func112, Try.ntmps112
      have x2 : w.cell? ⟨n, 2, none⟩ = some (.pointer (some ⟨j, 0, none⟩)) := by have := (H0.out.1.nd n HN.out).cell 2; rw [HXN.out] at this; exact this
      have x1 : w.cell? ⟨n, 1, none⟩ = some (.pointer (some ⟨i, 0, none⟩)) := by have := (H0.out.1.nd n HN.out).cell 1; rw [HPN.out] at this; exact this
      go_upto_region 1 with fail
      have H0' := hid (And.intro (H0.out.1.drewN 1) (H0.out.2.drewN 1))
      have g0 := (H0'.out.1.nd j HJ.out.1).cell 1
      have g1 : (w.drewN 1).frozen? ⟨j, 1, none⟩ = false := (H0'.out.1.nd j HJ.out.1).free 1
      have H1 := hid (And.intro (H0'.out.1.setP HJ.out.1 (some i)) (H0'.out.2.then (frN (i := 1) (u := pv (some i)) HJ.out.1)))
      clear H0 H0'
      go_still_tail 8, (by kernel_rfl)
      change wpList _ _ _ _ _ (w.drewN 1)
      generalize w.drewN 1 = wd at g0 g1 H1 ⊢
      go_upto_region 3 with fail
      change Code.wp _ _ _ _ (wd.setCell ⟨j, 1, none⟩ (pv (some i)))
      clear g0 g1 x1 x2
      generalize wd.setCell ⟨j, 1, none⟩ (pv (some i)) = w1 at H1 ⊢
      have HP1 : Hid (upd P j (some i) n = (some i)) := by rw [upd_other (fun e => HJ.out.2 e.symm)]; exact HPN
      have x2 : w1.cell? ⟨n, 2, none⟩ = some (.pointer (some ⟨j, 0, none⟩)) := by have := (H1.out.1.nd n HN.out).cell 2; rw [HXN.out] at this; exact this
      have x1 : w1.cell? ⟨n, 1, none⟩ = some (.pointer (some ⟨i, 0, none⟩)) := by have := (H1.out.1.nd n HN.out).cell 1; rw [HP1.out] at this; exact this
      go_upto_region 4 with fail
      have H1' := hid (And.intro (H1.out.1.drewN 1) (H1.out.2.drewN 1))
      have g0 := (H1'.out.1.nd i HI.out.1).cell 2
      have g1 : (w1.drewN 1).frozen? ⟨i, 2, none⟩ = false := (H1'.out.1.nd i HI.out.1).free 2
      have H2 := hid (And.intro (H1'.out.1.setX HI.out.1 (some j)) (H1'.out.2.then (frN (i := 2) (u := pv (some j)) HI.out.1)))
      clear H1 H1'
      go_still_tail 8, (by kernel_rfl)
      change wpList _ _ _ _ _ (w1.drewN 1)
      generalize w1.drewN 1 = we at g0 g1 H2 ⊢
      go_wp2_with fail
      go_end0
      exact ⟨rfl, H2.out.1, H2.out.2⟩
end Go.Proofs.Ytmhnhfmkcipcpaa.Lists

namespace Go.Proofs.Ytmhnhfmkcipcpaa.Lists
open Go Go.RowKit Go.Proofs.Ytmhnhfmkcipcpaa.Hk Go.Proofs.Ytmhnhfmkcipcpaa.ListPure Go.Proofs.Ytmhnhfmkcipcpaa.Heap Go.Proofs.YtmhnhfmkcipcpaaW.PrintWords Go.Proofs.YtmhnhfmkcipcpaaW.PrintLast Go.Proofs.YtmhnhfmkcipcpaaW.PrintMore
/-- A row that a closure puts to: its cell at q, its numbers behind it. -/
structure Acc (q : Nat) (v : Value) (ys : List Int) (w : World) : Prop where
  blk : Blk w q #[v] 30
  row : Ro w (q + 1) v ys
section
variable {q : Nat} {v : Value} {ys : List Int} {w w1 : World}
theorem Acc.below (h : Acc q v ys w) (hB : Below w.heap.size w w1) : Acc q v ys w1 := ⟨h.blk.below hB h.blk.lt, Kd.R_below h.row hB⟩
theorem Mem.under {Lb : Nat} {ns : List Nat} {V : Nat → Int} {P X : Nat → Option Nat} {f b : Option Nat} (h : Mem w Lb ns V P X f b) (hB : Below q w w1) (h1 : Lb < q) (h2 : ∀ k ∈ ns, k < q) : Mem w1 Lb ns V P X f b := ⟨h.lb.below hB h1, fun k hk => (h.nd k hk).below hB (h2 k hk)⟩
end
set_option maxHeartbeats 4000000 in
set_option maxRecDepth 100000 in
theorem put2_any (q : Nat) (v : Value) (ys : List Int) (x : Int) (w : World) (hA : Acc q v ys w) (hl : ys.length ≤ 1099511627776) :
    Calls Try.prog 111 #[.int .i64 x, .pointer (some ⟨q, 0, none⟩)] w fun e w' => e = .returned (.tuple #[]) ∧ ∃ v', Acc q v' (ys ++ [x]) w' ∧ Below q w w' := by
  obtain ⟨A, c, rfl⟩ := Kd.R_slice hA.row
  have HV := hid hA
  have HL := hid hl
  have HB : Hid (q + 1 ≤ w.heap.size) := hid hA.blk.lt
  have c0 : w.cell? ⟨q, 0, none⟩ = some (.slice A ys.length c) := hA.blk.cell 0
  clear hA hl
  go_enter Try.func111, Try.ntmps111
  go_wp2_with ((with_reducible refine gate_builtin (b := .append) (xs := #[.tmp 3, .tmp 5]) rfl ?_); at_builtin
               refine Kd.R_append (W := w) (Kd.int .i64) (w0 := w) (q + 1) rfl (.tmp 3) (.tmp 5) 30 3 (.int .i64 0) 8 rfl Try.underlying30 info3 rfl (by decide) (by omega) (.slice A ys.length c) ys x [.int .i64 x] (fun _ => True) (fun _ => False) rfl rfl ?aP (fun _ hk => hk.elim) (fun _ _ => trivial) ?aO ?aB ?aS ?aL ?_
               case aP => exact rfl
               case aO => exact HV.out.row
               case aB => exact Below.refl _ _
               case aS => exact HB.out
               case aL => have := HL.out; omega
               intro v1 w1 ho _ hg hat
               obtain ⟨A1, c1, rfl⟩ := Kd.R_slice ho
               have HO : Hid (Ro w1 (q + 1) (.slice A1 (ys ++ [x]).length c1) (ys ++ [x]) ∧ w.grownBy w1 (Value.slice A ys.length c).ownBlock) := ⟨ho, hg⟩
               have HBl : Hid (Blk w1 q #[.slice A ys.length c] 30) := hid (HV.out.blk.fr (Fr.of_grown hg) (fun e => Kd.R_ne HV.out.row HV.out.blk (by decide) e))
               have f0 : w1.frozen? ⟨q, 0, none⟩ = false := HBl.out.free 0
               have d0 : w1.cell? ⟨q, 0, none⟩ = some (.slice A ys.length c) := HBl.out.cell 0
               clear ho hg hat c0)
  go_end0
  have hl2 : (ys ++ [x]).length = ys.length + 1 := by simp
  have hF : Fr (fun k => some k = (Value.slice A ys.length c).ownBlock) w w1 := Fr.of_grown HO.out.2
  have hB1 : Below q w w1 := hF.below (Nat.le_of_succ_le HB.out) (fun k hk => by have := Kd.R_base HV.out.row k hk.symm; omega)
  have hB2 : Below q w1 (w1.setCell ⟨q, 0, none⟩ (.slice A1 (ys ++ [x]).length c1)) := (Fr.one (b := q) (i := 0)).below (Nat.le_trans (Nat.le_of_succ_le HB.out) hB1.size) (fun k hk => Nat.le_of_eq hk.symm)
  have hrow : Ro (w1.setCell ⟨q, 0, none⟩ (.slice A1 (ys ++ [x]).length c1)) (q + 1) (.slice A1 (ys ++ [x]).length c1) (ys ++ [x]) := HO.out.1.fr (Fr.one (b := q) (i := 0)) (fun k hk e => by have := Kd.R_base HO.out.1 k hk; omega)
  have hblk := HBl.out.set 0 (.slice A1 (ys ++ [x]).length c1)
  rw [hl2] at hB2 hrow hblk
  exact ⟨rfl, _, ⟨hblk, hrow⟩, hB1.trans hB2⟩
set_option maxHeartbeats 4000000 in
set_option maxRecDepth 100000 in
theorem put1_any (q : Nat) (v : Value) (ys : List Int) (x : Int) (w : World) (hA : Acc q v ys w) (hl : ys.length ≤ 1099511627776) :
    Calls Try.prog 109 #[.int .i64 x, .pointer (some ⟨q, 0, none⟩)] w fun e w' => e = .returned (.tuple #[]) ∧ ∃ v', Acc q v' (ys ++ [x]) w' ∧ Below q w w' := by
  obtain ⟨A, c, rfl⟩ := Kd.R_slice hA.row
  have HV := hid hA
  have HL := hid hl
  have HB : Hid (q + 1 ≤ w.heap.size) := hid hA.blk.lt
  have c0 : w.cell? ⟨q, 0, none⟩ = some (.slice A ys.length c) := hA.blk.cell 0
  clear hA hl
  go_enter Try.func109, Try.ntmps109
  go_wp2_with ((with_reducible refine gate_builtin (b := .append) (xs := #[.tmp 3, .tmp 5]) rfl ?_); at_builtin
               refine Kd.R_append (W := w) (Kd.int .i64) (w0 := w) (q + 1) rfl (.tmp 3) (.tmp 5) 30 3 (.int .i64 0) 8 rfl Try.underlying30 info3 rfl (by decide) (by omega) (.slice A ys.length c) ys x [.int .i64 x] (fun _ => True) (fun _ => False) rfl rfl ?aP (fun _ hk => hk.elim) (fun _ _ => trivial) ?aO ?aB ?aS ?aL ?_
               case aP => exact rfl
               case aO => exact HV.out.row
               case aB => exact Below.refl _ _
               case aS => exact HB.out
               case aL => have := HL.out; omega
               intro v1 w1 ho _ hg hat
               obtain ⟨A1, c1, rfl⟩ := Kd.R_slice ho
               have HO : Hid (Ro w1 (q + 1) (.slice A1 (ys ++ [x]).length c1) (ys ++ [x]) ∧ w.grownBy w1 (Value.slice A ys.length c).ownBlock) := ⟨ho, hg⟩
               have HBl : Hid (Blk w1 q #[.slice A ys.length c] 30) := hid (HV.out.blk.fr (Fr.of_grown hg) (fun e => Kd.R_ne HV.out.row HV.out.blk (by decide) e))
               have f0 : w1.frozen? ⟨q, 0, none⟩ = false := HBl.out.free 0
               have d0 : w1.cell? ⟨q, 0, none⟩ = some (.slice A ys.length c) := HBl.out.cell 0
               clear ho hg hat c0)
  go_end0
  have hl2 : (ys ++ [x]).length = ys.length + 1 := by simp
  have hF : Fr (fun k => some k = (Value.slice A ys.length c).ownBlock) w w1 := Fr.of_grown HO.out.2
  have hB1 : Below q w w1 := hF.below (Nat.le_of_succ_le HB.out) (fun k hk => by have := Kd.R_base HV.out.row k hk.symm; omega)
  have hB2 : Below q w1 (w1.setCell ⟨q, 0, none⟩ (.slice A1 (ys ++ [x]).length c1)) := (Fr.one (b := q) (i := 0)).below (Nat.le_trans (Nat.le_of_succ_le HB.out) hB1.size) (fun k hk => Nat.le_of_eq hk.symm)
  have hrow : Ro (w1.setCell ⟨q, 0, none⟩ (.slice A1 (ys ++ [x]).length c1)) (q + 1) (.slice A1 (ys ++ [x]).length c1) (ys ++ [x]) := HO.out.1.fr (Fr.one (b := q) (i := 0)) (fun k hk e => by have := Kd.R_base HO.out.1 k hk; omega)
  have hblk := HBl.out.set 0 (.slice A1 (ys ++ [x]).length c1)
  rw [hl2] at hB2 hrow hblk
  exact ⟨rfl, _, ⟨hblk, hrow⟩, hB1.trans hB2⟩
set_option maxHeartbeats 8000000 in
set_option maxRecDepth 100000 in
theorem lEach_any (w : World) (Lb q : Nat) (ns : List Nat) (V : Nat → Int) (P X : Nat → Option Nat) (f b : Option Nat) (row l r : List Nat) (v : Value) (ys : List Int) (hM : Mem w Lb ns V P X f b) (hk : Lk row P X) (hr : row = l ++ r) (hsub : ∀ k ∈ row, k ∈ ns) (hL : Lb < q) (hN : ∀ k ∈ ns, k < q) (hA : Acc q v ys w) (hl : ys.length + row.length ≤ 1099511627776) :
    Calls Try.prog 110 #[pv r.head?, .func (.func 111) #[] #[.pointer (some ⟨q, 0, none⟩)]] w fun e w' => e = .returned (.tuple #[]) ∧ ∃ v', Acc q v' (ys ++ r.map V) w' ∧ Below q w w' := by
  have HM := hid (And.intro hM (And.intro hL hN))
  have HK := hid hk
  have HR := hid hr
  have HS := hid hsub
  have HA := hid hA
  have HLN : Hid (ys.length + r.length ≤ 1099511627776) := hid (by rw [hr, List.length_append] at hl; omega)
  obtain ⟨u0, hu0⟩ : ∃ u, pv r.head? = .pointer u := by cases r.head? <;> exact ⟨_, rfl⟩
  have HU := hid hu0
  rw [hu0]
  clear hM hk hr hsub hL hN hA hl hu0
  go_enter Try.func110, Try.ntmps110
  go_wp2_with fail
  go_loopg [4] r.length (fun gk v4 wr => ∃ (l' r' : List Nat) (ys' : List Int) (v' : Value), v4 = pv r'.head? ∧ Hid (row = l' ++ r' ∧ r'.length ≤ gk ∧ ys' ++ r'.map V = ys ++ r.map V ∧ Acc q v' ys' wr ∧ Below q w wr ∧ ys'.length + r'.length ≤ 1099511627776))
  case atStart => exact ⟨l, r, ys, v, HU.out.symm, HR.out, Nat.le_refl _, rfl, HA.out, Below.refl _ _, HLN.out⟩
  case round =>
    obtain ⟨l', r', ys', v', rfl, HI⟩ := hrel
    cases r' with
    | nil =>
      have HF : Hid (ys' = ys ++ r.map V ∧ Acc q v' ys' wr ∧ Below q w wr) := hid ⟨by have h := HI.out.2.2.1; simpa using h, HI.out.2.2.2.1, HI.out.2.2.2.2.1⟩
      rw [show pv ([] : List Nat).head? = .pointer none from rfl]
      go_wp2_with fail
      go_end0
      exact ⟨rfl, v', by rw [← HF.out.1]; exact HF.out.2.1, HF.out.2.2⟩
    | cons n r' =>
      obtain ⟨k1, rfl⟩ : ∃ k1, gk = k1 + 1 := ⟨gk - 1, by have := HI.out.2.1; rw [List.length_cons] at this; omega⟩
      have HLK : Hid (X n = r'.head? ∧ n ∈ ns) := hid ⟨(HK.out l' n r' HI.out.1).2, HS.out n (by rw [HI.out.1]; simp)⟩
      have HNX : Hid (row = (l' ++ [n]) ++ r' ∧ r'.length ≤ k1 ∧ ys' ++ [V n] ++ r'.map V = ys ++ r.map V ∧ (ys' ++ [V n]).length + r'.length ≤ 1099511627776) := by
        have h1 := HI.out.2.1
        have h2 := HI.out.2.2.2.2.2
        rw [List.length_cons] at h1 h2
        refine hid ⟨by rw [HI.out.1]; simp, by omega, by rw [← HI.out.2.2.1]; simp, by rw [List.length_append, List.length_singleton]; omega⟩
      rw [show pv (n :: r').head? = .pointer (some ⟨n, 0, none⟩) from rfl]
      have HMr := hid (HM.out.1.under HI.out.2.2.2.2.1 HM.out.2.1 HM.out.2.2)
      have HAr := hid HI.out.2.2.2.1
      have HYL : Hid (ys'.length ≤ 1099511627776) := hid (by have := HI.out.2.2.2.2.2; omega)
      have HBr := hid HI.out.2.2.2.2.1
      clear HI
      have c0 : wr.cell? ⟨n, 0, none⟩ = some (.int .i64 (V n)) := (HMr.out.nd n HLK.out.2).cell 0
      go_wp2_with fail
      refine (put2_any q v' ys' (V n) wr HAr.out HYL.out).mono ?_
      rintro e w2 ⟨rfl, v1, hA1, hB1⟩
      have H3 := hid (And.intro hA1 (HBr.out.trans hB1))
      clear hA1 hB1 c0 HMr
      have HMr := hid (HM.out.1.under H3.out.2 HM.out.2.1 HM.out.2.2)
      have c2 : w2.cell? ⟨n, 2, none⟩ = some (pv (X n)) := (HMr.out.nd n HLK.out.2).cell 2
      obtain ⟨u2, hu2⟩ : ∃ u, pv (X n) = .pointer u := by cases X n <;> exact ⟨_, rfl⟩
      have HU2 := hid hu2
      rw [hu2] at c2
      clear hu2
      go_wp2_with fail
      rw [← HU2.out]
      go_roundg k1
      case measure => omega
      case rel => exact ⟨l' ++ [n], r', _, v1, by rw [← HLK.out.1], hid ⟨HNX.out.1, HNX.out.2.1, HNX.out.2.2.1, H3.out.1, H3.out.2, HNX.out.2.2.2⟩⟩
set_option maxHeartbeats 8000000 in
set_option maxRecDepth 100000 in
theorem lEachReverse_any (w : World) (Lb q : Nat) (ns : List Nat) (V : Nat → Int) (P X : Nat → Option Nat) (f b : Option Nat) (row l r : List Nat) (v : Value) (ys : List Int) (hM : Mem w Lb ns V P X f b) (hk : Lk row P X) (hr : row = l ++ r) (hsub : ∀ k ∈ row, k ∈ ns) (hL : Lb < q) (hN : ∀ k ∈ ns, k < q) (hA : Acc q v ys w) (hl : ys.length + row.length ≤ 1099511627776) :
    Calls Try.prog 108 #[pv l.getLast?, .func (.func 109) #[] #[.pointer (some ⟨q, 0, none⟩)]] w fun e w' => e = .returned (.tuple #[]) ∧ ∃ v', Acc q v' (ys ++ (l.map V).reverse) w' ∧ Below q w w' := by
  have HM := hid (And.intro hM (And.intro hL hN))
  have HK := hid hk
  have HR := hid hr
  have HS := hid hsub
  have HA := hid hA
  have HLN : Hid (ys.length + l.length ≤ 1099511627776) := hid (by rw [hr, List.length_append] at hl; omega)
  obtain ⟨u0, hu0⟩ : ∃ u, pv l.getLast? = .pointer u := by cases l.getLast? <;> exact ⟨_, rfl⟩
  have HU := hid hu0
  rw [hu0]
  clear hM hk hr hsub hL hN hA hl hu0
  go_enter Try.func108, Try.ntmps108
  go_wp2_with fail
  go_loopg [4] l.length (fun gk v4 wr => ∃ (l' r' : List Nat) (ys' : List Int) (v' : Value), v4 = pv l'.getLast? ∧ Hid (row = l' ++ r' ∧ l'.length ≤ gk ∧ ys' ++ (l'.map V).reverse = ys ++ (l.map V).reverse ∧ Acc q v' ys' wr ∧ Below q w wr ∧ ys'.length + l'.length ≤ 1099511627776))
  case atStart => exact ⟨l, r, ys, v, HU.out.symm, HR.out, Nat.le_refl _, rfl, HA.out, Below.refl _ _, HLN.out⟩
  case round =>
    obtain ⟨l', r', ys', v', rfl, HI⟩ := hrel
    rcases List.eq_nil_or_concat l' with rfl | ⟨t, n, rfl⟩
    · have HF : Hid (ys' = ys ++ (l.map V).reverse ∧ Acc q v' ys' wr ∧ Below q w wr) := hid ⟨by have h := HI.out.2.2.1; simpa using h, HI.out.2.2.2.1, HI.out.2.2.2.2.1⟩
      rw [show pv ([] : List Nat).getLast? = .pointer none from rfl]
      go_wp2_with fail
      go_end0
      exact ⟨rfl, v', by rw [← HF.out.1]; exact HF.out.2.1, HF.out.2.2⟩
    · rw [List.concat_eq_append] at HI ⊢
      obtain ⟨k1, rfl⟩ : ∃ k1, gk = k1 + 1 := ⟨gk - 1, by have := HI.out.2.1; rw [List.length_append, List.length_singleton] at this; omega⟩
      have HLK : Hid (P n = t.getLast? ∧ n ∈ ns) := hid ⟨(HK.out t n r' (by rw [HI.out.1]; simp)).1, HS.out n (by rw [HI.out.1]; simp)⟩
      have HNX : Hid (row = t ++ (n :: r') ∧ t.length ≤ k1 ∧ ys' ++ [V n] ++ (t.map V).reverse = ys ++ (l.map V).reverse ∧ (ys' ++ [V n]).length + t.length ≤ 1099511627776) := by
        have h1 := HI.out.2.1
        have h2 := HI.out.2.2.2.2.2
        rw [List.length_append, List.length_singleton] at h1 h2
        refine hid ⟨by rw [HI.out.1]; simp, by omega, by rw [← HI.out.2.2.1]; simp, by rw [List.length_append, List.length_singleton]; omega⟩
      rw [show pv (t ++ [n]).getLast? = .pointer (some ⟨n, 0, none⟩) from by rw [last_app]; rfl]
      have HMr := hid (HM.out.1.under HI.out.2.2.2.2.1 HM.out.2.1 HM.out.2.2)
      have HAr := hid HI.out.2.2.2.1
      have HYL : Hid (ys'.length ≤ 1099511627776) := hid (by have := HI.out.2.2.2.2.2; omega)
      have HBr := hid HI.out.2.2.2.2.1
      clear HI
      have c0 : wr.cell? ⟨n, 0, none⟩ = some (.int .i64 (V n)) := (HMr.out.nd n HLK.out.2).cell 0
      go_wp2_with fail
      refine (put1_any q v' ys' (V n) wr HAr.out HYL.out).mono ?_
      rintro e w2 ⟨rfl, v1, hA1, hB1⟩
      have H3 := hid (And.intro hA1 (HBr.out.trans hB1))
      clear hA1 hB1 c0 HMr
      have HMr := hid (HM.out.1.under H3.out.2 HM.out.2.1 HM.out.2.2)
      have c2 : w2.cell? ⟨n, 1, none⟩ = some (pv (P n)) := (HMr.out.nd n HLK.out.2).cell 1
      obtain ⟨u2, hu2⟩ : ∃ u, pv (P n) = .pointer u := by cases P n <;> exact ⟨_, rfl⟩
      have HU2 := hid hu2
      rw [hu2] at c2
      clear hu2
      go_wp2_with fail
      rw [← HU2.out]
      go_roundg k1
      case measure => omega
      case rel => exact ⟨t, n :: r', _, v1, by rw [← HLK.out.1], hid ⟨HNX.out.1, HNX.out.2.1, HNX.out.2.2.1, H3.out.1, H3.out.2, HNX.out.2.2.2⟩⟩
end Go.Proofs.Ytmhnhfmkcipcpaa.Lists

namespace Go.Proofs.Ytmhnhfmkcipcpaa.Lists
open Go Go.RowKit Go.Proofs.Ytmhnhfmkcipcpaa.Hk Go.Proofs.Ytmhnhfmkcipcpaa.ListPure Go.Proofs.Ytmhnhfmkcipcpaa.Heap Go.Proofs.YtmhnhfmkcipcpaaW.PrintWords Go.Proofs.YtmhnhfmkcipcpaaW.PrintLast Go.Proofs.YtmhnhfmkcipcpaaW.PrintMore
/-- A list of the nodes 'row', among the nodes 'ns', whose values are told by V. -/
def Lst (w : World) (Lb : Nat) (ns : List Nat) (V : Nat → Int) (row : List Nat) : Prop :=
  ∃ P X, Mem w Lb ns V P X row.head? row.getLast? ∧ Lk row P X ∧ row.Nodup ∧ ∀ k ∈ row, k ∈ ns
section
variable {w w1 : World} {Lb : Nat} {ns row : List Nat} {V : Nat → Int}
theorem Lst.fr {Z : Nat → Prop} (h : Lst w Lb ns V row) (hF : Fr Z w w1) (h1 : ¬ Z Lb) (h2 : ∀ k ∈ ns, ¬ Z k) : Lst w1 Lb ns V row := by
  obtain ⟨P, X, hM, hK, hD, hS⟩ := h
  exact ⟨P, X, hM.fr hF h1 h2, hK, hD, hS⟩
theorem Lst.below (h : Lst w Lb ns V row) (hB : Below w.heap.size w w1) : Lst w1 Lb ns V row := by
  obtain ⟨P, X, hM, hK, hD, hS⟩ := h
  exact ⟨P, X, hM.below hB, hK, hD, hS⟩
theorem Lst.drewN (h : Lst w Lb ns V row) (n : Nat) : Lst (w.drewN n) Lb ns V row := by
  obtain ⟨P, X, hM, hK, hD, hS⟩ := h
  exact ⟨P, X, hM.drewN n, hK, hD, hS⟩
theorem Lst.ltL (h : Lst w Lb ns V row) : Lb < w.heap.size := by
  obtain ⟨P, X, hM, _⟩ := h
  exact hM.lb.lt
theorem Lst.ltN (h : Lst w Lb ns V row) : ∀ k ∈ ns, k < w.heap.size := by
  obtain ⟨P, X, hM, _⟩ := h
  exact fun k hk => (hM.nd k hk).lt
/-- A new node, in no list. -/
theorem Lst.add (h : Lst w Lb ns V row) (x : Int) : Lst (w.alloc (.cells #[.int .i64 x, .pointer none, .pointer none] 115)) Lb (ns ++ [w.heap.size]) (fun k => if k = w.heap.size then x else V k) row := by
  have hlt := h.ltN
  obtain ⟨P, X, hM, hK, hD, hS⟩ := h
  have hq : ∀ k ∈ ns, k ≠ w.heap.size := fun k hk => Nat.ne_of_lt (hlt k hk)
  refine ⟨upd P w.heap.size none, upd X w.heap.size none, ⟨hM.lb.alloc _, fun k hk => ?_⟩, fun l n r e => ?_, hD, fun k hk => List.mem_append_left _ (hS k hk)⟩
  · rcases List.mem_append.1 hk with hk | hk
    · rw [if_neg (hq k hk), upd_other (hq k hk), upd_other (hq k hk)]
      exact (hM.nd k hk).alloc _
    · rw [List.mem_singleton.1 hk, if_pos rfl, upd_self, upd_self]
      exact Blk.new _ _ _
  · have hn := hq n (hS n (by rw [e]; simp))
    rw [upd_other hn, upd_other hn]
    exact hK l n r e
end
theorem new_any (w : World) : Calls Try.prog 40 #[] w fun e w' => ∃ Lb, e = .returned (.pointer (some ⟨Lb, 0, none⟩)) ∧ Lst w' Lb [] (fun _ => 0) [] ∧ w.heap.size ≤ Lb ∧ Below w.heap.size w w' := by
  go_enter Try.func40, Try.ntmps40
  go_wp2_with fail
  go_ret
  exact ⟨w.heap.size, rfl, ⟨fun _ => none, fun _ => none, ⟨Blk.new w _ _, fun k hk => by simp at hk⟩, lk_nil _ _, List.nodup_nil, fun k hk => by simp at hk⟩, Nat.le_refl _, (Below.refl _ _).alloc (Nat.le_refl _) _⟩
theorem first_back (n : Nat) (row : List Nat) : first n row.head? row.getLast? = (row ++ [n]).head? := by
  cases row with
  | nil => rfl
  | cons a t =>
    obtain ⟨y, hy⟩ : ∃ y, (a :: t).getLast? = some y := ⟨_, List.getLast?_eq_some_getLast (by simp)⟩
    rw [hy]; rfl
theorem first_front (n : Nat) (row : List Nat) : first n row.getLast? row.head? = (n :: row).getLast? := by
  cases row with
  | nil => rfl
  | cons a t =>
    show (a :: t).getLast? = _
    simp
section
variable {w : World} {Lb n : Nat} {ns row : List Nat} {V : Nat → Int}
theorem back_node (h : Lst w Lb ns V row) (hn : n ∈ ns) (hr : n ∉ row) :
    Calls Try.prog 106 #[.pointer (some ⟨Lb, 0, none⟩), .pointer (some ⟨n, 0, none⟩)] w fun e w' => e = .returned (.tuple #[]) ∧ Lst w' Lb ns V (row ++ [n]) ∧ Fr (Zl Lb ns) w w' := by
  obtain ⟨P, X, hM, hK, hD, hS⟩ := h
  refine (pushback_any w Lb n ns V P X _ _ hM hn (fun j e => ?_)).mono ?_
  · obtain ⟨t, ht⟩ := last_mem e
    have hj : j ∈ row := by rw [ht]; simp
    exact ⟨hS j hj, fun e => hr (e ▸ hj)⟩
  · rintro e w' ⟨he, hM', hF⟩
    refine ⟨he, ⟨_, _, ?_, hK.back hr hD, ?_, fun k hk => ?_⟩, hF⟩
    · rw [last_app, ← first_back]; exact hM'
    · exact List.nodup_append.2 ⟨hD, by simp, fun a ha b hb => by rw [List.mem_singleton.1 hb]; exact fun e => hr (e ▸ ha)⟩
    · rcases List.mem_append.1 hk with hk | hk
      · exact hS k hk
      · rw [List.mem_singleton.1 hk]; exact hn
theorem front_node (h : Lst w Lb ns V row) (hn : n ∈ ns) (hr : n ∉ row) :
    Calls Try.prog 107 #[.pointer (some ⟨Lb, 0, none⟩), .pointer (some ⟨n, 0, none⟩)] w fun e w' => e = .returned (.tuple #[]) ∧ Lst w' Lb ns V (n :: row) ∧ Fr (Zl Lb ns) w w' := by
  obtain ⟨P, X, hM, hK, hD, hS⟩ := h
  refine (pushfront_any w Lb n ns V P X _ _ hM hn (fun j e => ?_)).mono ?_
  · obtain ⟨t, ht⟩ := head_mem e
    have hj : j ∈ row := by rw [ht]; simp
    exact ⟨hS j hj, fun e => hr (e ▸ hj)⟩
  · rintro e w' ⟨he, hM', hF⟩
    refine ⟨he, ⟨_, _, ?_, hK.front hr hD, List.nodup_cons.2 ⟨hr, hD⟩, fun k hk => ?_⟩, hF⟩
    · rw [← first_front]; exact hM'
    · rcases List.mem_cons.1 hk with rfl | hk
      · exact hn
      · exact hS k hk
theorem out_node {l r : List Nat} (h : Lst w Lb ns V (l ++ n :: r)) :
    Calls Try.prog 112 #[.pointer (some ⟨Lb, 0, none⟩), .pointer (some ⟨n, 0, none⟩)] w fun e w' => e = .returned (.tuple #[]) ∧ Lst w' Lb ns V (l ++ r) ∧ Fr (Zl Lb ns) w w' := by
  obtain ⟨P, X, hM, hK, hD, hS⟩ := h
  obtain ⟨hp, hx⟩ := hK l n r rfl
  obtain ⟨d1, d2, d3⟩ := List.nodup_append.1 hD
  have hn : n ∈ ns := hS n (by simp)
  refine (remove_any w Lb n ns V P X _ _ hM hn (fun j e => ?_) (fun j e => ?_)).mono ?_
  · rw [hx] at e
    obtain ⟨t, ht⟩ := head_mem e
    refine ⟨hS j (by rw [ht]; simp), fun e => ?_⟩
    rw [ht, e] at d2
    simp at d2
  · rw [hp] at e
    obtain ⟨t, ht⟩ := last_mem e
    exact ⟨hS j (by rw [ht]; simp), fun e => d3 j (by rw [ht]; simp) n (by simp) e⟩
  · rintro e w' ⟨he, hM', hF⟩
    have hK' := hK.out hD
    rw [hp, hx] at hM'
    refine ⟨he, ⟨_, _, ?_, hK', ?_, fun k hk => hS k (by rcases List.mem_append.1 hk with q | q <;> simp [q])⟩, hF⟩
    · have e1 : (match l.getLast? with | none => r.head? | some _ => (l ++ n :: r).head?) = (l ++ r).head? := by
        cases l with
        | nil => rfl
        | cons a t =>
          obtain ⟨y, hy⟩ : ∃ y, (a :: t).getLast? = some y := ⟨_, List.getLast?_eq_some_getLast (by simp)⟩
          rw [hy]; rfl
      have e2 : (match r.head? with | none => l.getLast? | some _ => (l ++ n :: r).getLast?) = (l ++ r).getLast? := by
        cases r with
        | nil => simp
        | cons a t => simp
      rw [← e1, ← e2]
      exact hM'
    · exact List.nodup_append.2 ⟨d1, (List.nodup_cons.1 d2).2, fun a ha b hb => d3 a ha b (List.mem_cons_of_mem _ hb)⟩
end
set_option maxHeartbeats 4000000 in
set_option maxRecDepth 100000 in
theorem back_val (w : World) (Lb : Nat) (ns row : List Nat) (V : Nat → Int) (x : Int) (h : Lst w Lb ns V row) :
    Calls Try.prog 72 #[.pointer (some ⟨Lb, 0, none⟩), .int .i64 x] w fun e w' => e = .returned (.tuple #[]) ∧ Lst w' Lb (ns ++ [w.heap.size]) (fun k => if k = w.heap.size then x else V k) (row ++ [w.heap.size]) ∧ Fr (Zl Lb ns) w w' := by
  have H := hid h
  have H1 := hid (h.add x)
  have HR : Hid (w.heap.size ∉ row) := hid (fun hk => by
    have := h.ltN w.heap.size (by obtain ⟨_, _, _, _, _, hS⟩ := h; exact hS _ hk)
    omega)
  have HF : Hid (Fr (Zl Lb ns) w (w.alloc (.cells #[.int .i64 x, .pointer none, .pointer none] 115))) := hid ((Fr.refl _ _).alloc _)
  clear h
  go_enter Try.func72, Try.ntmps72
  go_wp2_with fail
  refine (back_node H1.out (by simp) HR.out).mono ?_
  rintro e w2 ⟨rfl, hL, hF⟩
  have H2 : Hid (Lst w2 Lb (ns ++ [w.heap.size]) (fun k => if k = w.heap.size then x else V k) (row ++ [w.heap.size]) ∧ Fr (Zl Lb ns) w w2) := hid ⟨hL, HF.out.trans hF (fun k hk hz => by
    rcases hz with hz | hz
    · exact .inl hz
    · rcases List.mem_append.1 hz with q | q
      · exact .inr q
      · rw [List.mem_singleton.1 q] at hk; omega)⟩
  clear hL hF
  go_wp2_with fail
  go_end0
  exact ⟨rfl, H2.out.1, H2.out.2⟩
set_option maxHeartbeats 4000000 in
set_option maxRecDepth 100000 in
theorem front_val (w : World) (Lb : Nat) (ns row : List Nat) (V : Nat → Int) (x : Int) (h : Lst w Lb ns V row) :
    Calls Try.prog 73 #[.pointer (some ⟨Lb, 0, none⟩), .int .i64 x] w fun e w' => e = .returned (.tuple #[]) ∧ Lst w' Lb (ns ++ [w.heap.size]) (fun k => if k = w.heap.size then x else V k) (w.heap.size :: row) ∧ Fr (Zl Lb ns) w w' := by
  have H := hid h
  have H1 := hid (h.add x)
  have HR : Hid (w.heap.size ∉ row) := hid (fun hk => by
    have := h.ltN w.heap.size (by obtain ⟨_, _, _, _, _, hS⟩ := h; exact hS _ hk)
    omega)
  have HF : Hid (Fr (Zl Lb ns) w (w.alloc (.cells #[.int .i64 x, .pointer none, .pointer none] 115))) := hid ((Fr.refl _ _).alloc _)
  clear h
  go_enter Try.func73, Try.ntmps73
  go_wp2_with fail
  refine (front_node H1.out (by simp) HR.out).mono ?_
  rintro e w2 ⟨rfl, hL, hF⟩
  have H2 : Hid (Lst w2 Lb (ns ++ [w.heap.size]) (fun k => if k = w.heap.size then x else V k) (w.heap.size :: row) ∧ Fr (Zl Lb ns) w w2) := hid ⟨hL, HF.out.trans hF (fun k hk hz => by
    rcases hz with hz | hz
    · exact .inl hz
    · rcases List.mem_append.1 hz with q | q
      · exact .inr q
      · rw [List.mem_singleton.1 q] at hk; omega)⟩
  clear hL hF
  go_wp2_with fail
  go_end0
  exact ⟨rfl, H2.out.1, H2.out.2⟩
set_option maxHeartbeats 4000000 in
set_option maxRecDepth 100000 in
theorem each_on (w : World) (Lb : Nat) (ns l r : List Nat) (V : Nat → Int) (h : Lst w Lb ns V (l ++ r)) (hl : (l ++ r).length ≤ 1099511627776) :
    Calls Try.prog 74 #[pv r.head?, .bool false] w fun e w' => ∃ v, e = .returned v ∧ Ro w' (w.heap.size + 1) v (r.map V) ∧ Below w.heap.size w w' := by
  have HLT := hid (And.intro h.ltL h.ltN)
  obtain ⟨P, X, hM, hK, hD, hS⟩ := h
  have hB : Below w.heap.size w (w.alloc (.cells #[.slice none 0 0] 30)) := (Below.refl _ _).alloc (Nat.le_refl _) _
  have H := hid (And.intro (hM.below hB) (And.intro hK (And.intro hS hB)))
  have HA : Hid (Acc w.heap.size (.slice none 0 0) [] (w.alloc (.cells #[.slice none 0 0] 30))) := hid ⟨Blk.new w _ _, Kd.R_nil ..⟩
  have HLN : Hid (([] : List Int).length + (l ++ r).length ≤ 1099511627776) := hid (by rw [List.length_nil]; omega)
  obtain ⟨u0, hu0⟩ : ∃ u, pv r.head? = .pointer u := by cases r.head? <;> exact ⟨_, rfl⟩
  have HU := hid hu0
  rw [hu0]
  clear hM hK hD hS hB hl hu0
  go_enter Try.func74, Try.ntmps74
  go_wp2_with fail
  rw [← HU.out]
  refine (lEach_any _ Lb w.heap.size ns V P X _ _ (l ++ r) l r _ [] H.out.1 H.out.2.1 rfl H.out.2.2.1 HLT.out.1 HLT.out.2 HA.out HLN.out).mono ?_
  rintro e w2 ⟨rfl, v', hA, hB⟩
  rw [List.nil_append] at hA
  have H2 := hid (And.intro hA (H.out.2.2.2.trans hB))
  clear hA hB
  obtain ⟨A2, c2, rfl⟩ := Kd.R_slice H2.out.1.row
  have c0 : w2.cell? ⟨w.heap.size, 0, none⟩ = some (.slice A2 (r.map V).length c2) := H2.out.1.blk.cell 0
  generalize hn : (r.map V).length = n at c0
  have HN := hid hn
  clear hn
  go_wp2_with fail
  go_ret
  exact ⟨_, rfl, by have h_ := H2.out.1.row; rw [HN.out] at h_; exact h_, H2.out.2⟩
set_option maxHeartbeats 4000000 in
set_option maxRecDepth 100000 in
theorem each_back (w : World) (Lb : Nat) (ns l r : List Nat) (V : Nat → Int) (h : Lst w Lb ns V (l ++ r)) (hl : (l ++ r).length ≤ 1099511627776) :
    Calls Try.prog 74 #[pv l.getLast?, .bool true] w fun e w' => ∃ v, e = .returned v ∧ Ro w' (w.heap.size + 1) v ((l.map V).reverse) ∧ Below w.heap.size w w' := by
  have HLT := hid (And.intro h.ltL h.ltN)
  obtain ⟨P, X, hM, hK, hD, hS⟩ := h
  have hB : Below w.heap.size w (w.alloc (.cells #[.slice none 0 0] 30)) := (Below.refl _ _).alloc (Nat.le_refl _) _
  have H := hid (And.intro (hM.below hB) (And.intro hK (And.intro hS hB)))
  have HA : Hid (Acc w.heap.size (.slice none 0 0) [] (w.alloc (.cells #[.slice none 0 0] 30))) := hid ⟨Blk.new w _ _, Kd.R_nil ..⟩
  have HLN : Hid (([] : List Int).length + (l ++ r).length ≤ 1099511627776) := hid (by rw [List.length_nil]; omega)
  obtain ⟨u0, hu0⟩ : ∃ u, pv l.getLast? = .pointer u := by cases l.getLast? <;> exact ⟨_, rfl⟩
  have HU := hid hu0
  rw [hu0]
  clear hM hK hD hS hB hl hu0
  go_enter Try.func74, Try.ntmps74
  go_wp2_with fail
  rw [← HU.out]
  refine (lEachReverse_any _ Lb w.heap.size ns V P X _ _ (l ++ r) l r _ [] H.out.1 H.out.2.1 rfl H.out.2.2.1 HLT.out.1 HLT.out.2 HA.out HLN.out).mono ?_
  rintro e w2 ⟨rfl, v', hA, hB⟩
  rw [List.nil_append] at hA
  have H2 := hid (And.intro hA (H.out.2.2.2.trans hB))
  clear hA hB
  obtain ⟨A2, c2, rfl⟩ := Kd.R_slice H2.out.1.row
  have c0 : w2.cell? ⟨w.heap.size, 0, none⟩ = some (.slice A2 ((l.map V).reverse).length c2) := H2.out.1.blk.cell 0
  generalize hn : ((l.map V).reverse).length = n at c0
  have HN := hid hn
  clear hn
  go_wp2_with fail
  go_ret
  exact ⟨_, rfl, by have h_ := H2.out.1.row; rw [HN.out] at h_; exact h_, H2.out.2⟩
end Go.Proofs.Ytmhnhfmkcipcpaa.Lists

namespace Go.Proofs.Ytmhnhfmkcipcpaa.Lists
open Go Go.RowKit Go.Proofs.Ytmhnhfmkcipcpaa.Hk Go.Proofs.Ytmhnhfmkcipcpaa.ListPure Go.Proofs.Ytmhnhfmkcipcpaa.Heap Go.Proofs.YtmhnhfmkcipcpaaW.PrintWords Go.Proofs.YtmhnhfmkcipcpaaW.PrintLast Go.Proofs.YtmhnhfmkcipcpaaW.PrintMore
abbrev ptrK := Stack.ptrK
/-- A ring's block, its list, its nodes. -/
structure Ring (base Rb Lb : Nat) (w : World) (ns : List Nat) (V : Nat → Int) (row : List Nat) (vn : Value) : Prop where
  blk : Blk w Rb #[.pointer (some ⟨Lb, 0, none⟩), vn] 70
  lst : Lst w Lb ns V row
  nod : ptrK.R 110 w base (fun _ => True) vn ns
  ge : base ≤ Rb ∧ base ≤ Lb ∧ ∀ k ∈ ns, base ≤ k
/-- The blocks that a ring's steps may turn, by their types. -/
def Zr (base : Nat) (w : World) (k : Nat) : Prop := base ≤ k ∧ ∃ cs t, w.heap[k]? = some (.cells cs t (0, 0)) ∧ (t = 70 ∨ t = 112 ∨ t = 115 ∨ t = 110)
theorem zr_trans {base : Nat} {a b c : World} (h : Fr (Zr base a) a b) (k : Fr (Zr base b) b c) : Fr (Zr base a) a c :=
  h.trans k (fun n hn hz => by
    by_cases h0 : Zr base a n
    · exact h0
    · have := h.block n hn h0
      obtain ⟨h1, h2⟩ := hz
      rw [this] at h2
      exact ⟨h1, h2⟩)
theorem zr_not {base b : Nat} {w : World} {cs : Array Value} {t : TypeId} (h : Blk w b cs t) (h1 : t ≠ 70) (h2 : t ≠ 112) (h3 : t ≠ 115) (h4 : t ≠ 110) : ¬ Zr base w b := fun ⟨_, cs', t', h', ht⟩ => by
  have e := h
  unfold Blk at e
  rw [h'] at e
  injection e with e
  injection e with _ e
  subst e
  rcases ht with q | q | q | q
  · exact h1 q
  · exact h2 q
  · exact h3 q
  · exact h4 q
section
variable {base Rb Lb : Nat} {w w1 : World} {ns row : List Nat} {V : Nat → Int} {vn : Value}
theorem Ring.below (h : Ring base Rb Lb w ns V row vn) (hB : Below w.heap.size w w1) : Ring base Rb Lb w1 ns V row vn := ⟨h.blk.below hB h.blk.lt, h.lst.below hB, Kd.R_below h.nod hB, h.ge⟩
theorem Ring.drewN (h : Ring base Rb Lb w ns V row vn) (n : Nat) : Ring base Rb Lb (w.drewN n) ns V row vn := ⟨h.blk.drewN n, h.lst.drewN n, Kd.R_drewN h.nod n, h.ge⟩
theorem Ring.zl (h : Ring base Rb Lb w ns V row vn) : ∀ k, Zl Lb ns k → Zr base w k := by
  obtain ⟨P, X, hM, _⟩ := h.lst
  rintro k (rfl | hk)
  · exact ⟨h.ge.2.1, _, _, hM.lb, .inr (.inl rfl)⟩
  · exact ⟨h.ge.2.2 k hk, _, _, hM.nd k hk, .inr (.inr (.inl rfl))⟩
/-- The list has turned, nothing else. -/
theorem Ring.turn {row' : List Nat} (h : Ring base Rb Lb w ns V row vn) (hL : Lst w1 Lb ns V row') (hF : Fr (Zl Lb ns) w w1) : Ring base Rb Lb w1 ns V row' vn := by
  obtain ⟨P, X, hM, _⟩ := h.lst
  have hZ : ∀ e, e ≠ 112 → e ≠ 115 → ∀ g, Zl Lb ns g → ∃ cs t, w.heap[g]? = some (.cells cs t (0, 0)) ∧ t ≠ e := by
    rintro e h1 h2 g (rfl | hg)
    · exact ⟨_, _, hM.lb, fun q => h1 q.symm⟩
    · exact ⟨_, _, hM.nd g hg, fun q => h2 q.symm⟩
  exact ⟨Stack.blk_fr h.blk hF (hZ _ (by decide) (by decide)), hL, Stack.row_fr (d := ptrK) rfl h.nod hF (hZ _ (by decide) (by decide)), h.ge⟩
end
/-- The cells of what a step on a list tells. -/
abbrev F4k (kv : Value) : Array Value := #[.int .i64 0, .bool false, kv, .slice none 0 0]
/-- What stands while a step is done. -/
structure Nd (base Rb Lb s : Nat) (w0 W : World) (ns : List Nat) (V : Nat → Int) (row : List Nat) (vn kv : Value) (ks : List Int) : Prop where
  ring : Ring base Rb Lb W ns V row vn
  fr : Fr (Zr base w0) w0 W
  x4 : Blk W (s + 1) (F4k (.slice none 0 0)) 34
  x5 : Blk W (s + 2) (F4k kv) 34
  keys : Ro W s kv ks
  s0 : w0.heap.size = s
  lt : s + 2 < W.heap.size
section
variable {base Rb Lb s : Nat} {w0 W W1 : World} {ns row row' : List Nat} {V : Nat → Int} {vn kv kv' : Value} {ks ks' : List Int}
theorem Nd.turn (h : Nd base Rb Lb s w0 W ns V row vn kv ks) (hL : Lst W1 Lb ns V row') (hF : Fr (Zl Lb ns) W W1) : Nd base Rb Lb s w0 W1 ns V row' vn kv ks := by
  have hF' : Fr (Zr base W) W W1 := hF.mono (fun k _ hz => h.ring.zl k hz)
  refine ⟨h.ring.turn hL hF, zr_trans h.fr hF', h.x4.fr hF' (zr_not h.x4 (by decide) (by decide) (by decide) (by decide)), h.x5.fr hF' (zr_not h.x5 (by decide) (by decide) (by decide) (by decide)), Ro.fr h.keys hF' (fun k hk => ?_), h.s0, Nat.lt_of_lt_of_le h.lt hF.size⟩
  obtain ⟨inner, ho⟩ := Kd.R_own h.keys
  obtain ⟨cs, hc⟩ := own_typed ho k hk
  exact zr_not hc (by decide) (by decide) (by decide) (by decide)
theorem Nd.below (h : Nd base Rb Lb s w0 W ns V row vn kv ks) (hB : Below W.heap.size W W1) : Nd base Rb Lb s w0 W1 ns V row vn kv ks :=
  ⟨h.ring.below hB, h.fr.trans (Fr.new (Z := fun _ => False) hB) (fun _ _ q => q.elim), h.x4.below hB h.x4.lt, h.x5.below hB h.x5.lt, Kd.R_below h.keys hB, h.s0, Nat.lt_of_lt_of_le h.lt hB.size⟩
theorem Nd.drewN (h : Nd base Rb Lb s w0 W ns V row vn kv ks) (n : Nat) : Nd base Rb Lb s w0 (W.drewN n) ns V row vn kv ks :=
  ⟨h.ring.drewN n, h.fr.drewN n, h.x4.drewN n, h.x5.drewN n, h.keys.drewN n, h.s0, h.lt⟩
/-- A cell of the call's own result has been set. -/
theorem Nd.out {b i : Nat} {u : Value} {cs : Array Value} (h : Nd base Rb Lb s w0 W ns V row vn kv ks) (hb : Blk W b cs 34) (hs : s ≤ b) : Ring base Rb Lb (W.setCell ⟨b, i, none⟩ u) ns V row vn ∧ Fr (Zr base w0) w0 (W.setCell ⟨b, i, none⟩ u) ∧ ∀ v ys, Ro W s v ys → Ro (W.setCell ⟨b, i, none⟩ u) s v ys := by
  have hF : Fr (· = b) W (W.setCell ⟨b, i, none⟩ u) := Fr.one
  have hZ : ∀ e, 34 ≠ e → ∀ g, g = b → ∃ cs t, W.heap[g]? = some (.cells cs t (0, 0)) ∧ t ≠ e := fun e hne g hg => by
    subst hg
    exact ⟨_, _, hb, hne⟩
  have hbs := h.s0
  obtain ⟨P, X, hM, hK, hD, hS⟩ := h.ring.lst
  refine ⟨⟨Stack.blk_fr h.ring.blk hF (hZ _ (by decide)), ⟨P, X, ⟨Stack.blk_fr hM.lb hF (hZ _ (by decide)), fun k hk => Stack.blk_fr (hM.nd k hk) hF (hZ _ (by decide))⟩, hK, hD, hS⟩, Stack.row_fr (d := ptrK) rfl h.ring.nod hF (hZ _ (by decide)), h.ring.ge⟩, h.fr.trans hF (fun k hk e => by omega), fun v ys hR => Ro.fr hR hF (fun k hk e => ?_)⟩
  obtain ⟨inner, ho⟩ := Kd.R_own hR
  obtain ⟨cs', hc⟩ := own_typed ho k hk
  obtain ⟨cs2, t2, h2, hne⟩ := hZ 3 (by decide) k e
  exact Stack.clash hc h2 (fun q => hne q.symm)
theorem Nd.start (h : Ring base Rb Lb w0 ns V row vn) (st : Array Value) :
    Nd base Rb Lb w0.heap.size w0 (((w0.alloc (.cells st 27)).alloc (.cells (F4k (.slice none 0 0)) 34)).alloc (.cells (F4k (.slice none 0 0)) 34)) ns V row vn (.slice none 0 0) [] := by
  have hB : Below w0.heap.size w0 (((w0.alloc (.cells st 27)).alloc (.cells (F4k (.slice none 0 0)) 34)).alloc (.cells (F4k (.slice none 0 0)) 34)) := (((Below.refl _ _).alloc (Nat.le_refl _) _).alloc (by simp) _).alloc (by simp; omega) _
  have h4 := Blk.new (w0.alloc (.cells st 27)) (F4k (.slice none 0 0)) 34
  have h5 := Blk.new ((w0.alloc (.cells st 27)).alloc (.cells (F4k (.slice none 0 0)) 34)) (F4k (.slice none 0 0)) 34
  rw [Hk.alloc_size] at h4
  rw [Hk.alloc_size, Hk.alloc_size] at h5
  exact ⟨h.below hB, Fr.new hB, h4.alloc _, h5, Kd.R_nil .., rfl, by simp⟩
end
end Go.Proofs.Ytmhnhfmkcipcpaa.Lists
