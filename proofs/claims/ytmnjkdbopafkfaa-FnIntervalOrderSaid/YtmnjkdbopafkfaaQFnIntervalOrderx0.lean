/- The machine's side of a law, as the kit's print writes it; of the functions that the print doesn't cover this session's own contracts stand in it: no condition. -/
import Derived.Test.YtmnjkdbopafkfaaProg
import Derived.Below
import Derived.Deep.Draws
import Derived.Deep.AppendLies
import Derived.Maps.AppendAt
import Derived.OwnWalk
import Derived.Laws.BytesArg
import Derived.Laws.MakeOwn
import Derived.Laws.OwnMore
import Derived.Deep.OwnRows
import Derived.Tactics
import Derived.Lib.ConvBytes
import Derived.Laws.Slices
import Derived.WalkKit
import Derived.KernelRfl
import Derived.RowKit3
import Derived.Deep.LoopGhost
import Derived.Deep.QuietTactic
import Derived.BigQuiet
import Derived.WideLaws
import Derived.Deep.DeepCutAuto
import Derived.Deep.CutBlock
import Derived.Deep.RegionHeld3
import Derived.Laws.Rows
import Derived.Lib.AppendStr
import Derived.ArgAppend
import Derived.Laws.IdiomCopy
import Derived.OrdersHeld
import Derived.Laws.BitsLemmas
import Derived.RowKit
import Derived.Laws.Cover1
import Derived.Test.YtmnjkdbopafkfaaWWords
import Derived.Test.YtmnjkdbopafkfaaWLast
import Derived.Test.YtmnjkdbopafkfaaWTab
import Derived.Test.YtmnjkdbopafkfaaWFour
import Derived.Test.YtmnjkdbopafkfaaWQPut
import Derived.Test.YtmnjkdbopafkfaaWApart
import Derived.Test.YtmnjkdbopafkfaaWArr
import Derived.Test.YtmnjkdbopafkfaaWZeros
import Derived.Test.YtmnjkdbopafkfaaWFoot
import Derived.Test.YtmnjkdbopafkfaaWKept
import Derived.Test.YtmnjkdbopafkfaaWShare
import Derived.Test.YtmnjkdbopafkfaaWN
import Derived.Test.YtmnjkdbopafkfaaWFootNe
import Derived.Test.YtmnjkdbopafkfaaWAt
import Derived.Test.YtmnjkdbopafkfaaWEqStruct
import Derived.Test.YtmnjkdbopafkfaaWRepsOne
import Derived.Test.YtmnjkdbopafkfaaWInv
import Derived.Test.YtmnjkdbopafkfaaWInvWords
import Derived.Test.YtmnjkdbopafkfaaWGuard
import Derived.Test.YtmnjkdbopafkfaaWNEv
import Derived.Test.YtmnjkdbopafkfaaWMore
namespace Go.Proofs.Ytmnjkdbopafkfaa.QFnIntervalOrder
open Go.RowKit Go.Proofs.YtmnjkdbopafkfaaW.PrintWords Go.Proofs.YtmnjkdbopafkfaaW.PrintLast Go.Proofs.YtmnjkdbopafkfaaW.PrintMore
attribute [local go_sem] max2_int min2_int max_two min_two max_three min_three max_four min_four   -- for this text's walks alone
set_option linter.unusedVariables false
set_option linter.unusedSimpArgs false



def errW : Option Int → Value
  | none => .nilIface
  | some c => .iface 0 (.int .i64 c)
theorem errW_none : errW none = .nilIface := rfl
theorem errW_some (c : Int) : errW (some c) = .iface 0 (.int .i64 c) := rfl

theorem info25 : (Try.prog.info? 25).map (fun i => (i.zero, i.size, i.bytes)) = some (some (.agg #[(.int .i64 0), (.int .i64 0), (.int .i64 0), (.int .i64 0)]), 4, 32) := by kernel_rfl
theorem info32 : (Try.prog.info? 32).map (fun i => (i.zero, i.size, i.bytes)) = some (some (.agg #[(.int .i64 0), (.int .i64 0), (.int .i64 0), (.bool false), (.slice none 0 0), (.int .i64 0)]), 6, 64) := by kernel_rfl
-- the values' own types
/-! #### struct type 29 -/
structure S29 where
  f0 : Int
  f1 : Int
  f2 : Int
def z29 : S29 := ⟨(0 : Int), (0 : Int), (0 : Int)⟩
def k29 : Kd S29 := Kd.iso (Kd.pair (Kd.int .i64) (Kd.pair (Kd.int .i64) (Kd.int .i64))) (fun x : S29 => (x.f0, x.f1, x.f2))
theorem k29_open {w : World} {x : S29} {cs : List Value} (h : k29.K w x cs) : cs = [.int .i64 x.f0, .int .i64 x.f1, .int .i64 x.f2] := by
  obtain ⟨_, _, rfl, rfl, ⟨_, _, rfl, rfl, rfl⟩⟩ := h
  exact rfl
theorem k29_openM {w : World} {base : Nat} {ok : Nat → Prop} {x : S29} {cs : List Value} (h : k29.M w base ok x cs) : cs = [.int .i64 x.f0, .int .i64 x.f1, .int .i64 x.f2] := by
  obtain ⟨_, _, rfl, rfl, ⟨_, _, rfl, rfl, rfl⟩⟩ := h
  exact rfl
theorem k29_mk (w : World) (x : S29)  : k29.K w x [.int .i64 x.f0, .int .i64 x.f1, .int .i64 x.f2] := ⟨[.int .i64 x.f0], [.int .i64 x.f1, .int .i64 x.f2], rfl, rfl, ⟨[.int .i64 x.f1], [.int .i64 x.f2], rfl, rfl, rfl⟩⟩
theorem k29_mkM (w : World) (base : Nat) (ok : Nat → Prop) (x : S29)  : k29.M w base ok x [.int .i64 x.f0, .int .i64 x.f1, .int .i64 x.f2] := ⟨[.int .i64 x.f0], [.int .i64 x.f1, .int .i64 x.f2], rfl, rfl, ⟨[.int .i64 x.f1], [.int .i64 x.f2], rfl, rfl, rfl⟩⟩
def rd_T29 (xs : List S29) (i : Int) : S29 := xs.getD i.toNat z29
theorem at_T29 {w : World} {A : Option Addr} {n : Nat} {xs : List S29} (h : Kd.C k29 w A n xs) (i : Int) (h0 : 0 ≤ i) (h1 : i < n) : ∃ ad , A = some ad ∧ w.cell? (ad.add (i.toNat * 3)) = some (.int .i64 (rd_T29 xs i).f0) ∧ w.cell? ⟨(ad.add (i.toNat * 3)).block, (ad.add (i.toNat * 3)).off + 1, none⟩ = some (.int .i64 (rd_T29 xs i).f1) ∧ w.cell? ⟨(ad.add (i.toNat * 3)).block, (ad.add (i.toNat * 3)).off + 2, none⟩ = some (.int .i64 (rd_T29 xs i).f2) := by
  obtain ⟨ad, c, e, _, hK, hc0⟩ := Kd.C_get h z29 i h0 h1
  have hc : ∀ j u, c[j]? = some u → w.cell? (ad.add (i.toNat * 3 + j)) = some u := hc0
  obtain rfl := k29_open hK
  exact ⟨ad, e, hc 0 _ rfl, by rw [← add_field _ _ 1 (by omega)]; exact hc 1 _ rfl, by rw [← add_field _ _ 2 (by omega)]; exact hc 2 _ rfl⟩

/-! #### struct type 25 -/
structure S25 where
  f0 : Int
  f1 : Int
  f2 : Int
  f3 : Int
def z25 : S25 := ⟨(0 : Int), (0 : Int), (0 : Int), (0 : Int)⟩
def k25 : Kd S25 := Kd.iso (Kd.pair (Kd.int .i64) (Kd.pair (Kd.int .i64) (Kd.pair (Kd.int .i64) (Kd.int .i64)))) (fun x : S25 => (x.f0, x.f1, x.f2, x.f3))
theorem k25_open {w : World} {x : S25} {cs : List Value} (h : k25.K w x cs) : cs = [.int .i64 x.f0, .int .i64 x.f1, .int .i64 x.f2, .int .i64 x.f3] := by
  obtain ⟨_, _, rfl, rfl, ⟨_, _, rfl, rfl, ⟨_, _, rfl, rfl, rfl⟩⟩⟩ := h
  exact rfl
theorem k25_openM {w : World} {base : Nat} {ok : Nat → Prop} {x : S25} {cs : List Value} (h : k25.M w base ok x cs) : cs = [.int .i64 x.f0, .int .i64 x.f1, .int .i64 x.f2, .int .i64 x.f3] := by
  obtain ⟨_, _, rfl, rfl, ⟨_, _, rfl, rfl, ⟨_, _, rfl, rfl, rfl⟩⟩⟩ := h
  exact rfl
theorem k25_mk (w : World) (x : S25)  : k25.K w x [.int .i64 x.f0, .int .i64 x.f1, .int .i64 x.f2, .int .i64 x.f3] := ⟨[.int .i64 x.f0], [.int .i64 x.f1, .int .i64 x.f2, .int .i64 x.f3], rfl, rfl, ⟨[.int .i64 x.f1], [.int .i64 x.f2, .int .i64 x.f3], rfl, rfl, ⟨[.int .i64 x.f2], [.int .i64 x.f3], rfl, rfl, rfl⟩⟩⟩
theorem k25_mkM (w : World) (base : Nat) (ok : Nat → Prop) (x : S25)  : k25.M w base ok x [.int .i64 x.f0, .int .i64 x.f1, .int .i64 x.f2, .int .i64 x.f3] := ⟨[.int .i64 x.f0], [.int .i64 x.f1, .int .i64 x.f2, .int .i64 x.f3], rfl, rfl, ⟨[.int .i64 x.f1], [.int .i64 x.f2, .int .i64 x.f3], rfl, rfl, ⟨[.int .i64 x.f2], [.int .i64 x.f3], rfl, rfl, rfl⟩⟩⟩
def rd_T25 (xs : List S25) (i : Int) : S25 := xs.getD i.toNat z25
theorem at_T25 {w : World} {A : Option Addr} {n : Nat} {xs : List S25} (h : Kd.C k25 w A n xs) (i : Int) (h0 : 0 ≤ i) (h1 : i < n) : ∃ ad , A = some ad ∧ w.cell? (ad.add (i.toNat * 4)) = some (.int .i64 (rd_T25 xs i).f0) ∧ w.cell? ⟨(ad.add (i.toNat * 4)).block, (ad.add (i.toNat * 4)).off + 1, none⟩ = some (.int .i64 (rd_T25 xs i).f1) ∧ w.cell? ⟨(ad.add (i.toNat * 4)).block, (ad.add (i.toNat * 4)).off + 2, none⟩ = some (.int .i64 (rd_T25 xs i).f2) ∧ w.cell? ⟨(ad.add (i.toNat * 4)).block, (ad.add (i.toNat * 4)).off + 3, none⟩ = some (.int .i64 (rd_T25 xs i).f3) := by
  obtain ⟨ad, c, e, _, hK, hc0⟩ := Kd.C_get h z25 i h0 h1
  have hc : ∀ j u, c[j]? = some u → w.cell? (ad.add (i.toNat * 4 + j)) = some u := hc0
  obtain rfl := k25_open hK
  exact ⟨ad, e, hc 0 _ rfl, by rw [← add_field _ _ 1 (by omega)]; exact hc 1 _ rfl, by rw [← add_field _ _ 2 (by omega)]; exact hc 2 _ rfl, by rw [← add_field _ _ 3 (by omega)]; exact hc 3 _ rfl⟩

def rd_L4 (xs : List (List S29)) (i : Int) : (List S29) := xs.getD i.toNat ([] : List S29)
theorem at_L4 {w : World} {A : Option Addr} {n : Nat} {xs : List (List S29)} (h : Kd.C (Kd.slice 29 k29) w A n xs) (i : Int) (h0 : 0 ≤ i) (h1 : i < n) : ∃ ad A0 c0, A = some ad ∧ w.cell? (ad.add i.toNat) = some (.slice A0 (rd_L4 xs i).length c0) ∧ (rd_L4 xs i).length ≤ c0 ∧ k29.C w A0 (rd_L4 xs i).length (rd_L4 xs i) := by
  obtain ⟨ad, c, e, _, hK, hc0⟩ := Kd.C_get h ([] : List S29) i h0 h1
  have hc : ∀ j u, c[j]? = some u → w.cell? (ad.add (i.toNat * 1 + j)) = some u := hc0
  obtain ⟨A0, c0, rfl, l0, g0⟩ := hK
  exact ⟨ad, A0, c0, e, by have hq := hc 0 _ rfl; rwa [Nat.mul_one, Nat.add_zero] at hq, l0, g0⟩

/-! #### struct type 32 -/
structure S32 where
  f0 : S29
  f1 : Bool
  f2 : (List S29)
  f3 : Int
def z32 : S32 := ⟨z29, false, ([] : List S29), (0 : Int)⟩
def k32 : Kd S32 := Kd.iso (Kd.pair k29 (Kd.pair Kd.bool (Kd.pair (Kd.slice 29 k29) (Kd.int .i64)))) (fun x : S32 => (x.f0, x.f1, x.f2, x.f3))
theorem k32_open {w : World} {x : S32} {cs : List Value} (h : k32.K w x cs) : ∃ A4 c4, cs = [.int .i64 x.f0.f0, .int .i64 x.f0.f1, .int .i64 x.f0.f2, .bool x.f1, .slice A4 x.f2.length c4, .int .i64 x.f3] ∧ x.f2.length ≤ c4 ∧ k29.C w A4 x.f2.length x.f2 := by
  obtain ⟨_, _, rfl, s0, ⟨_, _, rfl, rfl, ⟨_, _, rfl, ⟨A4, c4, rfl, l4, g4⟩, rfl⟩⟩⟩ := h
  obtain rfl := k29_open s0
  exact ⟨A4, c4, rfl, l4, g4⟩
theorem k32_openM {w : World} {base : Nat} {ok : Nat → Prop} {x : S32} {cs : List Value} (h : k32.M w base ok x cs) : ∃ v4, cs = [.int .i64 x.f0.f0, .int .i64 x.f0.f1, .int .i64 x.f0.f2, .bool x.f1, v4, .int .i64 x.f3] ∧ k29.R 29 w base ok v4 x.f2 := by
  obtain ⟨_, _, rfl, s0, ⟨_, _, rfl, rfl, ⟨_, _, rfl, ⟨v4, rfl, g4⟩, rfl⟩⟩⟩ := h
  obtain rfl := k29_openM s0
  exact ⟨v4, rfl, g4⟩
theorem k32_mk (w : World) (x : S32) {A4 : Option Addr} {c4 : Nat} (l4 : x.f2.length ≤ c4) (g4 : k29.C w A4 x.f2.length x.f2) : k32.K w x [.int .i64 x.f0.f0, .int .i64 x.f0.f1, .int .i64 x.f0.f2, .bool x.f1, .slice A4 x.f2.length c4, .int .i64 x.f3] := ⟨[.int .i64 x.f0.f0, .int .i64 x.f0.f1, .int .i64 x.f0.f2], [.bool x.f1, .slice A4 x.f2.length c4, .int .i64 x.f3], rfl, (k29_mk w x.f0 ), ⟨[.bool x.f1], [.slice A4 x.f2.length c4, .int .i64 x.f3], rfl, rfl, ⟨[.slice A4 x.f2.length c4], [.int .i64 x.f3], rfl, ⟨A4, c4, rfl, l4, g4⟩, rfl⟩⟩⟩
theorem k32_mkM (w : World) (base : Nat) (ok : Nat → Prop) (x : S32) {v4 : Value} (g4 : k29.R 29 w base ok v4 x.f2) : k32.M w base ok x [.int .i64 x.f0.f0, .int .i64 x.f0.f1, .int .i64 x.f0.f2, .bool x.f1, v4, .int .i64 x.f3] := ⟨[.int .i64 x.f0.f0, .int .i64 x.f0.f1, .int .i64 x.f0.f2], [.bool x.f1, v4, .int .i64 x.f3], rfl, (k29_mkM w base ok x.f0 ), ⟨[.bool x.f1], [v4, .int .i64 x.f3], rfl, rfl, ⟨[v4], [.int .i64 x.f3], rfl, ⟨v4, rfl, g4⟩, rfl⟩⟩⟩
def rd_T32 (xs : List S32) (i : Int) : S32 := xs.getD i.toNat z32
theorem at_T32 {w : World} {A : Option Addr} {n : Nat} {xs : List S32} (h : Kd.C k32 w A n xs) (i : Int) (h0 : 0 ≤ i) (h1 : i < n) : ∃ ad A4 c4, A = some ad ∧ w.cell? (ad.add (i.toNat * 6)) = some (.int .i64 (rd_T32 xs i).f0.f0) ∧ w.cell? ⟨(ad.add (i.toNat * 6)).block, (ad.add (i.toNat * 6)).off + 1, none⟩ = some (.int .i64 (rd_T32 xs i).f0.f1) ∧ w.cell? ⟨(ad.add (i.toNat * 6)).block, (ad.add (i.toNat * 6)).off + 2, none⟩ = some (.int .i64 (rd_T32 xs i).f0.f2) ∧ w.cell? ⟨(ad.add (i.toNat * 6)).block, (ad.add (i.toNat * 6)).off + 3, none⟩ = some (.bool (rd_T32 xs i).f1) ∧ w.cell? ⟨(ad.add (i.toNat * 6)).block, (ad.add (i.toNat * 6)).off + 4, none⟩ = some (.slice A4 (rd_T32 xs i).f2.length c4) ∧ w.cell? ⟨(ad.add (i.toNat * 6)).block, (ad.add (i.toNat * 6)).off + 5, none⟩ = some (.int .i64 (rd_T32 xs i).f3) ∧ (rd_T32 xs i).f2.length ≤ c4 ∧ k29.C w A4 (rd_T32 xs i).f2.length (rd_T32 xs i).f2 := by
  obtain ⟨ad, c, e, _, hK, hc0⟩ := Kd.C_get h z32 i h0 h1
  have hc : ∀ j u, c[j]? = some u → w.cell? (ad.add (i.toNat * 6 + j)) = some u := hc0
  obtain ⟨A4, c4, rfl, l4, g4⟩ := k32_open hK
  exact ⟨ad, A4, c4, e, hc 0 _ rfl, by rw [← add_field _ _ 1 (by omega)]; exact hc 1 _ rfl, by rw [← add_field _ _ 2 (by omega)]; exact hc 2 _ rfl, by rw [← add_field _ _ 3 (by omega)]; exact hc 3 _ rfl, by rw [← add_field _ _ 4 (by omega)]; exact hc 4 _ rfl, by rw [← add_field _ _ 5 (by omega)]; exact hc 5 _ rfl, l4, g4⟩

end Go.Proofs.Ytmnjkdbopafkfaa.QFnIntervalOrder
