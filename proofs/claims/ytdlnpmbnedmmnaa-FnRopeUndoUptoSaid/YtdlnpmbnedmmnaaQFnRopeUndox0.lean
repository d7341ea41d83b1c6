/- The machine's side of a law, as the kit's print writes it; of the functions that the print doesn't cover this session's own contracts stand in it: no condition. -/
import Derived.Test.YtdlnpmbnedmmnaaProg
import Derived.Below
import Derived.Deep.Draws
import Derived.Deep.AppendLies
import Derived.Maps.AppendAt
import Derived.OwnWalk
import Derived.Laws.BytesArg
import Derived.Laws.MakeOwn
import Derived.Laws.OwnMore
import Derived.Deep.OwnRows
import Derived.Tactics
import Derived.Lib.ConvBytes
import Derived.Laws.Slices
import Derived.WalkKit
import Derived.KernelRfl
import Derived.RowKit3
import Derived.Deep.LoopGhost
import Derived.Deep.QuietTactic
import Derived.BigQuiet
import Derived.WideLaws
import Derived.Deep.DeepCutAuto
import Derived.Deep.CutBlock
import Derived.Deep.RegionHeld3
import Derived.Laws.Rows
import Derived.Lib.AppendStr
import Derived.ArgAppend
import Derived.Laws.IdiomCopy
import Derived.OrdersHeld
import Derived.Laws.BitsLemmas
import Derived.RowKit
import Derived.Laws.Cover1
import Derived.Test.YtdlnpmbnedmmnaaWWords
import Derived.Test.YtdlnpmbnedmmnaaWLast
import Derived.Test.YtdlnpmbnedmmnaaWTab
import Derived.Test.YtdlnpmbnedmmnaaWFour
import Derived.Test.YtdlnpmbnedmmnaaWQPut
import Derived.Test.YtdlnpmbnedmmnaaWApart
import Derived.Test.YtdlnpmbnedmmnaaWArr
import Derived.Test.YtdlnpmbnedmmnaaWZeros
import Derived.Test.YtdlnpmbnedmmnaaWFoot
import Derived.Test.YtdlnpmbnedmmnaaWKept
import Derived.Test.YtdlnpmbnedmmnaaWShare
import Derived.Test.YtdlnpmbnedmmnaaWN
import Derived.Test.YtdlnpmbnedmmnaaWFootNe
import Derived.Test.YtdlnpmbnedmmnaaWAt
import Derived.Test.YtdlnpmbnedmmnaaWEqStruct
import Derived.Test.YtdlnpmbnedmmnaaWRepsOne
import Derived.Test.YtdlnpmbnedmmnaaWInv
import Derived.Test.YtdlnpmbnedmmnaaWInvWords
import Derived.Test.YtdlnpmbnedmmnaaWGuard
import Derived.Test.YtdlnpmbnedmmnaaWNEv
import Derived.Test.YtdlnpmbnedmmnaaWMore
namespace Go.Proofs.Ytdlnpmbnedmmnaa.QFnRopeUndo
open Go.RowKit Go.Proofs.YtdlnpmbnedmmnaaW.PrintWords Go.Proofs.YtdlnpmbnedmmnaaW.PrintLast Go.Proofs.YtdlnpmbnedmmnaaW.PrintMore
attribute [local go_sem] max2_int min2_int max_two min_two max_three min_three max_four min_four   -- for this text's walks alone
set_option linter.unusedVariables false
set_option linter.unusedSimpArgs false



def errW : Option Int → Value
  | none => .nilIface
  | some c => .iface 0 (.int .i64 c)
theorem errW_none : errW none = .nilIface := rfl
theorem errW_some (c : Int) : errW (some c) = .iface 0 (.int .i64 c) := rfl

theorem info3 : (Try.prog.info? 3).map (fun i => (i.zero, i.size, i.bytes)) = some (some (.int .i64 0), 1, 8) := by kernel_rfl
theorem info34 : (Try.prog.info? 34).map (fun i => (i.zero, i.size, i.bytes)) = some (some (.agg #[(.int .i64 0), (.slice none 0 0), (.slice none 0 0)]), 3, 56) := by kernel_rfl
theorem info38 : (Try.prog.info? 38).map (fun i => (i.zero, i.size, i.bytes)) = some (some (.agg #[(.int .i64 0), (.int .i64 0), (.int .i64 0), (.slice none 0 0)]), 4, 48) := by kernel_rfl
-- the values' own types
def rd_L1 (xs : List (List Int)) (i : Int) : (List Int) := xs.getD i.toNat ([] : List Int)
theorem at_L1 {w : World} {A : Option Addr} {n : Nat} {xs : List (List Int)} (h : Kd.C (Kd.slice 3 (Kd.int .i64)) w A n xs) (i : Int) (h0 : 0 ≤ i) (h1 : i < n) : ∃ ad A0 c0, A = some ad ∧ w.cell? (ad.add i.toNat) = some (.slice A0 (rd_L1 xs i).length c0) ∧ (rd_L1 xs i).length ≤ c0 ∧ (Kd.int .i64).C w A0 (rd_L1 xs i).length (rd_L1 xs i) := by
  obtain ⟨ad, c, e, _, hK, hc0⟩ := Kd.C_get h ([] : List Int) i h0 h1
  have hc : ∀ j u, c[j]? = some u → w.cell? (ad.add (i.toNat * 1 + j)) = some u := hc0
  obtain ⟨A0, c0, rfl, l0, g0⟩ := hK
  exact ⟨ad, A0, c0, e, by have hq := hc 0 _ rfl; rwa [Nat.mul_one, Nat.add_zero] at hq, l0, g0⟩

/-! #### struct type 38 -/
structure S38 where
  f0 : Int
  f1 : Int
  f2 : Int
  f3 : (List Int)
def z38 : S38 := ⟨(0 : Int), (0 : Int), (0 : Int), ([] : List Int)⟩
def k38 : Kd S38 := Kd.iso (Kd.pair (Kd.int .i64) (Kd.pair (Kd.int .i64) (Kd.pair (Kd.int .i64) (Kd.slice 3 (Kd.int .i64))))) (fun x : S38 => (x.f0, x.f1, x.f2, x.f3))
theorem k38_heap : Kd.Heap k38 := Kd.heap_iso _ (Kd.heap_pair (Kd.heap_int .i64) (Kd.heap_pair (Kd.heap_int .i64) (Kd.heap_pair (Kd.heap_int .i64) (Kd.heap_slice 3 (Kd.heap_int .i64)))))
theorem k38_open {w : World} {x : S38} {cs : List Value} (h : k38.K w x cs) : ∃ A3 c3, cs = [.int .i64 x.f0, .int .i64 x.f1, .int .i64 x.f2, .slice A3 x.f3.length c3] ∧ x.f3.length ≤ c3 ∧ (Kd.int .i64).C w A3 x.f3.length x.f3 := by
  obtain ⟨_, _, rfl, rfl, ⟨_, _, rfl, rfl, ⟨_, _, rfl, rfl, ⟨A3, c3, rfl, l3, g3⟩⟩⟩⟩ := h
  exact ⟨A3, c3, rfl, l3, g3⟩
theorem k38_openM {w : World} {base : Nat} {ok : Nat → Prop} {x : S38} {cs : List Value} (h : k38.M w base ok x cs) : ∃ v3, cs = [.int .i64 x.f0, .int .i64 x.f1, .int .i64 x.f2, v3] ∧ (Kd.int .i64).R 3 w base ok v3 x.f3 := by
  obtain ⟨_, _, rfl, rfl, ⟨_, _, rfl, rfl, ⟨_, _, rfl, rfl, ⟨v3, rfl, g3⟩⟩⟩⟩ := h
  exact ⟨v3, rfl, g3⟩
theorem k38_mk (w : World) (x : S38) {A3 : Option Addr} {c3 : Nat} (l3 : x.f3.length ≤ c3) (g3 : (Kd.int .i64).C w A3 x.f3.length x.f3) : k38.K w x [.int .i64 x.f0, .int .i64 x.f1, .int .i64 x.f2, .slice A3 x.f3.length c3] := ⟨[.int .i64 x.f0], [.int .i64 x.f1, .int .i64 x.f2, .slice A3 x.f3.length c3], rfl, rfl, ⟨[.int .i64 x.f1], [.int .i64 x.f2, .slice A3 x.f3.length c3], rfl, rfl, ⟨[.int .i64 x.f2], [.slice A3 x.f3.length c3], rfl, rfl, ⟨A3, c3, rfl, l3, g3⟩⟩⟩⟩
theorem k38_mkM (w : World) (base : Nat) (ok : Nat → Prop) (x : S38) {v3 : Value} (g3 : (Kd.int .i64).R 3 w base ok v3 x.f3) : k38.M w base ok x [.int .i64 x.f0, .int .i64 x.f1, .int .i64 x.f2, v3] := ⟨[.int .i64 x.f0], [.int .i64 x.f1, .int .i64 x.f2, v3], rfl, rfl, ⟨[.int .i64 x.f1], [.int .i64 x.f2, v3], rfl, rfl, ⟨[.int .i64 x.f2], [v3], rfl, rfl, ⟨v3, rfl, g3⟩⟩⟩⟩
theorem k38_openF {W : World} {ok : Nat → Prop} {x : S38} {cs : List Value} (h : Kd.FK k38 W ok x cs) : ∃ A3 c3, cs = [.int .i64 x.f0, .int .i64 x.f1, .int .i64 x.f2, .slice A3 x.f3.length c3] ∧ x.f3.length ≤ c3 ∧ Kd.F (Kd.int .i64) W ok A3 x.f3.length x.f3 := by
  obtain ⟨A3, c3, rfl, l3, _⟩ := k38_open (Kd.FK_now h)
  exact ⟨A3, c3, rfl, l3, (fun W' hW => by obtain ⟨A3_, c3_, he, l3_, g3_⟩ := k38_open (h W' hW); injection (Option.some.inj (show some (Value.slice A3 x.f3.length c3) = some (Value.slice A3_ x.f3.length c3_) from congrArg (fun l => l[3]?) he)) with ha_ _ _; rw [ha_]; exact g3_)⟩
theorem k38_mkF (W : World) (ok : Nat → Prop) (x : S38) {A3 : Option Addr} {c3 : Nat} (l3 : x.f3.length ≤ c3) (g3 : Kd.F (Kd.int .i64) W ok A3 x.f3.length x.f3) : Kd.FK k38 W ok x [.int .i64 x.f0, .int .i64 x.f1, .int .i64 x.f2, .slice A3 x.f3.length c3] := fun W2 hW => k38_mk W2 x l3 (g3 W2 hW)
def rd_T38 (xs : List S38) (i : Int) : S38 := xs.getD i.toNat z38
theorem at_T38 {w : World} {A : Option Addr} {n : Nat} {xs : List S38} (h : Kd.C k38 w A n xs) (i : Int) (h0 : 0 ≤ i) (h1 : i < n) : ∃ ad A3 c3, A = some ad ∧ w.cell? (ad.add (i.toNat * 4)) = some (.int .i64 (rd_T38 xs i).f0) ∧ w.cell? ⟨(ad.add (i.toNat * 4)).block, (ad.add (i.toNat * 4)).off + 1, none⟩ = some (.int .i64 (rd_T38 xs i).f1) ∧ w.cell? ⟨(ad.add (i.toNat * 4)).block, (ad.add (i.toNat * 4)).off + 2, none⟩ = some (.int .i64 (rd_T38 xs i).f2) ∧ w.cell? ⟨(ad.add (i.toNat * 4)).block, (ad.add (i.toNat * 4)).off + 3, none⟩ = some (.slice A3 (rd_T38 xs i).f3.length c3) ∧ (rd_T38 xs i).f3.length ≤ c3 ∧ (Kd.int .i64).C w A3 (rd_T38 xs i).f3.length (rd_T38 xs i).f3 := by
  obtain ⟨ad, c, e, _, hK, hc0⟩ := Kd.C_get h z38 i h0 h1
  have hc : ∀ j u, c[j]? = some u → w.cell? (ad.add (i.toNat * 4 + j)) = some u := hc0
  obtain ⟨A3, c3, rfl, l3, g3⟩ := k38_open hK
  exact ⟨ad, A3, c3, e, hc 0 _ rfl, by rw [← add_field _ _ 1 (by omega)]; exact hc 1 _ rfl, by rw [← add_field _ _ 2 (by omega)]; exact hc 2 _ rfl, by rw [← add_field _ _ 3 (by omega)]; exact hc 3 _ rfl, l3, g3⟩

/-! #### struct type 34 -/
structure S34 where
  f0 : Int
  f1 : (List Int)
  f2 : (List Int)
def z34 : S34 := ⟨(0 : Int), ([] : List Int), ([] : List Int)⟩
def k34 : Kd S34 := Kd.iso (Kd.pair (Kd.int .i64) (Kd.pair (Kd.slice 3 (Kd.int .i64)) (Kd.slice 3 (Kd.int .i64)))) (fun x : S34 => (x.f0, x.f1, x.f2))
theorem k34_heap : Kd.Heap k34 := Kd.heap_iso _ (Kd.heap_pair (Kd.heap_int .i64) (Kd.heap_pair (Kd.heap_slice 3 (Kd.heap_int .i64)) (Kd.heap_slice 3 (Kd.heap_int .i64))))
theorem k34_open {w : World} {x : S34} {cs : List Value} (h : k34.K w x cs) : ∃ A1 c1 A2 c2, cs = [.int .i64 x.f0, .slice A1 x.f1.length c1, .slice A2 x.f2.length c2] ∧ x.f1.length ≤ c1 ∧ (Kd.int .i64).C w A1 x.f1.length x.f1 ∧ x.f2.length ≤ c2 ∧ (Kd.int .i64).C w A2 x.f2.length x.f2 := by
  obtain ⟨_, _, rfl, rfl, ⟨_, _, rfl, ⟨A1, c1, rfl, l1, g1⟩, ⟨A2, c2, rfl, l2, g2⟩⟩⟩ := h
  exact ⟨A1, c1, A2, c2, rfl, l1, g1, l2, g2⟩
theorem k34_openM {w : World} {base : Nat} {ok : Nat → Prop} {x : S34} {cs : List Value} (h : k34.M w base ok x cs) : ∃ v1 v2, cs = [.int .i64 x.f0, v1, v2] ∧ (Kd.int .i64).R 3 w base ok v1 x.f1 ∧ (Kd.int .i64).R 3 w base ok v2 x.f2 := by
  obtain ⟨_, _, rfl, rfl, ⟨_, _, rfl, ⟨v1, rfl, g1⟩, ⟨v2, rfl, g2⟩⟩⟩ := h
  exact ⟨v1, v2, rfl, g1, g2⟩
theorem k34_mk (w : World) (x : S34) {A1 : Option Addr} {c1 : Nat} (l1 : x.f1.length ≤ c1) (g1 : (Kd.int .i64).C w A1 x.f1.length x.f1) {A2 : Option Addr} {c2 : Nat} (l2 : x.f2.length ≤ c2) (g2 : (Kd.int .i64).C w A2 x.f2.length x.f2) : k34.K w x [.int .i64 x.f0, .slice A1 x.f1.length c1, .slice A2 x.f2.length c2] := ⟨[.int .i64 x.f0], [.slice A1 x.f1.length c1, .slice A2 x.f2.length c2], rfl, rfl, ⟨[.slice A1 x.f1.length c1], [.slice A2 x.f2.length c2], rfl, ⟨A1, c1, rfl, l1, g1⟩, ⟨A2, c2, rfl, l2, g2⟩⟩⟩
theorem k34_mkM (w : World) (base : Nat) (ok : Nat → Prop) (x : S34) {v1 : Value} (g1 : (Kd.int .i64).R 3 w base ok v1 x.f1) {v2 : Value} (g2 : (Kd.int .i64).R 3 w base ok v2 x.f2) : k34.M w base ok x [.int .i64 x.f0, v1, v2] := ⟨[.int .i64 x.f0], [v1, v2], rfl, rfl, ⟨[v1], [v2], rfl, ⟨v1, rfl, g1⟩, ⟨v2, rfl, g2⟩⟩⟩
theorem k34_openF {W : World} {ok : Nat → Prop} {x : S34} {cs : List Value} (h : Kd.FK k34 W ok x cs) : ∃ A1 c1 A2 c2, cs = [.int .i64 x.f0, .slice A1 x.f1.length c1, .slice A2 x.f2.length c2] ∧ x.f1.length ≤ c1 ∧ Kd.F (Kd.int .i64) W ok A1 x.f1.length x.f1 ∧ x.f2.length ≤ c2 ∧ Kd.F (Kd.int .i64) W ok A2 x.f2.length x.f2 := by
  obtain ⟨A1, c1, A2, c2, rfl, l1, _, l2, _⟩ := k34_open (Kd.FK_now h)
  exact ⟨A1, c1, A2, c2, rfl, l1, (fun W' hW => by obtain ⟨A1_, c1_, A2_, c2_, he, l1_, g1_, l2_, g2_⟩ := k34_open (h W' hW); injection (Option.some.inj (show some (Value.slice A1 x.f1.length c1) = some (Value.slice A1_ x.f1.length c1_) from congrArg (fun l => l[1]?) he)) with ha_ _ _; rw [ha_]; exact g1_), l2, (fun W' hW => by obtain ⟨A1_, c1_, A2_, c2_, he, l1_, g1_, l2_, g2_⟩ := k34_open (h W' hW); injection (Option.some.inj (show some (Value.slice A2 x.f2.length c2) = some (Value.slice A2_ x.f2.length c2_) from congrArg (fun l => l[2]?) he)) with ha_ _ _; rw [ha_]; exact g2_)⟩
theorem k34_mkF (W : World) (ok : Nat → Prop) (x : S34) {A1 : Option Addr} {c1 : Nat} (l1 : x.f1.length ≤ c1) (g1 : Kd.F (Kd.int .i64) W ok A1 x.f1.length x.f1) {A2 : Option Addr} {c2 : Nat} (l2 : x.f2.length ≤ c2) (g2 : Kd.F (Kd.int .i64) W ok A2 x.f2.length x.f2) : Kd.FK k34 W ok x [.int .i64 x.f0, .slice A1 x.f1.length c1, .slice A2 x.f2.length c2] := fun W2 hW => k34_mk W2 x l1 (g1 W2 hW) l2 (g2 W2 hW)
def rd_T34 (xs : List S34) (i : Int) : S34 := xs.getD i.toNat z34
theorem at_T34 {w : World} {A : Option Addr} {n : Nat} {xs : List S34} (h : Kd.C k34 w A n xs) (i : Int) (h0 : 0 ≤ i) (h1 : i < n) : ∃ ad A1 c1 A2 c2, A = some ad ∧ w.cell? (ad.add (i.toNat * 3)) = some (.int .i64 (rd_T34 xs i).f0) ∧ w.cell? ⟨(ad.add (i.toNat * 3)).block, (ad.add (i.toNat * 3)).off + 1, none⟩ = some (.slice A1 (rd_T34 xs i).f1.length c1) ∧ w.cell? ⟨(ad.add (i.toNat * 3)).block, (ad.add (i.toNat * 3)).off + 2, none⟩ = some (.slice A2 (rd_T34 xs i).f2.length c2) ∧ (rd_T34 xs i).f1.length ≤ c1 ∧ (Kd.int .i64).C w A1 (rd_T34 xs i).f1.length (rd_T34 xs i).f1 ∧ (rd_T34 xs i).f2.length ≤ c2 ∧ (Kd.int .i64).C w A2 (rd_T34 xs i).f2.length (rd_T34 xs i).f2 := by
  obtain ⟨ad, c, e, _, hK, hc0⟩ := Kd.C_get h z34 i h0 h1
  have hc : ∀ j u, c[j]? = some u → w.cell? (ad.add (i.toNat * 3 + j)) = some u := hc0
  obtain ⟨A1, c1, A2, c2, rfl, l1, g1, l2, g2⟩ := k34_open hK
  exact ⟨ad, A1, c1, A2, c2, e, hc 0 _ rfl, by rw [← add_field _ _ 1 (by omega)]; exact hc 1 _ rfl, by rw [← add_field _ _ 2 (by omega)]; exact hc 2 _ rfl, l1, g1, l2, g2⟩

end Go.Proofs.Ytdlnpmbnedmmnaa.QFnRopeUndo
