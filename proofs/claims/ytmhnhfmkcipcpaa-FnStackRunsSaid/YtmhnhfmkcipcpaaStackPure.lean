/- Stacks by definition, with copies: steps and what they tell. Of no program. -/
import Derived.Test.YtmhnhfmkcipcpaaHeapPure
import Derived.Test.YtmhnhfmkcipcpaaSeen
namespace Go.Proofs.Ytmhnhfmkcipcpaa.StackPure
open Go.Proofs.Ytmhnhfmkcipcpaa.HeapPure Go.Proofs.Ytmhnhfmkcipcpaa.Seen
/-- The last number, or nought. -/
def top (xs : List Int) : Int := at_ xs (xs.length - 1)

/-- Which stack a step is on. -/
def on (L : List (List Int)) (o : Int) : Nat := (o % (L.length : Int)).toNat
def stepS (L : List (List Int)) (a : St) : List (List Int) :=
  let b := L.getD (on L a.1) []
  if a.2.1 = 0 then L.set (on L a.1) (b ++ [a.2.2.1]) else if a.2.1 = 1 then L.set (on L a.1) (b.take (b.length - 1)) else if a.2.1 = 4 then L ++ [b] else L
def tellS (L : List (List Int)) (a : St) : Int × Bool :=
  let b := L.getD (on L a.1) []
  if a.2.1 = 1 ∨ a.2.1 = 2 then (top b, false) else if a.2.1 = 3 then ((b.length : Int), false) else (0, false)
def toldS : List (List Int) → List St → List (Int × Bool)
  | _, [] => []
  | L, a :: l => tellS L a :: toldS (stepS L a) l
theorem toldS_length : ∀ (l : List St) (L : List (List Int)), (toldS L l).length = l.length
  | [], _ => rfl
  | a :: l, L => by simp [toldS, toldS_length l]
theorem on_lt (L : List (List Int)) (o : Int) (h : L ≠ []) : on L o < L.length := by
  have hp : 0 < L.length := List.length_pos_iff.2 h
  have h1 := Int.emod_nonneg o (show (L.length : Int) ≠ 0 by omega)
  have h2 := Int.emod_lt_of_pos o (show (0 : Int) < L.length by omega)
  unfold on
  omega
end Go.Proofs.Ytmhnhfmkcipcpaa.StackPure
