/- Stacks tell what stacks by definition tell: for every script. -/
import Derived.Test.YtmhnhfmkcipcpaaQFnStackRunsx3
import Derived.IntWalk
namespace Go.Proofs.Ytmhnhfmkcipcpaa.Pure
open Go.RowKit Go.IntWalk Go.Proofs.Ytmhnhfmkcipcpaa.QFnStackRuns Go.Proofs.YtmhnhfmkcipcpaaW.PrintWords Go.Proofs.YtmhnhfmkcipcpaaW.PrintLast

theorem w1 (q : Nat) (h : q ≤ 1099511627776) : wrap64 ((q : Int) + 1) = ((q + 1 : Nat) : Int) := by rw [wrap64_in _ (by omega)]; rfl
theorem same_row (xs : List Int) (hl : xs.length ≤ 1099511627776) (d : Nat) : ∀ j : Nat, j + d = xs.length → Ev (fun k => spec_Same.l0 k xs xs j) true := by
  induction d with
  | zero =>
    intro j hj
    refine Ev.step (f := fun _ => some true) (fun k => ?_) (Ev.now _)
    simp only [spec_Same.l0]
    rw [if_neg (by omega)]
  | succ d ih =>
    intro j hj
    refine Ev.step (fun k => ?_) (ih (j + 1) (by omega))
    simp only [spec_Same.l0]
    rw [if_pos (by omega), if_pos (by omega), if_pos (by omega), if_pos (by first | rfl | trivial), w1 j (by omega)]
theorem same_ev (xs : List Int) (hl : xs.length ≤ 1099511627776) : Ev (fun k => spec_Same.f k xs xs) true := by
  refine Ev.congr (fun k => ?_) (same_row xs hl xs.length 0 (Nat.zero_add _))
  unfold spec_Same.f
  rw [if_pos rfl]
  rfl
theorem rd_seen {l : List S34} {i : Nat} {x : S34} (h : l[i]? = some x) : rd_T34 l (i : Int) = x := by simp [rd_T34, List.getD_eq_getElem?_getD, h]
/-- Steps that told the same are found to have done so. -/
theorem seen_same (l : List S34) (hl : l.length ≤ 1099511627776) (hr : ∀ x ∈ l, x.f2.length ≤ 1099511627776 ∧ x.f3.length ≤ 1099511627776) (d : Nat) : ∀ j : Nat, j + d = l.length → Ev (fun k => spec_SeenSame.l0 k l l j) true := by
  induction d with
  | zero =>
    intro j hj
    refine Ev.step (f := fun _ => some true) (fun k => ?_) (Ev.now _)
    simp only [spec_SeenSame.l0]
    rw [if_neg (by omega)]
  | succ d ih =>
    intro j hj
    have hjl : j < l.length := by omega
    have hx : l[j]? = some l[j] := List.getElem?_eq_getElem hjl
    have hm := hr l[j] (List.getElem_mem hjl)
    generalize l[j] = x at hx hm
    obtain ⟨K1, h1⟩ := same_ev x.f2 hm.1
    obtain ⟨K2, h2⟩ := same_ev x.f3 hm.2
    obtain ⟨K3, h3⟩ := ih (j + 1) (by omega)
    refine ⟨K1 + K2 + K3 + 1, fun k hk => ?_⟩
    obtain ⟨m, rfl⟩ : ∃ m, k = m + 1 := ⟨k - 1, by omega⟩
    have h1' : spec_Same.f m x.f2 x.f2 = some true := h1 m (by omega)
    have h2' : spec_Same.f m x.f3 x.f3 = some true := h2 m (by omega)
    have h3' : spec_SeenSame.l0 m l l ((j + 1 : Nat) : Int) = some true := h3 m (by omega)
    simp only [spec_SeenSame.l0]
    rw [if_pos (by omega), if_pos (by omega), if_pos (by omega), rd_seen hx, if_pos (by first | rfl | trivial), if_neg (by simp), h1', Option.bind_some, if_pos rfl, h2', Option.bind_some, if_pos rfl, w1 j (by omega)]
    exact h3'
theorem seenSame_ev (l : List S34) (hl : l.length ≤ 1099511627776) (hr : ∀ x ∈ l, x.f2.length ≤ 1099511627776 ∧ x.f3.length ≤ 1099511627776) : Ev (fun k => spec_SeenSame.f k l l) true := by
  refine Ev.congr (fun k => ?_) (seen_same l hl hr l.length 0 (Nat.zero_add _))
  unfold spec_SeenSame.f
  rw [if_pos rfl]
  rfl
theorem FnStackRuns (l : List S27) : ∃ k, laws_FnStackRuns.f k l = some true := by
  by_cases c1 : (l.length : Int) > 2147483647
  · exact ⟨1, by unfold laws_FnStackRuns.f; rw [if_pos c1]⟩
  have hl : l.length ≤ 2147483647 := by omega
  have h1 : impl_StackRun.f l = some ((StackPure.toldS [[]] (l.map st_of)).map seen_of) := by
    unfold impl_StackRun.f
    rw [if_pos (by omega)]
  have h2 : spec_Stack.f l = some ((StackPure.toldS [[]] (l.map st_of)).map seen_of) := by
    unfold spec_Stack.f
    rw [if_pos (by omega)]
  have hsl : ((StackPure.toldS [[]] (l.map st_of)).map seen_of).length = l.length := by rw [List.length_map, StackPure.toldS_length, List.length_map]
  have hm : ∀ x ∈ (StackPure.toldS [[]] (l.map st_of)).map seen_of, x.f2.length ≤ 1099511627776 ∧ x.f3.length ≤ 1099511627776 := by
    intro x hx
    obtain ⟨y, _, rfl⟩ := List.mem_map.1 hx
    exact ⟨Nat.zero_le _, Nat.zero_le _⟩
  generalize (StackPure.toldS [[]] (l.map st_of)).map seen_of = s at h1 h2 hsl hm
  obtain ⟨K, hK⟩ := seenSame_ev s (by omega) hm
  have h3 : spec_SeenSame.f K s s = some true := hK K (Nat.le_refl _)
  have h4 : ∃ t, impl_StackRun.f [⟨0, 0, 0, 0⟩] = some t ∧ t.length = 1 :=
    ⟨(StackPure.toldS [[]] ([(⟨0, 0, 0, 0⟩ : S27)].map st_of)).map seen_of, by unfold impl_StackRun.f; rw [if_pos (by simp)], by rw [List.length_map, StackPure.toldS_length]; rfl⟩
  obtain ⟨t, h4, h5⟩ := h4
  refine ⟨K, ?_⟩
  unfold laws_FnStackRuns.f
  rw [if_neg c1, h1, Option.bind_some, h2, Option.bind_some, h3, Option.bind_some, if_pos rfl, h4, Option.bind_some, h5]
  rfl
end Go.Proofs.Ytmhnhfmkcipcpaa.Pure
