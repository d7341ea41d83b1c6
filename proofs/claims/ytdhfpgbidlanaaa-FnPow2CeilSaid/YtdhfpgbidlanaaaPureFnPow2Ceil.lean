/- The least power of two that is not below a number from 1 to 2^63 is told, for every number of 64 bits: no condition. -/
import Derived.Test.YtdhfpgbidlanaaaPFnPow2Ceilx1
import Derived.IntWalk
namespace Go.Proofs.Ytdhfpgbidlanaaa.Pure
open Go.RowKit Go.IntWalk Go.Proofs.Ytdhfpgbidlanaaa.PFnPow2Ceil Go.Proofs.YtdhfpgbidlanaaaW.PrintWords Go.Proofs.YtdhfpgbidlanaaaW.PrintLast

theorem p2_wrap {x n : Int} (h1 : 1 ≤ x) (h : x < n) (hn : n ≤ 9223372036854775808) : IntKind.u64.wrap (x * 2) = x * 2 := by
  rw [IntKind.wrap_u64]; omega

/-- The doubling loop of the code, and that of the law, come to one number. -/
theorem p2_loop (n : Int) (hn : n ≤ 9223372036854775808) (d : Nat) : ∀ x : Int, 1 ≤ x → (n - x).toNat ≤ d →
    ∃ p, Ev (fun k => hashmap_pow2ceil.l0 k n x) p ∧ ∀ q, Ev (fun k => impl_Pow2Ceil.f k n) q → Ev (fun k => laws_FnPow2Ceil.l0 k n x) (q == p) := by
  induction d with
  | zero =>
    intro x h1 hd
    have hx : ¬ x < n := by omega
    refine ⟨x, Ev.step (f := fun _ => some x) (fun k => ?_) (Ev.now _), fun q hq => Ev.step (f := fun k => (impl_Pow2Ceil.f k n).bind fun t => some (t == x)) (fun k => ?_) (Ev.bind hq (Ev.now _))⟩
    · simp only [hashmap_pow2ceil.l0]; rw [if_neg hx]
    · simp only [laws_FnPow2Ceil.l0]; rw [if_neg hx]
  | succ d ih =>
    intro x h1 hd
    by_cases hx : x < n
    · have hw := p2_wrap h1 hx hn
      obtain ⟨p, hp, hl⟩ := ih (x * 2) (by omega) (by omega)
      refine ⟨p, Ev.step (fun k => ?_) hp, fun q hq => Ev.step (fun k => ?_) (hl q hq)⟩
      · simp only [hashmap_pow2ceil.l0]; rw [if_pos hx, hw]
      · simp only [laws_FnPow2Ceil.l0]; rw [if_pos hx, hw]
    · refine ⟨x, Ev.step (f := fun _ => some x) (fun k => ?_) (Ev.now _), fun q hq => Ev.step (f := fun k => (impl_Pow2Ceil.f k n).bind fun t => some (t == x)) (fun k => ?_) (Ev.bind hq (Ev.now _))⟩
      · simp only [hashmap_pow2ceil.l0]; rw [if_neg hx]
      · simp only [laws_FnPow2Ceil.l0]; rw [if_neg hx]

theorem FnPow2Ceil : laws_FnPow2Ceil.Pure := by
  intro n hwf
  by_cases h1 : n < 1
  · refine ⟨1, ?_⟩
    unfold laws_FnPow2Ceil.f
    rw [if_pos h1]; simp [laws_FnPow2Ceil.j0]
  · by_cases h2 : n > 9223372036854775808
    · refine ⟨1, ?_⟩
      unfold laws_FnPow2Ceil.f
      rw [if_neg h1, decide_eq_true h2]; simp [laws_FnPow2Ceil.j0]
    · obtain ⟨p, hp, hl⟩ := p2_loop n (by omega) (n - 1).toNat 1 (by omega) (by omega)
      have hi : Ev (fun k => impl_Pow2Ceil.f k n) p := by
        unfold impl_Pow2Ceil.f hashmap_ZzPow2ceil.f hashmap_pow2ceil.f
        exact Ev.bind (Ev.bind hp (Ev.now _)) (Ev.now _)
      have h := hl p hi
      rw [beq_self_eq_true] at h
      have h' : Ev (fun k => laws_FnPow2Ceil.f k n) true := by
        refine Ev.step (fun k => ?_) h
        unfold laws_FnPow2Ceil.f
        rw [if_neg h1, decide_eq_false h2]; simp [laws_FnPow2Ceil.j0]
      exact h'.rounds

end Go.Proofs.Ytdhfpgbidlanaaa.Pure
