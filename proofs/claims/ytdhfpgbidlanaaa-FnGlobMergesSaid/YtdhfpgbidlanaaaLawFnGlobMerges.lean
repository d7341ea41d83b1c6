/- The law's row, out of its contract and of the law in plain numbers and lists: no condition. -/
import Derived.Test.YtdhfpgbidlanaaaRows
import Derived.Test.YtdhfpgbidlanaaaQFnGlobMergesx4
import Derived.Test.YtdhfpgbidlanaaaPureFnGlobMerges
import Derived.Test.YtdhfpgbidlanaaaOpen
import Derived.WalkKit
import Derived.ProofKit
import Derived.OpenShut
import Derived.ShutString
import Derived.ChangeOld
import Derived.Below
import Derived.SizedLaws
namespace Go.Proofs.Ytdhfpgbidlanaaa.fnGlobMerges
open Go Go.ChangeShapes Go.WideShapes Go.ChangeAt Go.RowKit Go.Proofs.YtdhfpgbidlanaaaW.PrintWords Go.Proofs.Ytdhfpgbidlanaaa.QFnGlobMerges
open Go.ChangeMaps (open_string shut_string)
set_option linter.unusedVariables false
theorem own : ownKnob Try.prog.godebug = none := by kernel_rfl
theorem laidOut : laidOutB Try.prog = true := by kernel_rfl

set_option maxRecDepth 100000 in
theorem lifted (os : Os) (started : os.Started) (H : Type) (enc : TypeId × Value → H) :
    ReturnsInHanded {} Try.checked os 7 .any (Rows.fnGlobMergesSpec.pre6 enc Try.prog Try.f7 Rows.fnGlobMergesRow.domain false) (Rows.fnGlobMergesSpec.post enc Try.prog Try.f7 false true false false) := by
  refine returnsInHanded_of_change_sized (C := Try.checked) own started (by kernel_rfl) Try.func7
    (ChangeSpec.witness6 (enc := enc) (C := Try.checked) false ⟨#[], #[.slice none 0 0, .slice none 0 0, .slice none 0 0], []⟩ 8 (by kernel_rfl) (by kernel_rfl) (by kernel_rfl) (by kernel_rfl)) ?_
  intro W base args ds gs before hval0 hW hcnd hsz0 _
  have hsz : (DataW.weightsEach Try.prog (Try.f7.params.toList ++ Rows.fnGlobMergesSpec.plain.varTypes Try.prog) (ds ++ gs)).all (· ≤ reachBytes) = true := hsz0
  have hval : ∀ (j : Nat) t v, Try.f7.params[j]? = some t → args[j]? = some v → Value.okWide Try.prog W .any base t v := hval0
  have hW' := hW
  obtain ⟨p, q, hA0, hV, rfl, hfz, hnd⟩ := hW
  have hA : DataW.TrodAll enc Try.prog W 0 (fun _ => true) true Try.f7.params.toList args.toList ds p := hA0
  rw [Try.params7] at hA hval hsz
  obtain ⟨v0, vs0, d0, ds0, p0, q0, hargs, rfl, rfl, h0, r0⟩ := trodAll_cons hA
  obtain ⟨v1, vs1, d1, ds1, p1, q1, rfl, rfl, rfl, h1, r1⟩ := trodAll_cons r0
  obtain ⟨v2, vs2, d2, ds2, p2, q2, rfl, rfl, rfl, h2, r2⟩ := trodAll_cons r1
  obtain ⟨rfl, rfl, rfl⟩ := trodAll_nil r2
  obtain rfl : args = #[v0, v1, v2] := by cases args; simp_all
  obtain ⟨rfl, rfl⟩ := trodVars_none hV
  have k0 := h0
  have lt0 := Open.trod_blocks k0
  obtain ⟨A0, c0, l0, rfl, hc0, hm0, hr0, ok0⟩ := Open.open_arg (d := Kd.string) (Open.reads_string Try.underlying9 (by kernel_rfl)) Try.underlying29 (hval 0 29 v0 rfl rfl) h0
  have k1 := h1
  have lt1 := Open.trod_blocks k1
  obtain ⟨A1, c1, l1, rfl, hc1, hm1, hr1, ok1⟩ := Open.open_arg (d := Kd.string) (Open.reads_string Try.underlying9 (by kernel_rfl)) Try.underlying29 (hval 1 29 v1 rfl rfl) h1
  have k2 := h2
  have lt2 := Open.trod_blocks k2
  obtain ⟨A2, c2, l2, rfl, hc2, hm2, hr2, ok2⟩ := Open.open_arg (d := Kd.string) (Open.reads_string Try.underlying9 (by kernel_rfl)) Try.underlying29 (hval 2 29 v2 rfl rfl) h2
  clear hA0 hval0 hsz0 hsz
  obtain ⟨kk_, hk_⟩ := (Merges.merges l0 l1 l2 )
  refine (laws_FnGlobMerges.calls kk_ A0 c0 l0 A1 c1 l1 A2 c2 l2 true W hr0 hc0 hr1 hc1 hr2 hc2 hk_).mono fun e W' ⟨he, bel0⟩ => ?_
  have bel : Below W.heap.size W W' := bel0
  subst he
  exact ⟨_, rfl, _, _, _, [], _, [], hW', trodAll_mk1 (shut_bool Try.underlying4 _), (trodAll_cons_mk (Below.trod laidOut (by kernel_rfl) (of_decide_eq_true (by kernel_rfl)) k0 bel lt0) (trodAll_cons_mk (Below.trod laidOut (by kernel_rfl) (of_decide_eq_true (by kernel_rfl)) k1 bel lt1) (trodAll_cons_mk (Below.trod laidOut (by kernel_rfl) (of_decide_eq_true (by kernel_rfl)) k2 bel lt2) trodAll_mk0))), rfl, bel.frame _, fun h => by cases h⟩
theorem over : Rows.fnGlobMergesRow.holds Try.pinned (OpenSpec.ofChange Rows.fnGlobMergesSpec) :=
  OpenClaim.holds_of_wide 7 Try.f7 rfl rfl rfl rfl rfl rfl rfl ⟨rfl, rfl, rfl, rfl, rfl⟩ rfl rfl rfl rfl rfl (by kernel_rfl) Try.func7 (by kernel_rfl)
    (of_decide_eq_true (by kernel_rfl)) (by unfold Func.isWrapper; first | (rw [if_pos (by decide +kernel)]; kernel_rfl) | (rw [if_neg (by decide +kernel)]; exact ⟨rfl, rfl⟩))
    (fun os started H enc _ => lifted os started H enc)
theorem proved : Rows.FnGlobMergesSaid := over
end Go.Proofs.Ytdhfpgbidlanaaa.fnGlobMerges
namespace Go.Proofs.Ytdhfpgbidlanaaa
/-- The row, under a short name, for the claim. -/
theorem fnGlobMerges_holds : Rows.FnGlobMergesSaid := fnGlobMerges.proved
#print axioms fnGlobMerges_holds
end Go.Proofs.Ytdhfpgbidlanaaa
