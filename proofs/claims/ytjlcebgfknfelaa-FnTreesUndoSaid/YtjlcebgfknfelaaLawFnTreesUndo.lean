/- The law's row, out of its contract and of the law in plain numbers and lists: no condition. -/
import Derived.Test.YtjlcebgfknfelaaRows
import Derived.Test.YtjlcebgfknfelaaQFnTreesUndox2
import Derived.Test.YtjlcebgfknfelaaPureFnTreesUndo
import Derived.Test.YtjlcebgfknfelaaOpen
import Derived.WalkKit
import Derived.ProofKit
import Derived.OpenShut
import Derived.ShutString
import Derived.ChangeOld
import Derived.Below
import Derived.SizedLaws
namespace Go.Proofs.Ytjlcebgfknfelaa.fnTreesUndo
open Go Go.ChangeShapes Go.WideShapes Go.ChangeAt Go.RowKit Go.Proofs.YtjlcebgfknfelaaW.PrintWords Go.Proofs.Ytjlcebgfknfelaa.QFnTreesUndo
open Go.ChangeMaps (open_string shut_string)
set_option linter.unusedVariables false
set_option linter.unusedSimpArgs false
theorem own : ownKnob Try.prog.godebug = none := by kernel_rfl
theorem laidOut : laidOutB Try.prog = true := by kernel_rfl
set_option maxRecDepth 100000 in
theorem reads_T66 : Open.Reads Try.prog 66 k66 (fun x => (Lit.int .i64 x.f0).wf = true ∧ (Lit.int .i64 x.f1).wf = true ∧ (Lit.int .i64 x.f2).wf = true) :=
  ⟨by kernel_rfl, fun enc w base spare held _ cs _ h => by
    obtain ⟨xs, n_, _, _, hl, hlen, hf⟩ := DataW.trod_struct Try.underlying66 h
    have hc : Try.prog.cellsOf 66 = 3 := by kernel_rfl
    rw [hc] at hl
    obtain ⟨c0, c1, c2, rfl⟩ : ∃ c0 c1 c2, cs = [c0, c1, c2] := by
      match cs, hl with
      | [c0, c1, c2], _ => exact ⟨c0, c1, c2, rfl⟩
    obtain ⟨y0, y1, y2, rfl⟩ : ∃ y0 y1 y2, xs = [y0, y1, y2] := by
      match xs, hlen with
      | [y0, y1, y2], _ => exact ⟨y0, y1, y2, rfl⟩
    have hc3 : Try.prog.cellsOf 3 = 1 := by kernel_rfl
    have h0 : DataW.trod enc Try.prog w base spare held n_ 3 [c0] = some y0 := by
      have := hf 0 _ rfl
      simp only [List.getElem_toArray, List.getElem_cons_zero, List.getElem_cons_succ, hc3] at this
      exact this
    obtain ⟨a0, k0_, o0⟩ := ((Open.reads_int Try.underlying3 (by kernel_rfl))).2 _ _ _ _ _ _ _ _ h0
    replace k0_ : ((Kd.int .i64)).K w a0 [c0] := k0_
    have h1 : DataW.trod enc Try.prog w base spare held n_ 3 [c1] = some y1 := by
      have := hf 1 _ rfl
      simp only [List.getElem_toArray, List.getElem_cons_zero, List.getElem_cons_succ, hc3] at this
      exact this
    obtain ⟨a1, k1_, o1⟩ := ((Open.reads_int Try.underlying3 (by kernel_rfl))).2 _ _ _ _ _ _ _ _ h1
    replace k1_ : ((Kd.int .i64)).K w a1 [c1] := k1_
    have h2 : DataW.trod enc Try.prog w base spare held n_ 3 [c2] = some y2 := by
      have := hf 2 _ rfl
      simp only [List.getElem_toArray, List.getElem_cons_zero, List.getElem_cons_succ, hc3] at this
      exact this
    obtain ⟨a2, k2_, o2⟩ := ((Open.reads_int Try.underlying3 (by kernel_rfl))).2 _ _ _ _ _ _ _ _ h2
    replace k2_ : ((Kd.int .i64)).K w a2 [c2] := k2_
    exact ⟨⟨a0, a1, a2⟩, ⟨[c0], [c1, c2], rfl, k0_, ⟨[c1], [c2], rfl, k1_, k2_⟩⟩, o0, o1, o2⟩⟩
set_option maxRecDepth 100000 in
theorem lifted (os : Os) (started : os.Started) (H : Type) (enc : TypeId × Value → H) :
    ReturnsInHanded {} Try.checked os 12 .any (Rows.fnTreesUndoSpec.pre6 enc Try.prog Try.f12 Rows.fnTreesUndoRow.domain false) (Rows.fnTreesUndoSpec.post enc Try.prog Try.f12 false true false false) := by
  refine returnsInHanded_of_change_sized (C := Try.checked) own started (by kernel_rfl) Try.func12
    (ChangeSpec.witness6 (enc := enc) (C := Try.checked) false ⟨#[], #[.slice none 0 0, .slice none 0 0, .int .i64 0, .int .i64 0], []⟩ 8 (by kernel_rfl) (by kernel_rfl) (by kernel_rfl) (by kernel_rfl)) ?_
  intro W base args ds gs before hval0 hW hcnd hsz0 _
  have hsz : (DataW.weightsEach Try.prog (Try.f12.params.toList ++ Rows.fnTreesUndoSpec.plain.varTypes Try.prog) (ds ++ gs)).all (· ≤ reachBytes) = true := hsz0
  have hval : ∀ (j : Nat) t v, Try.f12.params[j]? = some t → args[j]? = some v → Value.okWide Try.prog W .any base t v := hval0
  have hW' := hW
  obtain ⟨p, q, hA0, hV, rfl, hfz, hnd⟩ := hW
  have hA : DataW.TrodAll enc Try.prog W 0 (fun _ => true) true Try.f12.params.toList args.toList ds p := hA0
  rw [Try.params12] at hA hval hsz
  obtain ⟨v0, vs0, d0, ds0, p0, q0, hargs, rfl, rfl, h0, r0⟩ := trodAll_cons hA
  obtain ⟨v1, vs1, d1, ds1, p1, q1, rfl, rfl, rfl, h1, r1⟩ := trodAll_cons r0
  obtain ⟨v2, vs2, d2, ds2, p2, q2, rfl, rfl, rfl, h2, r2⟩ := trodAll_cons r1
  obtain ⟨v3, vs3, d3, ds3, p3, q3, rfl, rfl, rfl, h3, r3⟩ := trodAll_cons r2
  obtain ⟨rfl, rfl, rfl⟩ := trodAll_nil r3
  obtain rfl : args = #[v0, v1, v2, v3] := by cases args; simp_all
  obtain ⟨rfl, rfl⟩ := trodVars_none hV
  have k0 := h0
  have lt0 := Open.trod_blocks k0
  obtain ⟨A0, c0, l0, rfl, hc0, hm0, hr0, ok0⟩ := Open.open_arg (d := (Kd.int .i64)) (Open.reads_int Try.underlying3 (by kernel_rfl)) Try.underlying24 (hval 0 24 v0 rfl rfl) h0
  have k1 := h1
  have lt1 := Open.trod_blocks k1
  obtain ⟨A1, c1, l1, rfl, hc1, hm1, hr1, ok1⟩ := Open.open_arg (d := k66) reads_T66 Try.underlying42 (hval 1 42 v1 rfl rfl) h1
  obtain ⟨a2, rfl, rfl, rfl, w2⟩ := open_int Try.underlying3 (hval 2 3 v2 rfl rfl) h2
  obtain ⟨a3, rfl, rfl, rfl, w3⟩ := open_int Try.underlying3 (hval 3 3 v3 rfl rfl) h3
  clear hA0 hval0 hsz0 hsz
  obtain ⟨kk_, hk_⟩ := (TreesUndoPure.FnTreesUndo l0 l1 a2 a3 )
  refine (laws_FnTreesUndo.calls kk_ A0 c0 l0 A1 c1 l1 a2 a3 true W hr0 hc0 hr1 hc1 hk_).mono fun e W' ⟨he, bel0⟩ => ?_
  have bel : Below W.heap.size W W' := bel0
  subst he
  exact ⟨_, rfl, _, _, _, [], _, [], hW', trodAll_mk1 (shut_bool Try.underlying4 _), (trodAll_cons_mk (Below.trod laidOut (by kernel_rfl) (of_decide_eq_true (by kernel_rfl)) k0 bel lt0) (trodAll_cons_mk (Below.trod laidOut (by kernel_rfl) (of_decide_eq_true (by kernel_rfl)) k1 bel lt1) (trodAll_cons_mk (shut_int Try.underlying3 w2) (trodAll_cons_mk (shut_int Try.underlying3 w3) trodAll_mk0)))), rfl, bel.frame _, fun h => by cases h⟩
theorem over : Rows.fnTreesUndoRow.holds Try.pinned (OpenSpec.ofChange Rows.fnTreesUndoSpec) :=
  OpenClaim.holds_of_wide 12 Try.f12 rfl rfl rfl rfl rfl rfl rfl ⟨rfl, rfl, rfl, rfl, rfl⟩ rfl rfl rfl rfl rfl (by kernel_rfl) Try.func12 (by kernel_rfl)
    (of_decide_eq_true (by kernel_rfl)) (by unfold Func.isWrapper; first | (rw [if_pos (by decide +kernel)]; kernel_rfl) | (rw [if_neg (by decide +kernel)]; exact ⟨rfl, rfl⟩))
    (fun os started H enc _ => lifted os started H enc)
theorem proved : Rows.FnTreesUndoSaid := over
end Go.Proofs.Ytjlcebgfknfelaa.fnTreesUndo
namespace Go.Proofs.Ytjlcebgfknfelaa
/-- The row, under a short name, for the claim. -/
theorem fnTreesUndo_holds : Rows.FnTreesUndoSaid := fnTreesUndo.proved
#print axioms fnTreesUndo_holds
end Go.Proofs.Ytjlcebgfknfelaa
