/- The law's row, out of its contract and of the law in plain numbers and lists: no condition. -/
import Derived.Test.YtdlnpmbnedmmnaaRows
import Derived.Test.YtdlnpmbnedmmnaaQFnRopeInsertJoinsx4
import Derived.Test.YtdlnpmbnedmmnaaPureFnRopeInsertJoins
import Derived.Test.YtdlnpmbnedmmnaaOpenB
import Derived.Deep.CondSized
import Derived.JoinedCond
import Derived.WalkKit
import Derived.ProofKit
import Derived.OpenShut
import Derived.ShutString
import Derived.ChangeOld
import Derived.Below
import Derived.SizedLaws
namespace Go.Proofs.Ytdlnpmbnedmmnaa.fnRopeInsertJoins
open Go Go.ChangeShapes Go.WideShapes Go.ChangeAt Go.RowKit Go.Proofs.YtdlnpmbnedmmnaaW.PrintWords Go.Proofs.Ytdlnpmbnedmmnaa.QFnRopeInsertJoins
open Go.ChangeMaps (open_string shut_string)
set_option linter.unusedVariables false
set_option linter.unusedSimpArgs false
theorem own : ownKnob Try.prog.godebug = none := by kernel_rfl
theorem laidOut : laidOutB Try.prog = true := by kernel_rfl
set_option maxRecDepth 100000 in
theorem reads_T38 : OpenB.Reads Try.prog 38 k38 (fun x => (Lit.int .i64 x.f0).wf = true ∧ (Lit.int .i64 x.f1).wf = true ∧ (Lit.int .i64 x.f2).wf = true ∧ ∀ y_ ∈ x.f3, (Lit.int .i64 y_).wf = true) (fun x_ : S38 => (fun _ => 1) x_.f0 + (fun _ => 1) x_.f1 + (fun _ => 1) x_.f2 + (fun y_ => (y_.map (fun _ => 1)).sum + 1) x_.f3 + 1) :=
  ⟨by kernel_rfl, fun enc w base spare held _ cs _ h => by
    obtain ⟨xs, n_, _, hx_, hl, hlen, hf⟩ := DataW.trod_struct Try.underlying38 h
    have hc : Try.prog.cellsOf 38 = 4 := by kernel_rfl
    rw [hc] at hl
    obtain ⟨c0, c1, c2, c3, rfl⟩ : ∃ c0 c1 c2 c3, cs = [c0, c1, c2, c3] := by
      match cs, hl with
      | [c0, c1, c2, c3], _ => exact ⟨c0, c1, c2, c3, rfl⟩
    obtain ⟨y0, y1, y2, y3, rfl⟩ : ∃ y0 y1 y2 y3, xs = [y0, y1, y2, y3] := by
      match xs, hlen with
      | [y0, y1, y2, y3], _ => exact ⟨y0, y1, y2, y3, rfl⟩
    have hc3 : Try.prog.cellsOf 3 = 1 := by kernel_rfl
    have hc24 : Try.prog.cellsOf 24 = 1 := by kernel_rfl
    have h0 : DataW.trod enc Try.prog w base spare held n_ 3 [c0] = some y0 := by
      have := hf 0 _ rfl
      simp only [List.getElem_toArray, List.getElem_cons_zero, List.getElem_cons_succ, hc3] at this
      exact this
    obtain ⟨a0, k0_, o0, b0⟩ := ((OpenB.reads_one (Open.reads_int Try.underlying3 (by kernel_rfl)))).2 _ _ _ _ _ _ _ _ h0
    replace k0_ : ((Kd.int .i64)).K w a0 [c0] := k0_
    have h1 : DataW.trod enc Try.prog w base spare held n_ 3 [c1] = some y1 := by
      have := hf 1 _ rfl
      simp only [List.getElem_toArray, List.getElem_cons_zero, List.getElem_cons_succ, hc3] at this
      exact this
    obtain ⟨a1, k1_, o1, b1⟩ := ((OpenB.reads_one (Open.reads_int Try.underlying3 (by kernel_rfl)))).2 _ _ _ _ _ _ _ _ h1
    replace k1_ : ((Kd.int .i64)).K w a1 [c1] := k1_
    have h2 : DataW.trod enc Try.prog w base spare held n_ 3 [c2] = some y2 := by
      have := hf 2 _ rfl
      simp only [List.getElem_toArray, List.getElem_cons_zero, List.getElem_cons_succ, hc3] at this
      exact this
    obtain ⟨a2, k2_, o2, b2⟩ := ((OpenB.reads_one (Open.reads_int Try.underlying3 (by kernel_rfl)))).2 _ _ _ _ _ _ _ _ h2
    replace k2_ : ((Kd.int .i64)).K w a2 [c2] := k2_
    have h3 : DataW.trod enc Try.prog w base spare held n_ 24 [c3] = some y3 := by
      have := hf 3 _ rfl
      simp only [List.getElem_toArray, List.getElem_cons_zero, List.getElem_cons_succ, hc24] at this
      exact this
    obtain ⟨a3, k3_, o3, b3⟩ := ((OpenB.reads_slice (OpenB.reads_one (Open.reads_int Try.underlying3 (by kernel_rfl))) Try.underlying24 (by kernel_rfl))).2 _ _ _ _ _ _ _ _ h3
    replace k3_ : ((Kd.slice 3 (Kd.int .i64))).K w a3 [c3] := k3_
    refine ⟨⟨a0, a1, a2, a3⟩, ⟨[c0], [c1, c2, c3], rfl, k0_, ⟨[c1], [c2, c3], rfl, k1_, ⟨[c2], [c3], rfl, k2_, k3_⟩⟩⟩, ⟨o0, o1, o2, o3⟩, ?_⟩
    rw [hx_]
    simp only [Rows.uptoBulk, Rows.uptoBulkAll, List.map_cons, List.map_nil]
    dsimp only at b0 b1 b2 b3
    omega⟩
set_option maxRecDepth 100000 in
theorem lifted (os : Os) (started : os.Started) (H : Type) (enc : TypeId × Value → H) (F : Stop.Interp) :
    ReturnsInHanded {} Try.checked os 4 .any ((Rows.OpenSpec.upto Rows.fnRopeInsertJoinsSpec).pre6 enc Try.prog Try.f4 Rows.fnRopeInsertJoinsUptoRow.domain false) (((Rows.OpenSpec.upto Rows.fnRopeInsertJoinsSpec).at F).post enc Try.prog Try.f4 false true false false) := by
  refine returnsInHanded_of_cond_sized (C := Try.checked) (s := Rows.OpenSpec.upto Rows.fnRopeInsertJoinsSpec) (k := Rows.uptoSmall) rfl own started (by kernel_rfl) Try.func4
    (OpenSpec.witness (enc := enc) (C := Try.checked) (s := Rows.OpenSpec.upto Rows.fnRopeInsertJoinsSpec) (k := Rows.uptoSmall) rfl false ⟨#[], #[.slice none 0 0, .slice none 0 0, .int .i64 0, .slice none 0 0], []⟩ 8 (by kernel_rfl) (by kernel_rfl) (by kernel_rfl)
      (x := ([.nil, .nil, .lit (.int .i64 0), .nil], [], [])) (by kernel_rfl) rfl (by kernel_rfl)) ?_
  intro W base args ds gs before hval0 hW hcnd hk0 hsz0 _
  have hsm : Rows.uptoBulkAll (ds ++ gs) ≤ 1048576 := of_decide_eq_true hk0
  clear hk0
  have hsz : (DataW.weightsEach Try.prog (Try.f4.params.toList ++ Rows.fnRopeInsertJoinsSpec.plain.varTypes Try.prog) (ds ++ gs)).all (· ≤ reachBytes) = true := hsz0
  have hval : ∀ (j : Nat) t v, Try.f4.params[j]? = some t → args[j]? = some v → Value.okWide Try.prog W .any base t v := hval0
  have hW' := hW
  obtain ⟨p, q, hA0, hV, rfl, hfz, hnd⟩ := hW
  have hA : DataW.TrodAll enc Try.prog W 0 (fun _ => true) true Try.f4.params.toList args.toList ds p := hA0
  rw [Try.params4] at hA hval hsz
  obtain ⟨v0, vs0, d0, ds0, p0, q0, hargs, rfl, rfl, h0, r0⟩ := trodAll_cons hA
  obtain ⟨v1, vs1, d1, ds1, p1, q1, rfl, rfl, rfl, h1, r1⟩ := trodAll_cons r0
  obtain ⟨v2, vs2, d2, ds2, p2, q2, rfl, rfl, rfl, h2, r2⟩ := trodAll_cons r1
  obtain ⟨v3, vs3, d3, ds3, p3, q3, rfl, rfl, rfl, h3, r3⟩ := trodAll_cons r2
  obtain ⟨rfl, rfl, rfl⟩ := trodAll_nil r3
  obtain rfl : args = #[v0, v1, v2, v3] := by cases args; simp_all
  obtain ⟨rfl, rfl⟩ := trodVars_none hV
  have k0 := h0
  have lt0 := Open.trod_blocks k0
  obtain ⟨A0, c0, l0, rfl, hc0, hm0, hr0, ok0, bk0⟩ := OpenB.open_arg (d := (Kd.int .i64)) (OpenB.reads_one (Open.reads_int Try.underlying3 (by kernel_rfl))) Try.underlying24 (hval 0 24 v0 rfl rfl) h0
  have k1 := h1
  have lt1 := Open.trod_blocks k1
  obtain ⟨A1, c1, l1, rfl, hc1, hm1, hr1, ok1, bk1⟩ := OpenB.open_arg (d := k38) reads_T38 Try.underlying28 (hval 1 28 v1 rfl rfl) h1
  obtain ⟨a2, rfl, rfl, rfl, w2⟩ := open_int Try.underlying3 (hval 2 3 v2 rfl rfl) h2
  have k3 := h3
  have lt3 := Open.trod_blocks k3
  obtain ⟨A3, c3, l3, rfl, hc3, hm3, hr3, ok3, bk3⟩ := OpenB.open_arg (d := (Kd.int .i64)) (OpenB.reads_one (Open.reads_int Try.underlying3 (by kernel_rfl))) Try.underlying24 (hval 3 24 v3 rfl rfl) h3
  clear hA0 hval0 hsz0 hsz
  have hb_ : ((l0.map (fun _ => 1)).sum + 1) + ((l1.map (fun x_ : S38 => (fun _ => 1) x_.f0 + (fun _ => 1) x_.f1 + (fun _ => 1) x_.f2 + (fun y_ => (y_.map (fun _ => 1)).sum + 1) x_.f3 + 1)).sum + 1) + 1 + ((l3.map (fun _ => 1)).sum + 1) ≤ 1048576 := by
    simp only [List.append_nil, Rows.uptoBulkAll, Rows.uptoBulk] at hsm
    omega
  obtain ⟨kk_, hk_⟩ := (Pure.FnRopeInsertJoinsU l0 l1 a2 l3  hb_)
  refine (laws_FnRopeInsertJoins.calls kk_ A0 c0 l0 A1 c1 l1 a2 A3 c3 l3 true W hr0 hc0 hr1 hc1 hr3 hc3 hk_).mono fun e W' ⟨he, bel0⟩ => ?_
  have bel : Below W.heap.size W W' := bel0
  subst he
  exact ⟨_, rfl, _, _, _, [], _, [], hW', trodAll_mk1 (shut_bool Try.underlying4 _), (trodAll_cons_mk (Below.trod laidOut (by kernel_rfl) (of_decide_eq_true (by kernel_rfl)) k0 bel lt0) (trodAll_cons_mk (Below.trod laidOut (by kernel_rfl) (of_decide_eq_true (by kernel_rfl)) k1 bel lt1) (trodAll_cons_mk (shut_int Try.underlying3 w2) (trodAll_cons_mk (Below.trod laidOut (by kernel_rfl) (of_decide_eq_true (by kernel_rfl)) k3 bel lt3) trodAll_mk0)))), rfl, bel.frame _, fun h => by cases h⟩
theorem over : Rows.fnRopeInsertJoinsUptoRow.holds Try.pinned (Rows.OpenSpec.upto Rows.fnRopeInsertJoinsSpec) :=
  OpenClaim.holds_of_cond 4 Try.f4 rfl rfl rfl rfl rfl rfl rfl ⟨rfl, rfl, rfl, rfl, rfl⟩ rfl rfl rfl rfl rfl (by kernel_rfl) Try.func4 (by kernel_rfl)
    (of_decide_eq_true (by kernel_rfl)) (by unfold Func.isWrapper; first | (rw [if_pos (by decide +kernel)]; kernel_rfl) | (rw [if_neg (by decide +kernel)]; exact ⟨rfl, rfl⟩))
    (fun os started H enc _ F => lifted os started H enc F)
theorem proved : Rows.FnRopeInsertJoinsUptoSaid := over
end Go.Proofs.Ytdlnpmbnedmmnaa.fnRopeInsertJoins
namespace Go.Proofs.Ytdlnpmbnedmmnaa
/-- The row, under a short name, for the claim. -/
theorem fnRopeInsertJoinsUpto_holds : Rows.FnRopeInsertJoinsUptoSaid := fnRopeInsertJoins.proved
#print axioms fnRopeInsertJoinsUpto_holds
end Go.Proofs.Ytdlnpmbnedmmnaa
