/- The row of a law, and what it stands on: for the inputs that its statement speaks of. -/
import Derived.Test.YtmhnhfmkcipcpaaCkFnListRuns3
import Derived.IntWalk
import Derived.Test.YtmhnhfmkcipcpaaWMore
import Derived.Deep.Slices
import Derived.Deep.Strs
import Derived.Lib.SmallJoins
import Derived.Carry
import Derived.OpenShut
import Derived.ShutString
import Derived.WideShapes
import Derived.ChangeOld
import Derived.Test.YtmhnhfmkcipcpaaRows
import Derived.WalkKit
import Derived.ProofKit
import Derived.Below
import Derived.SizedLaws
namespace Go.Proofs.Ytmhnhfmkcipcpaa.QFnListRuns
open Go.RowKit Go.Proofs.YtmhnhfmkcipcpaaW.PrintWords Go.Proofs.YtmhnhfmkcipcpaaW.PrintLast Go.Proofs.YtmhnhfmkcipcpaaW.PrintMore
attribute [local go_sem] max2_int min2_int max_two min_two max_three min_three max_four min_four   -- for this text's walks alone
set_option linter.unusedVariables false
set_option linter.unusedSimpArgs false
def spec_Lines.f (l0 : List (S27)) : Option (List (S34)) :=
  if l0.length ≤ 274877906944 ∧ LineDo.mayAllB ([], []) (l0.map st_of) = true then some ((Lists.told4 (LinePure.toldL ([], []) (l0.map st_of))).map seen_of) else none
theorem spec_Lines.calls (A0 : Option Addr) (c0 : Nat) (l0 : List (S27)) (r : List (S34)) (w : World) (hr0 : Kd.C k27 w A0 l0.length l0) (_hc0 : l0.length ≤ c0) (h : spec_Lines.f l0 = some r) :
    Calls Try.prog 16 #[.slice A0 l0.length c0] w fun e w' => ∃ v0_ : Value, e = .returned (v0_) ∧ Kd.S k34 34 w' w.heap.size (fun _ => True) v0_ r ∧ Below w.heap.size w w' := by
  unfold spec_Lines.f at h
  by_cases q : l0.length ≤ 274877906944 ∧ LineDo.mayAllB ([], []) (l0.map st_of) = true
  · rw [if_pos q] at h
    obtain rfl := Option.some.inj h
    have hl : (l0.map st_of).length = l0.length := List.length_map ..
    have hC : Kd.C Seen.stK w A0 (l0.map st_of).length (l0.map st_of) := by rw [hl]; exact Row.C_iso hr0
    have H := LineDo.Lines_any A0 c0 (l0.map st_of) w hC ((LineDo.mayAll_iff _ _).1 q.2) (by rw [hl]; exact q.1)
    rw [hl] at H
    refine H.mono ?_
    rintro e w' ⟨v, he, hS, hB⟩
    refine ⟨v, he, Row.S_iso ?_, hB⟩
    rw [List.map_map, show ((fun x : S34 => (x.f0, x.f1, x.f2, x.f3)) ∘ seen_of) = id from rfl, List.map_id]
    exact hS
  · rw [if_neg q] at h; cases h
def laws_FnListRuns.f (k : Nat) (l0 : List (S27)) : Option (Bool) := if (l0.length : Int) > 2147483647 then (some true) else ((spec_LineFit.f l0).bind fun t157 => ((some (([(⟨0, 5, 0, 0⟩ : S27), (⟨0, 6, 0, 0⟩ : S27)] : List (S27)) : List (S27))).bind fun y160 => (if t157.length + y160.length < 4398046511104 then ((some (t157 ++ y160 : List (S27))).bind fun y163 => ((impl_ListRun.f y163).bind fun t166 => ((spec_Lines.f y163).bind fun t169 => ((spec_SeenSame.f k t166 t169).bind fun t172 => (some t172))))) else (none))))
set_option maxHeartbeats 8000000 in
set_option maxRecDepth 100000 in
theorem laws_FnListRuns.calls (k : Nat) (A0 : Option Addr) (c0 : Nat) (l0 : List (S27)) (r : Bool) (w : World) (hr0 : Kd.C k27 w A0 l0.length l0) (hc0 : l0.length ≤ c0) (h : laws_FnListRuns.f k l0 = some r) :
    Calls Try.prog 4 #[.slice A0 l0.length c0] w fun e w' => e = .returned (.bool r) ∧ Below w.heap.size w w' := by
  have hu27 := Try.underlying27
  have HR0 := Aside0.mk hr0
  have HC0 := Aside0.mk hc0
  clear hr0 hc0
  have HB := Aside0.mk (Below.refl w.heap.size w)
  have H : (if (l0.length : Int) > 2147483647 then (some true) else ((spec_LineFit.f l0).bind fun t157 => ((some (([(⟨0, 5, 0, 0⟩ : S27), (⟨0, 6, 0, 0⟩ : S27)] : List (S27)) : List (S27))).bind fun y160 => (if t157.length + y160.length < 4398046511104 then ((some (t157 ++ y160 : List (S27))).bind fun y163 => ((impl_ListRun.f y163).bind fun t166 => ((spec_Lines.f y163).bind fun t169 => ((spec_SeenSame.f k t166 t169).bind fun t172 => (some t172))))) else (none))))) = some r := h
  clear h
  by_cases c2 : (l0.length : Int) > 2147483647
  · rw [if_pos c2] at H
    have c2b0 : decide (2147483647 < (l0.length : Int)) = true := decide_eq_true c2
    have c2b1 : decide (2147483647 < l0.length) = true := decide_eq_true (by omega)
    clear c2
    obtain rfl := Option.some.inj H
    go_enter Try.func4, Try.ntmps4
    go_wp2
    go_ret
    exact ⟨by first | rfl | (simp [errW_none, errW_some] <;> rfl) | (simp [*, errW_none, errW_some] <;> rfl), by repeat (first | (with_reducible first | exact HB.out | apply below_alloc | apply pw_below_drewN | apply below_drew1) | exact HB.out)⟩
  · rw [if_neg c2] at H
    have c2b0 : decide (2147483647 < (l0.length : Int)) = false := decide_eq_false c2
    have c2b1 : decide (2147483647 < l0.length) = false := decide_eq_false (by omega)
    clear c2
    replace H := Option.bind_eq_some_iff.mp H
    obtain ⟨t157, A30, H⟩ := H
    replace H : ((some (([(⟨0, 5, 0, 0⟩ : S27), (⟨0, 6, 0, 0⟩ : S27)] : List (S27)) : List (S27))).bind fun y160 => (if t157.length + y160.length < 4398046511104 then ((some (t157 ++ y160 : List (S27))).bind fun y163 => ((impl_ListRun.f y163).bind fun t166 => ((spec_Lines.f y163).bind fun t169 => ((spec_SeenSame.f k t166 t169).bind fun t172 => (some t172))))) else (none))) = some r := H
    have A3 := Aside0.mk A30
    clear A30
    obtain ⟨y160, hy160⟩ : ∃ y_ : List (S27), y_ = (([(⟨0, 5, 0, 0⟩ : S27), (⟨0, 6, 0, 0⟩ : S27)] : List (S27))) := ⟨_, rfl⟩
    replace H : (if t157.length + y160.length < 4398046511104 then ((some (t157 ++ y160 : List (S27))).bind fun y163 => ((impl_ListRun.f y163).bind fun t166 => ((spec_Lines.f y163).bind fun t169 => ((spec_SeenSame.f k t166 t169).bind fun t172 => (some t172))))) else (none)) = some r := by first | (rw [hy160]; with_reducible exact H) | (have H2_ := (Option.bind_some _ _).symm.trans H; rw [hy160]; with_reducible exact H2_) | (have H2_ := (Option.bind_some _ _).symm.trans H; with_reducible exact H2_) | with_reducible exact H | (rw [hy160]; exact H) | exact H
    have Ny160 := Aside0.mk hy160
    clear hy160
    by_cases c4 : t157.length + y160.length < 4398046511104
    · rw [if_pos c4] at H
      have LMc4 := Aside0.mk c4
      clear c4
      obtain ⟨y163, hy163⟩ : ∃ y_ : List (S27), y_ = (t157 ++ y160) := ⟨_, rfl⟩
      replace H : ((impl_ListRun.f y163).bind fun t166 => ((spec_Lines.f y163).bind fun t169 => ((spec_SeenSame.f k t166 t169).bind fun t172 => (some t172)))) = some r := by first | (rw [hy163]; with_reducible exact H) | (have H2_ := (Option.bind_some _ _).symm.trans H; rw [hy163]; with_reducible exact H2_) | (have H2_ := (Option.bind_some _ _).symm.trans H; with_reducible exact H2_) | with_reducible exact H | (rw [hy163]; exact H) | exact H
      have Ny163 := Aside0.mk hy163
      clear hy163
      replace H := Option.bind_eq_some_iff.mp H
      obtain ⟨t166, A50, H⟩ := H
      replace H : ((spec_Lines.f y163).bind fun t169 => ((spec_SeenSame.f k t166 t169).bind fun t172 => (some t172))) = some r := H
      have A5 := Aside0.mk A50
      clear A50
      replace H := Option.bind_eq_some_iff.mp H
      obtain ⟨t169, A60, H⟩ := H
      replace H : ((spec_SeenSame.f k t166 t169).bind fun t172 => (some t172)) = some r := H
      have A6 := Aside0.mk A60
      clear A60
      replace H := Option.bind_eq_some_iff.mp H
      obtain ⟨t172, A70, H⟩ := H
      replace H : (some t172) = some r := H
      have A7 := Aside0.mk A70
      clear A70
      obtain rfl := Option.some.inj H
      go_enter Try.func4, Try.ntmps4
      go_wp2_with (first | ((with_reducible refine gate_callee (f := 14) rfl ?_); refine goesL_ (some 7) rfl rfl Try.func14 (by kernel_rfl) rfl #[.slice A0 l0.length c0] rfl (by (try simp only [List.map_toArray, List.map_cons, List.map_nil]); first | done | rfl | (simp only [List.length_drop, List.length_take]; rfl)) ?_; (with_reducible refine (spec_LineFit.calls _ _ l0 t157 _ ?side1 ?side2 A3.out).mono ?_); (case side1 => repeat (first | exact HR0.out | (with_reducible refine Kd.C_alloc ?_ _) | (with_reducible refine Kd.C_drewN ?_ _) | (with_reducible refine Kd.C_drew ?_))); (case side2 => exact HC0.out); rintro e w8 ⟨v158, rfl, ho0, hb⟩; refine ⟨_, rfl, ?_⟩; have n0_ := Aside0.mk (Kd.R_lower ho0 (below_size (by repeat (first | (with_reducible first | exact HB.out | apply below_alloc | apply pw_below_drewN | apply below_drew1) | exact HB.out)))); have n1_ := Aside0.mk (below_step (by repeat (first | (with_reducible first | exact HB.out | apply below_alloc | apply pw_below_drewN | apply below_drew1) | exact HB.out)) hb); clear HB; have HO159 := n0_; have HB := n1_; clear n0_ n1_; (try clear hb); (try clear hb2); (try clear hk); (try clear hi); (try clear ho0)) | ((with_reducible refine gate_dst (N := 10) rfl ?_); refine Kd.R_lit k27 _ 27 ?hg (N := 10) ?hd (xs := ([(⟨0, 5, 0, 0⟩ : S27), (⟨0, 6, 0, 0⟩ : S27)] : List (S27))) (inner := [.int .i64 0, .int .i64 5, .int .i64 0, .int .i64 0, .int .i64 0, .int .i64 6, .int .i64 0, .int .i64 0]) (ok := fun _ => True) (okp := fun _ => True) ?hr ?hp (fun _ hk => hk) trivial (Below.refl _ _) (Nat.le_refl _) (by simp) ?_; (case hd => rfl); (case hg => rfl); (case hr => first | (go_simp; done) | (go_simp; rfl)); (case hp => exact (Reps.c4 (show Kd.M k27 _ _ _ (⟨0, 5, 0, 0⟩ : S27) [.int .i64 0, .int .i64 5, .int .i64 0, .int .i64 0] from (k27_mkM _ _ _ (⟨0, 5, 0, 0⟩ : S27) )) (Reps.c4 (show Kd.M k27 _ _ _ (⟨0, 6, 0, 0⟩ : S27) [.int .i64 0, .int .i64 6, .int .i64 0, .int .i64 0] from (k27_mkM _ _ _ (⟨0, 6, 0, 0⟩ : S27) )) (Reps.none _ _)))); intro v161 w9 ho10 hb hg_ hnew_; clear hg_ hnew_; (first | rw [← Ny160.out] at ho10 | (simp only [Int.reduceToNat] at ho10; rw [← Ny160.out] at ho10)); have n0_ := Aside0.mk (Kd.R_elder' (by (with_reducible repeat (first | apply Kd.R_alloc | apply Kd.R_drewN | apply Kd.R_drew)); exact HO159.out) (Kd.R_base ho10) hb); have n1_ := Aside0.mk (Kd.R_lower (Kd.R_new' ho10 (Kd.R_lt (by (with_reducible repeat (first | apply Kd.R_alloc | apply Kd.R_drewN | apply Kd.R_drew)); exact HO159.out))) (below_size (by repeat (first | (with_reducible first | exact HB.out | apply below_alloc | apply pw_below_drewN | apply below_drew1) | exact HB.out)))); have n2_ := Aside0.mk (below_step (by repeat (first | (with_reducible first | exact HB.out | apply below_alloc | apply pw_below_drewN | apply below_drew1) | exact HB.out)) hb); clear HO159; clear HB; have HO159 := n0_; have HO162 := n1_; have HB := n2_; clear n0_ n1_ n2_; clear hb ho10; obtain ⟨Ao12, co12, eo12⟩ := Kd.R_slice HO162.out; subst eo12) | ((with_reducible refine gate_builtin (b := .append) (xs := #[.tmp 7, .tmp 10]) rfl ?_); at_builtin; refine Kd.R_append_rows k27 (w0 := w) w.heap.size rfl (.tmp 7) (.tmp 10) 22 27 (.agg #[(.int .i64 0), (.int .i64 0), (.int .i64 0), (.int .i64 0)]) 32 rfl Try.underlying22 info27 rfl (by decide) (by omega) v158 t157 y160 _ _ _ (fun k_ => some k_ ≠ (.slice Ao12 y160.length co12 : Value).ownBlock) (fun _ => False) rfl rfl ?aO ?aR (fun _ _ h => h) (fun _ h => h.elim) ?aF ?aB ?aS ?aL ?_; (case aR => repeat (first | exact (Kd.R_reads' HO162.out).2.2 | (with_reducible refine Kd.C_alloc ?_ _) | (with_reducible refine Kd.C_drewN ?_ _) | (with_reducible refine Kd.C_drew ?_))); (case aB => exact (by repeat (first | (with_reducible first | exact HB.out | apply below_alloc | apply pw_below_drewN | apply below_drew1) | exact HB.out))); (case aF => exact (fun k_ hk => Kd.fresh' (Kd.R_lt (by (with_reducible repeat (first | apply Kd.R_alloc | apply Kd.R_drewN | apply Kd.R_drew)); exact HO162.out)) k_ hk)); (case aO => exact (by (with_reducible repeat (first | apply Kd.R_alloc | apply Kd.R_drewN | apply Kd.R_drew)); exact Kd.R_mono HO159.out (fun _ hk => hk.2))); (case aS => exact (below_size (by repeat (first | (with_reducible first | exact HB.out | apply below_alloc | apply pw_below_drewN | apply below_drew1) | exact HB.out)))); (case aL => have := LMc4.out; omega); intro v164 w11 ho hb hg hat; rw [← Ny163.out] at ho; have n0_ := Aside0.mk (Kd.R_after (ok := (fun _ => True)) (by (with_reducible repeat (first | apply Kd.R_alloc | apply Kd.R_drewN | apply Kd.R_drew)); exact HO162.out) hg hat); have n1_ := Aside0.mk (hb); have n2_ := Aside0.mk (ho); clear HO162; clear HB; clear HO159; have HO162 := n0_; have HB := n1_; have HO165 := n2_; clear n0_ n1_ n2_; clear ho hb hg hat; obtain ⟨Ao13, co13, eo13⟩ := Kd.R_slice HO165.out; subst eo13) | ((with_reducible refine gate_callee (f := 15) rfl ?_); refine goesL_ (some 13) rfl rfl Try.func15 (by kernel_rfl) rfl #[.slice Ao13 y163.length co13] rfl (by (try simp only [List.map_toArray, List.map_cons, List.map_nil]); first | done | rfl | (simp only [List.length_drop, List.length_take]; rfl)) ?_; (with_reducible refine (impl_ListRun.calls _ _ y163 t166 _ ?side1 ?side2 A5.out).mono ?_); (case side1 => repeat (first | exact (Kd.R_reads' HO165.out).2.2 | (with_reducible refine Kd.C_alloc ?_ _) | (with_reducible refine Kd.C_drewN ?_ _) | (with_reducible refine Kd.C_drew ?_))); (case side2 => exact (Kd.R_reads' HO165.out).2.1); rintro e w14 ⟨v167, rfl, ho0, hb⟩; refine ⟨_, rfl, ?_⟩; have n0_ := Aside0.mk (Kd.R_below (by (with_reducible repeat (first | apply Kd.R_alloc | apply Kd.R_drewN | apply Kd.R_drew)); exact HO162.out) hb); have n1_ := Aside0.mk (Kd.R_below (by (with_reducible repeat (first | apply Kd.R_alloc | apply Kd.R_drewN | apply Kd.R_drew)); exact HO165.out) hb); have n2_ := Aside0.mk (Kd.S_lower ho0 (below_size (by repeat (first | (with_reducible first | exact HB.out | apply below_alloc | apply pw_below_drewN | apply below_drew1) | exact HB.out)))); have n3_ := Aside0.mk (below_step (by repeat (first | (with_reducible first | exact HB.out | apply below_alloc | apply pw_below_drewN | apply below_drew1) | exact HB.out)) hb); clear HO162; clear HO165; clear HB; have HO162 := n0_; have HO165 := n1_; have HO168 := n2_; have HB := n3_; clear n0_ n1_ n2_ n3_; (try clear hb); (try clear hb2); (try clear hk); (try clear hi); (try clear ho0)) | ((with_reducible refine gate_callee (f := 16) rfl ?_); refine goesL_ (some 15) rfl rfl Try.func16 (by kernel_rfl) rfl #[.slice Ao13 y163.length co13] rfl (by (try simp only [List.map_toArray, List.map_cons, List.map_nil]); first | done | rfl | (simp only [List.length_drop, List.length_take]; rfl)) ?_; (with_reducible refine (spec_Lines.calls _ _ y163 t169 _ ?side1 ?side2 A6.out).mono ?_); (case side1 => repeat (first | exact (Kd.R_reads' HO165.out).2.2 | (with_reducible refine Kd.C_alloc ?_ _) | (with_reducible refine Kd.C_drewN ?_ _) | (with_reducible refine Kd.C_drew ?_))); (case side2 => exact (Kd.R_reads' HO165.out).2.1); rintro e w15 ⟨v170, rfl, ho0, hb⟩; refine ⟨_, rfl, ?_⟩; have n0_ := Aside0.mk (Kd.R_below (by (with_reducible repeat (first | apply Kd.R_alloc | apply Kd.R_drewN | apply Kd.R_drew)); exact HO162.out) hb); have n1_ := Aside0.mk (Kd.R_below (by (with_reducible repeat (first | apply Kd.R_alloc | apply Kd.R_drewN | apply Kd.R_drew)); exact HO165.out) hb); have n2_ := Aside0.mk (Kd.S_elder' (by (with_reducible repeat (first | apply Kd.S_alloc | apply Kd.S_drewN | apply Kd.S_drew)); exact HO168.out) (Kd.S_base ho0) hb); have n3_ := Aside0.mk (Kd.S_lower (Kd.S_new' ho0 (Kd.S_lt (by (with_reducible repeat (first | apply Kd.S_alloc | apply Kd.S_drewN | apply Kd.S_drew)); exact HO168.out))) (below_size (by repeat (first | (with_reducible first | exact HB.out | apply below_alloc | apply pw_below_drewN | apply below_drew1) | exact HB.out)))); have n4_ := Aside0.mk (below_step (by repeat (first | (with_reducible first | exact HB.out | apply below_alloc | apply pw_below_drewN | apply below_drew1) | exact HB.out)) hb); clear HO162; clear HO165; clear HO168; clear HB; have HO162 := n0_; have HO165 := n1_; have HO168 := n2_; have HO171 := n3_; have HB := n4_; clear n0_ n1_ n2_ n3_ n4_; (try clear hb); (try clear hb2); (try clear hk); (try clear hi); (try clear ho0); obtain ⟨Ao16, co16, eo16⟩ := Kd.S_slice HO168.out; subst eo16; obtain ⟨Ao17, co17, eo17⟩ := Kd.S_slice HO171.out; subst eo17) | ((with_reducible refine gate_callee (f := 11) rfl ?_); refine goesL_ (some 16) rfl rfl Try.func11 (by kernel_rfl) rfl #[.slice Ao16 t166.length co16, .slice Ao17 t169.length co17] rfl (by (try simp only [List.map_toArray, List.map_cons, List.map_nil]); first | done | rfl | (simp only [List.length_drop, List.length_take]; rfl)) ?_; (with_reducible refine (spec_SeenSame.calls k _ _ t166 _ _ t169 t172 _ ?side1 ?side2 ?side3 ?side4 A7.out).mono ?_); (case side1 => repeat (first | exact (Kd.S_reads' HO168.out).2.2 | (with_reducible refine Kd.C_alloc ?_ _) | (with_reducible refine Kd.C_drewN ?_ _) | (with_reducible refine Kd.C_drew ?_))); (case side2 => exact (Kd.S_reads' HO168.out).2.1); (case side3 => repeat (first | exact (Kd.S_reads' HO171.out).2.2 | (with_reducible refine Kd.C_alloc ?_ _) | (with_reducible refine Kd.C_drewN ?_ _) | (with_reducible refine Kd.C_drew ?_))); (case side4 => exact (Kd.S_reads' HO171.out).2.1); rintro e w18 ⟨rfl, hb⟩; refine ⟨_, rfl, ?_⟩; have n0_ := Aside0.mk (Kd.R_below (by (with_reducible repeat (first | apply Kd.R_alloc | apply Kd.R_drewN | apply Kd.R_drew)); exact HO162.out) hb); have n1_ := Aside0.mk (Kd.R_below (by (with_reducible repeat (first | apply Kd.R_alloc | apply Kd.R_drewN | apply Kd.R_drew)); exact HO165.out) hb); have n2_ := Aside0.mk (Kd.S_below (by (with_reducible repeat (first | apply Kd.S_alloc | apply Kd.S_drewN | apply Kd.S_drew)); exact HO168.out) hb); have n3_ := Aside0.mk (Kd.S_below (by (with_reducible repeat (first | apply Kd.S_alloc | apply Kd.S_drewN | apply Kd.S_drew)); exact HO171.out) hb); have n4_ := Aside0.mk (below_step (by repeat (first | (with_reducible first | exact HB.out | apply below_alloc | apply pw_below_drewN | apply below_drew1) | exact HB.out)) hb); clear HO162; clear HO165; clear HO168; clear HO171; clear HB; have HO162 := n0_; have HO165 := n1_; have HO168 := n2_; have HO171 := n3_; have HB := n4_; clear n0_ n1_ n2_ n3_ n4_; (try clear hb); (try clear hb2); (try clear hk); (try clear hi)))
      go_ret
      exact ⟨by first | rfl | (simp [errW_none, errW_some] <;> rfl) | (simp [*, errW_none, errW_some] <;> rfl), by repeat (first | (with_reducible first | exact HB.out | apply below_alloc | apply pw_below_drewN | apply below_drew1) | exact HB.out)⟩
    · rw [if_neg c4] at H
      exact absurd H (by simp)
end Go.Proofs.Ytmhnhfmkcipcpaa.QFnListRuns

namespace Go.Proofs.Ytmhnhfmkcipcpaa.Pure
open Go.RowKit Go.IntWalk Go.Proofs.Ytmhnhfmkcipcpaa.QFnListRuns Go.Proofs.YtmhnhfmkcipcpaaW.PrintWords Go.Proofs.YtmhnhfmkcipcpaaW.PrintLast
theorem w1 (q : Nat) (h : q ≤ 1099511627776) : wrap64 ((q : Int) + 1) = ((q + 1 : Nat) : Int) := by rw [wrap64_in _ (by omega)]; rfl
theorem same_row (xs : List Int) (hl : xs.length ≤ 1099511627776) (d : Nat) : ∀ j : Nat, j + d = xs.length → Ev (fun k => spec_Same.l0 k xs xs j) true := by
  induction d with
  | zero =>
    intro j hj
    refine Ev.step (f := fun _ => some true) (fun k => ?_) (Ev.now _)
    simp only [spec_Same.l0]
    rw [if_neg (by omega)]
  | succ d ih =>
    intro j hj
    refine Ev.step (fun k => ?_) (ih (j + 1) (by omega))
    simp only [spec_Same.l0]
    rw [if_pos (by omega), if_pos (by omega), if_pos (by omega), if_pos (by first | rfl | trivial), w1 j (by omega)]
theorem same_ev (xs : List Int) (hl : xs.length ≤ 1099511627776) : Ev (fun k => spec_Same.f k xs xs) true := by
  refine Ev.congr (fun k => ?_) (same_row xs hl xs.length 0 (Nat.zero_add _))
  unfold spec_Same.f
  rw [if_pos rfl]
  rfl
theorem rd_seen {l : List S34} {i : Nat} {x : S34} (h : l[i]? = some x) : rd_T34 l (i : Int) = x := by simp [rd_T34, List.getD_eq_getElem?_getD, h]
/-- Steps that told the same are found to have done so. -/
theorem seen_same (l : List S34) (hl : l.length ≤ 1099511627776) (hr : ∀ x ∈ l, x.f2.length ≤ 1099511627776 ∧ x.f3.length ≤ 1099511627776) (d : Nat) : ∀ j : Nat, j + d = l.length → Ev (fun k => spec_SeenSame.l0 k l l j) true := by
  induction d with
  | zero =>
    intro j hj
    refine Ev.step (f := fun _ => some true) (fun k => ?_) (Ev.now _)
    simp only [spec_SeenSame.l0]
    rw [if_neg (by omega)]
  | succ d ih =>
    intro j hj
    have hjl : j < l.length := by omega
    have hx : l[j]? = some l[j] := List.getElem?_eq_getElem hjl
    have hm := hr l[j] (List.getElem_mem hjl)
    generalize l[j] = x at hx hm
    obtain ⟨K1, h1⟩ := same_ev x.f2 hm.1
    obtain ⟨K2, h2⟩ := same_ev x.f3 hm.2
    obtain ⟨K3, h3⟩ := ih (j + 1) (by omega)
    refine ⟨K1 + K2 + K3 + 1, fun k hk => ?_⟩
    obtain ⟨m, rfl⟩ : ∃ m, k = m + 1 := ⟨k - 1, by omega⟩
    have h1' : spec_Same.f m x.f2 x.f2 = some true := h1 m (by omega)
    have h2' : spec_Same.f m x.f3 x.f3 = some true := h2 m (by omega)
    have h3' : spec_SeenSame.l0 m l l ((j + 1 : Nat) : Int) = some true := h3 m (by omega)
    simp only [spec_SeenSame.l0]
    rw [if_pos (by omega), if_pos (by omega), if_pos (by omega), rd_seen hx, if_pos (by first | rfl | trivial), if_neg (by simp), h1', Option.bind_some, if_pos rfl, h2', Option.bind_some, if_pos rfl, w1 j (by omega)]
    exact h3'
theorem seenSame_ev (l : List S34) (hl : l.length ≤ 1099511627776) (hr : ∀ x ∈ l, x.f2.length ≤ 1099511627776 ∧ x.f3.length ≤ 1099511627776) : Ev (fun k => spec_SeenSame.f k l l) true := by
  refine Ev.congr (fun k => ?_) (seen_same l hl hr l.length 0 (Nat.zero_add _))
  unfold spec_SeenSame.f
  rw [if_pos rfl]
  rfl
theorem FnListRuns (l : List S27) : ∃ k, laws_FnListRuns.f k l = some true := by
  by_cases c1 : (l.length : Int) > 2147483647
  · exact ⟨1, by unfold laws_FnListRuns.f; rw [if_pos c1]⟩
  have hl : l.length ≤ 2147483647 := by omega
  have h1 : spec_LineFit.f l = some ((LineDo.fitL ([], []) (l.map stf_of)).map of_stf) := by
    unfold spec_LineFit.f
    rw [if_pos (by omega)]
  have hm := LineDo.fit_may (l.map stf_of) ([], [])
  have hfl : ((LineDo.fitL ([], []) (l.map stf_of)).map of_stf).length = l.length := by rw [List.length_map, LineDo.fit_len, List.length_map]
  obtain ⟨s, hs⟩ : ∃ s, (LineDo.fitL ([], []) (l.map stf_of)).map of_stf ++ [(⟨0, 5, 0, 0⟩ : S27), ⟨0, 6, 0, 0⟩] = s := ⟨_, rfl⟩
  have hsl : s.length = l.length + 2 := by rw [← hs, List.length_append, hfl]; rfl
  have hsm : LineDo.mayAllB ([], []) (s.map st_of) = true := by
    refine (LineDo.mayAll_iff _ _).2 ?_
    have e : s.map st_of = LineDo.fitL ([], []) (l.map stf_of) ++ [((0, 5, 0, 0) : Seen.St), (0, 6, 0, 0)] := by
      rw [← hs, List.map_append, List.map_map, show (st_of ∘ of_stf) = id from rfl, List.map_id]
      rfl
    rw [e]
    exact LineDo.may_app _ _ _ hm (fun c => ⟨⟨fun e => by simp at e, fun e => by simp at e⟩, ⟨fun e => by simp at e, fun e => by simp at e⟩, trivial⟩)
  have h2 : impl_ListRun.f s = some ((Lists.told4 (LinePure.toldL ([], []) (s.map st_of))).map seen_of) := by
    unfold impl_ListRun.f
    rw [if_pos ⟨by omega, hsm⟩]
  have h3 : spec_Lines.f s = some ((Lists.told4 (LinePure.toldL ([], []) (s.map st_of))).map seen_of) := by
    unfold spec_Lines.f
    rw [if_pos ⟨by omega, hsm⟩]
  have hlen : ((Lists.told4 (LinePure.toldL ([], []) (s.map st_of))).map seen_of).length = l.length + 2 := by
    rw [List.length_map, Lists.told4, List.length_map, LinePure.toldL_length, List.length_map, hsl]
  have hrow : ∀ x ∈ (Lists.told4 (LinePure.toldL ([], []) (s.map st_of))).map seen_of, x.f2.length ≤ 1099511627776 ∧ x.f3.length ≤ 1099511627776 := by
    intro x hx
    obtain ⟨y, hy, rfl⟩ := List.mem_map.1 hx
    obtain ⟨ks, hk, rfl⟩ := List.mem_map.1 hy
    have := LineDo.told_len (s.map st_of) ([], []) (l.length + 2) (by rw [List.length_map, hsl]; simp) ks hk
    exact ⟨by show ks.length ≤ _; omega, Nat.zero_le _⟩
  generalize (Lists.told4 (LinePure.toldL ([], []) (s.map st_of))).map seen_of = t at h2 h3 hlen hrow
  obtain ⟨K, hK⟩ := seenSame_ev t (by omega) hrow
  have h4 : spec_SeenSame.f K t t = some true := hK K (Nat.le_refl _)
  refine ⟨K, ?_⟩
  unfold laws_FnListRuns.f
  rw [if_neg c1, h1, Option.bind_some, Option.bind_some, if_pos (by rw [hfl]; simp; omega), hs, Option.bind_some, h2, Option.bind_some, h3, Option.bind_some, h4, Option.bind_some]
end Go.Proofs.Ytmhnhfmkcipcpaa.Pure

namespace Go.Proofs.Ytmhnhfmkcipcpaa.Open
open Go Go.Deep Go.Joins Go.ChangeShapes Go.WideShapes Go.ChangeAt Go.RowKit Go.Proofs.YtmhnhfmkcipcpaaW.PrintWords Go.Proofs.YtmhnhfmkcipcpaaW.PrintLast Go.Proofs.YtmhnhfmkcipcpaaW.PrintMore
/-- What lies as data of type e reads as a kind says; ok: what is known of it besides. -/
def Reads (P : Program) (e : TypeId) {α : Type} (d : Kd α) (ok : α → Prop) : Prop :=
  P.cellsOf e = d.sz ∧ ∀ {H : Type} (enc : TypeId × Value → H) (w : World) (base : Nat) (spare : Nat → Bool) (held : Bool) (n : Nat) (cs : List Value) (x : DataW H × List MemPlace),
    DataW.trod enc P w base spare held n e cs = some x → ∃ a, d.K w a cs ∧ ok a
section
variable {P : Program} {α β γ δ ε : Type} {t e : TypeId}
theorem reads_int {k : IntKind} (ht : P.underlying e = some (.int k)) (hc : P.cellsOf e = 1) : Reads P e (Kd.int k) (fun n => (Lit.int k n).wf = true) :=
  ⟨hc, fun _ _ _ _ _ _ _ _ h => by
    obtain ⟨n, rfl, _, hw⟩ := DataW.trod_int ht h
    exact ⟨n, rfl, hw⟩⟩
theorem rows_of {p : Nat → α → Prop} : ∀ n : Nat, (∀ i, i < n → ∃ a, p i a) → ∃ xs : List α, xs.length = n ∧ ∀ j a, xs[j]? = some a → p j a
  | 0, _ => ⟨[], rfl, fun j a h => by simp at h⟩
  | n + 1, h => by
    obtain ⟨xs, hl, hx⟩ := rows_of n (fun i hi => h i (by omega))
    obtain ⟨a, ha⟩ := h n (Nat.lt_succ_self n)
    refine ⟨xs ++ [a], by simp [hl], fun j b hb => ?_⟩
    rcases Nat.lt_or_ge j xs.length with hj | hj
    · rw [List.getElem?_append_left hj] at hb
      exact hx j b hb
    · rw [List.getElem?_append_right hj] at hb
      have : j = n := by
        rcases Nat.eq_zero_or_pos (j - xs.length) with h0 | h0
        · omega
        · rw [List.getElem?_eq_none (by simp; omega)] at hb; cases hb
      subst this
      rw [hl, Nat.sub_self] at hb
      simp at hb
      exact hb ▸ ha
theorem open_C {d : Kd α} {ok : α → Prop} (hd : Reads P e d ok) (ht : P.underlying t = some (.slice e)) {H : Type} {enc : TypeId × Value → H} {w : World} {base : Nat} {spare : Nat → Bool} {held : Bool} {fuel : Nat} {cs : List Value} {x : DataW H × List MemPlace}
    (h : DataW.trod enc P w base spare held fuel t cs = some x) : ∃ A c xs, cs = [.slice A xs.length c] ∧ xs.length ≤ c ∧ c ≤ maxLen ∧ d.C w A xs.length xs ∧ ∀ a ∈ xs, ok a := by
  rcases open_slice ht h with ⟨rfl, _⟩ | ⟨a, len, cap, m, n, D, Pl, rfl, _, hl, hm, hmm, _, hx⟩
  · exact ⟨none, 0, [], rfl, Nat.le_refl _, by simp [maxLen], Kd.C_nil d w, fun a ha => by simp at ha⟩
  · have hle : len ≤ m := by rw [hmm]; split <;> omega
    obtain ⟨xs, hxl, hxs⟩ := rows_of (p := fun i (y : α) => ok y ∧ ∃ c, c.length = d.sz ∧ d.K w y c ∧ ∀ k u, c[k]? = some u → w.cell? (a.add (i * d.sz + k)) = some u) len (fun i hi => by
      obtain ⟨cs', h1, h2⟩ := hx i (by omega)
      obtain ⟨y, hy, hok⟩ := hd.2 _ _ _ _ _ _ _ _ h2
      obtain ⟨_, hlen, hcell⟩ := World.cells?_some h1
      rw [hd.1] at hlen hcell
      refine ⟨y, hok, cs', hlen, hy, fun k u hu => ?_⟩
      have hk : k < d.sz := by
        rw [← hlen]
        exact (List.getElem?_eq_some_iff.1 hu).1
      rw [← Go.Deep.add_add, hcell k hk, hu])
    subst hxl
    refine ⟨some a, cap, xs, rfl, hl, hm, ⟨rfl, by unfold maxLen at hm; omega, fun _ => ⟨a, rfl, fun j p hj => ?_⟩⟩, fun b hb => ?_⟩
    · exact (hxs j p hj).2
    · obtain ⟨j, hj, rfl⟩ := List.getElem_of_mem hb
      exact (hxs j _ (List.getElem?_eq_getElem hj)).1
/-- An argument of a slice's type, of whatever elements. -/
theorem open_arg {d : Kd α} {ok : α → Prop} (hd : Reads P e d ok) (ht : P.underlying t = some (.slice e)) {H : Type} {enc : TypeId × Value → H} {w : World} {base b2 : Nat} {spare : Nat → Bool} {held : Bool} {r : Reach} {v : Value} {x : DataW H} {ps : List MemPlace}
    (hv : Value.okWide P w r b2 t v) (h : DataW.Trod enc P w base spare held t v x ps) : ∃ A c xs, v = .slice A xs.length c ∧ xs.length ≤ c ∧ c ≤ maxLen ∧ d.C w A xs.length xs ∧ ∀ a ∈ xs, ok a := by
  obtain ⟨A, len, cap, rfl⟩ := okWide_slice ht hv
  obtain ⟨fuel, hf⟩ := h
  obtain ⟨A', c, xs, he, hl, hm, hC, hok⟩ := open_C hd ht hf
  simp only [Value.cells] at he
  injection he with he
  exact ⟨A', c, xs, he, hl, hm, hC, hok⟩
theorem trod_blocks {H : Type} {enc : TypeId × Value → H} {w : World} {base : Nat} {spare : Nat → Bool} {held : Bool} {v : Value} {x : DataW H} {ps : List MemPlace} (h : DataW.Trod enc P w base spare held t v x ps) : ∀ y ∈ ps, y.block < w.heap.size := by
  obtain ⟨m, hm⟩ := h
  exact DataW.trod_lt m _ _ _ hm
end
end Go.Proofs.Ytmhnhfmkcipcpaa.Open

namespace Go.Proofs.Ytmhnhfmkcipcpaa.fnListRuns
open Go Go.ChangeShapes Go.WideShapes Go.ChangeAt Go.RowKit Go.Proofs.YtmhnhfmkcipcpaaW.PrintWords Go.Proofs.Ytmhnhfmkcipcpaa.QFnListRuns
open Go.ChangeMaps (open_string shut_string)
set_option linter.unusedVariables false
set_option linter.unusedSimpArgs false
theorem own : ownKnob Try.prog.godebug = none := by kernel_rfl
theorem laidOut : laidOutB Try.prog = true := by kernel_rfl
set_option maxRecDepth 100000 in
theorem reads_T27 : Open.Reads Try.prog 27 k27 (fun x => (Lit.int .i64 x.f0).wf = true ∧ (Lit.int .i64 x.f1).wf = true ∧ (Lit.int .i64 x.f2).wf = true ∧ (Lit.int .i64 x.f3).wf = true) :=
  ⟨by kernel_rfl, fun enc w base spare held _ cs _ h => by
    obtain ⟨xs, n_, _, _, hl, hlen, hf⟩ := DataW.trod_struct Try.underlying27 h
    have hc : Try.prog.cellsOf 27 = 4 := by kernel_rfl
    rw [hc] at hl
    obtain ⟨c0, c1, c2, c3, rfl⟩ : ∃ c0 c1 c2 c3, cs = [c0, c1, c2, c3] := by
      match cs, hl with
      | [c0, c1, c2, c3], _ => exact ⟨c0, c1, c2, c3, rfl⟩
    obtain ⟨y0, y1, y2, y3, rfl⟩ : ∃ y0 y1 y2 y3, xs = [y0, y1, y2, y3] := by
      match xs, hlen with
      | [y0, y1, y2, y3], _ => exact ⟨y0, y1, y2, y3, rfl⟩
    have hc3 : Try.prog.cellsOf 3 = 1 := by kernel_rfl
    have h0 : DataW.trod enc Try.prog w base spare held n_ 3 [c0] = some y0 := by
      have := hf 0 _ rfl
      simp only [List.getElem_toArray, List.getElem_cons_zero, List.getElem_cons_succ, hc3] at this
      exact this
    obtain ⟨a0, k0_, o0⟩ := ((Open.reads_int Try.underlying3 (by kernel_rfl))).2 _ _ _ _ _ _ _ _ h0
    replace k0_ : ((Kd.int .i64)).K w a0 [c0] := k0_
    have h1 : DataW.trod enc Try.prog w base spare held n_ 3 [c1] = some y1 := by
      have := hf 1 _ rfl
      simp only [List.getElem_toArray, List.getElem_cons_zero, List.getElem_cons_succ, hc3] at this
      exact this
    obtain ⟨a1, k1_, o1⟩ := ((Open.reads_int Try.underlying3 (by kernel_rfl))).2 _ _ _ _ _ _ _ _ h1
    replace k1_ : ((Kd.int .i64)).K w a1 [c1] := k1_
    have h2 : DataW.trod enc Try.prog w base spare held n_ 3 [c2] = some y2 := by
      have := hf 2 _ rfl
      simp only [List.getElem_toArray, List.getElem_cons_zero, List.getElem_cons_succ, hc3] at this
      exact this
    obtain ⟨a2, k2_, o2⟩ := ((Open.reads_int Try.underlying3 (by kernel_rfl))).2 _ _ _ _ _ _ _ _ h2
    replace k2_ : ((Kd.int .i64)).K w a2 [c2] := k2_
    have h3 : DataW.trod enc Try.prog w base spare held n_ 3 [c3] = some y3 := by
      have := hf 3 _ rfl
      simp only [List.getElem_toArray, List.getElem_cons_zero, List.getElem_cons_succ, hc3] at this
      exact this
    obtain ⟨a3, k3_, o3⟩ := ((Open.reads_int Try.underlying3 (by kernel_rfl))).2 _ _ _ _ _ _ _ _ h3
    replace k3_ : ((Kd.int .i64)).K w a3 [c3] := k3_
    exact ⟨⟨a0, a1, a2, a3⟩, ⟨[c0], [c1, c2, c3], rfl, k0_, ⟨[c1], [c2, c3], rfl, k1_, ⟨[c2], [c3], rfl, k2_, k3_⟩⟩⟩, o0, o1, o2, o3⟩⟩
set_option maxRecDepth 100000 in
theorem lifted (os : Os) (started : os.Started) (H : Type) (enc : TypeId × Value → H) :
    ReturnsInHanded {} Try.checked os 4 .any (Rows.fnListRunsSpec.pre6 enc Try.prog Try.f4 Rows.fnListRunsRow.domain false) (Rows.fnListRunsSpec.post enc Try.prog Try.f4 false true false false) := by
  refine returnsInHanded_of_change_sized (C := Try.checked) own started (by kernel_rfl) Try.func4
    (ChangeSpec.witness6 (enc := enc) (C := Try.checked) false ⟨#[], #[.slice none 0 0], []⟩ 8 (by kernel_rfl) (by kernel_rfl) (by kernel_rfl) (by kernel_rfl)) ?_
  intro W base args ds gs before hval0 hW hcnd hsz0 _
  have hsz : (DataW.weightsEach Try.prog (Try.f4.params.toList ++ Rows.fnListRunsSpec.plain.varTypes Try.prog) (ds ++ gs)).all (· ≤ reachBytes) = true := hsz0
  have hval : ∀ (j : Nat) t v, Try.f4.params[j]? = some t → args[j]? = some v → Value.okWide Try.prog W .any base t v := hval0
  have hW' := hW
  obtain ⟨p, q, hA0, hV, rfl, hfz, hnd⟩ := hW
  have hA : DataW.TrodAll enc Try.prog W 0 (fun _ => true) true Try.f4.params.toList args.toList ds p := hA0
  rw [Try.params4] at hA hval hsz
  obtain ⟨v0, vs0, d0, ds0, p0, q0, hargs, rfl, rfl, h0, r0⟩ := trodAll_cons hA
  obtain ⟨rfl, rfl, rfl⟩ := trodAll_nil r0
  obtain rfl : args = #[v0] := by cases args; simp_all
  obtain ⟨rfl, rfl⟩ := trodVars_none hV
  have k0 := h0
  have lt0 := Open.trod_blocks k0
  obtain ⟨A0, c0, l0, rfl, hc0, hm0, hr0, ok0⟩ := Open.open_arg (d := k27) reads_T27 Try.underlying22 (hval 0 22 v0 rfl rfl) h0
  clear hA0 hval0 hsz0 hsz
  obtain ⟨kk_, hk_⟩ := (Pure.FnListRuns l0 )
  refine (laws_FnListRuns.calls kk_ A0 c0 l0 true W hr0 hc0 hk_).mono fun e W' ⟨he, bel0⟩ => ?_
  have bel : Below W.heap.size W W' := bel0
  subst he
  exact ⟨_, rfl, _, _, _, [], _, [], hW', trodAll_mk1 (shut_bool Try.underlying4 _), (trodAll_cons_mk (Below.trod laidOut (by kernel_rfl) (of_decide_eq_true (by kernel_rfl)) k0 bel lt0) trodAll_mk0), rfl, bel.frame _, fun h => by cases h⟩
theorem over : Rows.fnListRunsRow.holds Try.pinned (OpenSpec.ofChange Rows.fnListRunsSpec) :=
  OpenClaim.holds_of_wide 4 Try.f4 rfl rfl rfl rfl rfl rfl rfl ⟨rfl, rfl, rfl, rfl, rfl⟩ rfl rfl rfl rfl rfl (by kernel_rfl) Try.func4 (by kernel_rfl)
    (of_decide_eq_true (by kernel_rfl)) (by unfold Func.isWrapper; first | (rw [if_pos (by decide +kernel)]; kernel_rfl) | (rw [if_neg (by decide +kernel)]; exact ⟨rfl, rfl⟩))
    (fun os started H enc _ => lifted os started H enc)
theorem proved : Rows.FnListRunsSaid := over
end Go.Proofs.Ytmhnhfmkcipcpaa.fnListRuns
namespace Go.Proofs.Ytmhnhfmkcipcpaa
/-- The row, under a short name, for the claim. -/
theorem fnListRuns_holds : Rows.FnListRunsSaid := fnListRuns.proved
end Go.Proofs.Ytmhnhfmkcipcpaa
