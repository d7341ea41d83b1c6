/- The machine's side of a law, as the kit's print writes it; of the functions that the print doesn't cover this session's own contracts stand in it: no condition. -/
import Derived.Test.YtdlnpmbnedmmnaaRopeN
import Derived.Test.YtdlnpmbnedmmnaaRow
import Derived.Test.YtdlnpmbnedmmnaaQFnRopeRunsx0
import Derived.Test.YtdlnpmbnedmmnaaQFnRopeRunsx1
import Derived.Test.YtdlnpmbnedmmnaaQFnRopeRunsx2
namespace Go.Proofs.Ytdlnpmbnedmmnaa.QFnRopeRuns
open Go.RowKit Go.Proofs.YtdlnpmbnedmmnaaW.PrintWords Go.Proofs.YtdlnpmbnedmmnaaW.PrintLast Go.Proofs.YtdlnpmbnedmmnaaW.PrintMore
attribute [local go_sem] max2_int min2_int max_two min_two max_three min_three max_four min_four   -- for this text's walks alone
set_option linter.unusedVariables false
set_option linter.unusedSimpArgs false

/-! ### spec_Rows: function 13 -/
def spec_Rows.l0 : Nat → List (S38) → List Int → List (S34) → Int → Option (List Int × (List (S34)) × Bool)
  | 0, _, _, _, _ => none
  | k + 1, x1, x7, x8, x9 => if x9 < (x1.length : Int) then (if 0 ≤ x9 then ((spec_May.f k x7 ((rd_T38 x1 x9).f0) ((rd_T38 x1 x9).f1) ((rd_T38 x1 x9).f2) ((rd_T38 x1 x9).f3)).bind fun t185 => (if t185 = true then ((spec_Cutting.f k x7 ((rd_T38 x1 x9).f0) ((rd_T38 x1 x9).f1) ((rd_T38 x1 x9).f2) ((rd_T38 x1 x9).f3)).bind fun bt187 => (if x8.length < 2513169434916 then (spec_Rows.l0 k x1 bt187.1 (x8 ++ [(⟨bt187.2.1, bt187.2.2.1, bt187.2.2.2⟩ : S34)]) (wrap64 (x9 + 1))) else (none))) else (some (([] : List Int), ([] : List (S34)), false)))) else (none)) else (some (x7, x8, true))
def spec_Rows.f (k : Nat) (l0 : List Int) (l1 : List (S38)) : Option (List Int × (List (S34)) × Bool) := (spec_Both.f l0 ([] : List Int)).bind fun t181 => (spec_Rows.l0 k l1 t181 ([] : List (S34)) 0)
theorem spec_Rows.mono_l : ∀ k, (∀ y0 y1 y2 y3, LeO (spec_Rows.l0 k y0 y1 y2 y3) (spec_Rows.l0 (k + 1) y0 y1 y2 y3))
  | 0 => fun _ _ _ _ r h => by simp [spec_Rows.l0] at h
  | k + 1 => by
    have ih0 := spec_Rows.mono_l k
    · intro y0 y1 y2 y3
      unfold spec_Rows.l0
      repeat' first
      | (with_reducible exact ih0 _ _ _ _)
      | (with_reducible exact spec_Cutting.mono _ _ _ _ _ _)
      | (with_reducible exact spec_May.mono _ _ _ _ _ _)
      | (with_reducible exact LeO.refl _)
      | (with_reducible exact LeO.none _)
      | (with_reducible refine LeO.ite ?_ ?_)
      | (with_reducible refine LeO.bind ?_ (fun _ => ?_))
      | exact ih0 _ _ _ _
      | exact spec_Cutting.mono _ _ _ _ _ _
      | exact spec_May.mono _ _ _ _ _ _
      | exact LeO.none _
      | refine LeO.ite ?_ ?_
      | refine LeO.bind ?_ (fun _ => ?_)
theorem spec_Rows.mono : ∀ a0 a1 k, LeO (spec_Rows.f k a0 a1) (spec_Rows.f (k + 1) a0 a1) := by
  intro a0 a1 k
  have ih0 := spec_Rows.mono_l k
  unfold spec_Rows.f
  repeat' first
      | (with_reducible exact ih0 _ _ _ _)
      | (with_reducible exact spec_Cutting.mono _ _ _ _ _ _)
      | (with_reducible exact spec_May.mono _ _ _ _ _ _)
      | (with_reducible exact LeO.refl _)
      | (with_reducible exact LeO.none _)
      | (with_reducible refine LeO.ite ?_ ?_)
      | (with_reducible refine LeO.bind ?_ (fun _ => ?_))
      | exact ih0 _ _ _ _
      | exact spec_Cutting.mono _ _ _ _ _ _
      | exact spec_May.mono _ _ _ _ _ _
      | exact LeO.none _
      | refine LeO.ite ?_ ?_
      | refine LeO.bind ?_ (fun _ => ?_)
set_option maxHeartbeats 8000000 in
set_option maxRecDepth 100000 in
theorem spec_Rows.calls (k : Nat) (A0 : Option Addr) (c0 : Nat) (l0 : List Int) (A1 : Option Addr) (c1 : Nat) (l1 : List (S38)) (r1 : List Int) (r2 : List (S34)) (r3 : Bool) (w : World) (hr0 : Kd.C (Kd.int .i64) w A0 l0.length l0) (hc0 : l0.length ≤ c0) (hr1 : Kd.C k38 w A1 l1.length l1) (hc1 : l1.length ≤ c1) (h : spec_Rows.f k l0 l1 = some (r1, r2, r3)) :
    Calls Try.prog 13 #[.slice A0 l0.length c0, .slice A1 l1.length c1] w fun e w' => ∃ v0_ v1_ : Value, e = .returned (.tuple #[v0_, v1_, .bool r3]) ∧ Kd.V (Kd.int .i64) 3 w' w.heap.size (fun k_ => (w.heap.size ≤ k_) ∧ some k_ ≠ (v1_ : Value).ownBlock) v0_ r1 ∧ Kd.N k34 34 w' w.heap.size (fun k_ => (w.heap.size ≤ k_)) v1_ r2 ∧ Below w.heap.size w w' := by
  have hu38 := Try.underlying38
  have hu34 := Try.underlying34
  have HR0 := Aside0.mk hr0
  have HC0 := Aside0.mk hc0
  clear hr0 hc0
  have HR1 := Aside0.mk hr1
  have HC1 := Aside0.mk hc1
  clear hr1 hc1
  have HB := Aside0.mk (Below.refl w.heap.size w)
  have H : ((spec_Both.f l0 ([] : List Int)).bind fun t181 => (spec_Rows.l0 k l1 t181 ([] : List (S34)) 0)) = some (r1, r2, r3) := h
  clear h
  replace H := Option.bind_eq_some_iff.mp H
  obtain ⟨t181, A30, H⟩ := H
  replace H : (spec_Rows.l0 k l1 t181 ([] : List (S34)) 0) = some (r1, r2, r3) := H
  have A3 := Aside0.mk A30
  clear A30
  have H' := Aside0.mk H
  clear H
  go_enter Try.func13, Try.ntmps13
  go_wp2_with (first | ((with_reducible refine gate_callee (f := 9) rfl ?_); refine goesL_ (some 13) rfl rfl Try.func9 (by kernel_rfl) rfl #[.slice A0 l0.length c0, .slice none 0 0] rfl (by (try simp only [List.map_toArray, List.map_cons, List.map_nil]); first | done | rfl | (simp only [List.length_drop, List.length_take]; rfl)) ?_; (refine (spec_Both.calls _ _ l0 _ _ ([] : List Int) t181 _ ?side1 ?side2 ?side3 ?side4 A3.out).mono ?_); (case side1 => repeat (first | exact HR0.out | (with_reducible refine Kd.C_alloc ?_ _) | (with_reducible refine Kd.C_drewN ?_ _) | (with_reducible refine Kd.C_drew ?_))); (case side2 => exact HC0.out); (case side3 => exact Kd.C_nil _ _); (case side4 => exact Nat.le_refl _); rintro e w4 ⟨v182, rfl, ho0, hb⟩; refine ⟨_, rfl, ?_⟩; have n0_ := Aside0.mk (Kd.R_lower (Kd.R_newM (M := fun k_ => (w.heap.size ≤ k_)) ho0 (below_size (by repeat (first | (with_reducible first | exact HB.out | apply below_alloc | apply pw_below_drewN | apply below_drew1) | exact HB.out))) (fun k_ h_ => h_)) (below_size (by repeat (first | (with_reducible first | exact HB.out | apply below_alloc | apply pw_below_drewN | apply below_drew1) | exact HB.out)))); have n1_ := Aside0.mk (below_step (by repeat (first | (with_reducible first | exact HB.out | apply below_alloc | apply pw_below_drewN | apply below_drew1) | exact HB.out)) hb); clear HB; have HO183 := n0_; have HB := n1_; clear n0_ n1_; (try clear hb); (try clear hb2); (try clear hk); (try clear hi); (try clear ho0)))
  go_loopg [7, 8, 9] k (fun kq v7 v8 v9 w' => ∃ (x7_1 : List Int) (x8_1 : List (S34)) (x9_1 : Int), v9 = .int .i64 x9_1 ∧ Aside0 (spec_Rows.l0 kq l1 x7_1 x8_1 x9_1 = some (r1, r2, r3)) ∧ Aside0 (kq ≤ k) ∧ Aside0 (Kd.V (Kd.int .i64) 3 w' w.heap.size (fun k_ => (w.heap.size ≤ k_) ∧ some k_ ≠ (v8 : Value).ownBlock) v7 x7_1) ∧ Aside0 (Kd.N k34 34 w' w.heap.size (fun k_ => (w.heap.size ≤ k_)) v8 x8_1) ∧ Aside0 (Below w.heap.size w w'))
  case atStart => exact ⟨(t181), (([] : List (S34))), (0), (by first | rfl | (simp; done) | (simp [*]; done)), H', ⟨Nat.le_refl _⟩, ⟨Kd.R_V (by (with_reducible repeat (first | apply Kd.R_alloc | apply Kd.R_drewN | apply Kd.R_drew)); exact Kd.R_mono HO183.out (fun _ hk => ⟨hk.1, (by simp [Value.ownBlock])⟩))⟩, ⟨by first | exact Kd.S_nil _ _ _ _ _ | exact Kd.N_nil _ _ _ _ _ | exact Kd.V_nil _ _ _ _ _ | exact Kd.Q_nil _ _ _ _ _ | exact Kd.R_nil _ _ _ _ _⟩, ⟨by repeat (first | (with_reducible first | exact HB.out | apply below_alloc | apply pw_below_drewN | apply below_drew1) | exact HB.out)⟩⟩
  case round =>
    clear H'
    try clear c1
    try clear p2
    obtain ⟨x7_1, x8_1, x9_1, rfl, HA, HK1, HO_7, HO_8, HB⟩ := hrel
    cases gk with
    | zero => exact absurd HA.out (by simp [spec_Rows.l0])
    | succ k1 =>
      have H := HA.out
      clear HA
      simp only [spec_Rows.l0] at H
      by_cases c5 : x9_1 < (l1.length : Int)
      · rw [if_pos c5] at H
        have c5b0 : decide (x9_1 < (l1.length : Int)) = true := decide_eq_true c5
        clear c5
        by_cases c6 : 0 ≤ x9_1
        · rw [if_pos c6] at H
          have c6b0 : decide (0 ≤ x9_1) = true := decide_eq_true c6
          clear c6
          replace H := Option.bind_eq_some_iff.mp H
          obtain ⟨t185, A70, H⟩ := H
          replace H : (if t185 = true then ((spec_Cutting.f k1 x7_1 ((rd_T38 l1 x9_1).f0) ((rd_T38 l1 x9_1).f1) ((rd_T38 l1 x9_1).f2) ((rd_T38 l1 x9_1).f3)).bind fun bt187 => (if x8_1.length < 2513169434916 then (spec_Rows.l0 k1 l1 bt187.1 (x8_1 ++ [(⟨bt187.2.1, bt187.2.2.1, bt187.2.2.2⟩ : S34)]) (wrap64 (x9_1 + 1))) else (none))) else (some (([] : List Int), ([] : List (S34)), false))) = some (r1, r2, r3) := H
          have A7 := Aside0.mk A70
          clear A70
          by_cases c8 : t185 = true
          · subst c8
            have H1 : ((spec_Cutting.f k1 x7_1 ((rd_T38 l1 x9_1).f0) ((rd_T38 l1 x9_1).f1) ((rd_T38 l1 x9_1).f2) ((rd_T38 l1 x9_1).f3)).bind fun bt187 => (if x8_1.length < 2513169434916 then (spec_Rows.l0 k1 l1 bt187.1 (x8_1 ++ [(⟨bt187.2.1, bt187.2.2.1, bt187.2.2.2⟩ : S34)]) (wrap64 (x9_1 + 1))) else (none))) = some (r1, r2, r3) := by rw [if_pos rfl] at H; exact H
            clear H
            have H := H1
            clear H1
            replace H := Option.bind_eq_some_iff.mp H
            obtain ⟨⟨t187, t190, t191, t194⟩, A90, H⟩ := H
            replace H : (if x8_1.length < 2513169434916 then (spec_Rows.l0 k1 l1 t187 (x8_1 ++ [(⟨t190, t191, t194⟩ : S34)]) (wrap64 (x9_1 + 1))) else (none)) = some (r1, r2, r3) := H
            have A9 := Aside0.mk A90
            clear A90
            by_cases c10 : x8_1.length < 2513169434916
            · rw [if_pos c10] at H
              have LMc10 := Aside0.mk c10
              clear c10
              obtain ⟨y198, hy198⟩ : ∃ y_ : List (S34), y_ = (x8_1 ++ [(⟨t190, t191, t194⟩ : S34)]) := ⟨_, rfl⟩
              replace H : (spec_Rows.l0 k1 l1 t187 y198 (wrap64 (x9_1 + 1))) = some (r1, r2, r3) := by first | (rw [hy198]; with_reducible exact H) | (have H2_ := (Option.bind_some _ _).symm.trans H; rw [hy198]; with_reducible exact H2_) | (have H2_ := (Option.bind_some _ _).symm.trans H; with_reducible exact H2_) | with_reducible exact H | (rw [hy198]; exact H) | exact H
              have Ny198 := Aside0.mk hy198
              clear hy198
              have H' := Aside0.mk H
              clear H
              have p184 : 0 ≤ (x9_1 : Int) := of_decide_eq_true (by first | (with_reducible assumption) | assumption)
              have q184 : x9_1 < (l1.length : Int) := of_decide_eq_true (by first | (with_reducible assumption) | assumption)
              obtain ⟨ad184, A184_3, c184_3, e184, hx184_0, hx184_1, hx184_2, hx184_3, hl184_3, hi184_3⟩ := at_T38 HR1.out x9_1 p184 q184
              cases e184
              replace hx184_0 := (HB.out.cell (World.block_lt_of_cell? w _ hx184_0)).trans hx184_0
              replace hx184_1 := (HB.out.cell (World.block_lt_of_cell? w _ hx184_1)).trans hx184_1
              replace hx184_2 := (HB.out.cell (World.block_lt_of_cell? w _ hx184_2)).trans hx184_2
              replace hx184_3 := (HB.out.cell (World.block_lt_of_cell? w _ hx184_3)).trans hx184_3
              have HR184_3 := Aside0.mk hi184_3
              have HC184_3 := Aside0.mk hl184_3
              clear hi184_3 hl184_3
              replace p184 := eq_true p184
              replace q184 := eq_true q184
              obtain ⟨Ao11, co11, eo11⟩ := Kd.V_slice HO_7.out
              subst eo11
              go_wp2_with (first | ((with_reducible refine gate_callee (f := 24) rfl ?_); refine goesL_ (some 25) rfl rfl Try.func24 (by kernel_rfl) rfl #[.slice Ao11 x7_1.length co11, .agg #[.int .i64 ((rd_T38 l1 x9_1).f0), .int .i64 ((rd_T38 l1 x9_1).f1), .int .i64 ((rd_T38 l1 x9_1).f2), .slice A184_3 ((rd_T38 l1 x9_1).f3).length c184_3]] rfl (by (try simp only [List.map_toArray, List.map_cons, List.map_nil]); first | done | rfl | (simp only [List.length_drop, List.length_take]; rfl)) ?_; (with_reducible refine (spec_May.calls k1 _ _ x7_1 ((rd_T38 l1 x9_1).f0) ((rd_T38 l1 x9_1).f1) ((rd_T38 l1 x9_1).f2) _ _ ((rd_T38 l1 x9_1).f3) true _ ?side1 ?side2 ?side3 ?side4 A7.out).mono ?_); (case side1 => repeat (first | exact (Kd.V_reads' HO_7.out).2.2 | (with_reducible refine Kd.C_alloc ?_ _) | (with_reducible refine Kd.C_drewN ?_ _) | (with_reducible refine Kd.C_drew ?_))); (case side2 => exact (Kd.V_reads' HO_7.out).2.1); (case side3 => repeat (first | exact (Kd.C_below HR184_3.out HB.out) | (with_reducible refine Kd.C_alloc ?_ _) | (with_reducible refine Kd.C_drewN ?_ _) | (with_reducible refine Kd.C_drew ?_))); (case side4 => exact HC184_3.out); rintro e w12 ⟨rfl, hb⟩; refine ⟨_, rfl, ?_⟩; have n0_ := Aside0.mk (Kd.V_below (by (with_reducible repeat (first | apply Kd.V_alloc | apply Kd.V_drewN | apply Kd.V_drew)); exact HO_7.out) hb); have n1_ := Aside0.mk (Kd.N_below (by (with_reducible repeat (first | apply Kd.N_alloc | apply Kd.N_drewN | apply Kd.N_drew)); exact HO_8.out) hb); have n2_ := Aside0.mk (below_step (by repeat (first | (with_reducible first | exact HB.out | apply below_alloc | apply pw_below_drewN | apply below_drew1) | exact HB.out)) hb); clear HO_7; clear HO_8; clear HB; have HO_7 := n0_; have HO_8 := n1_; have HB := n2_; clear n0_ n1_ n2_; (try clear hb); (try clear hb2); (try clear hk); (try clear hi); have p186 : 0 ≤ (x9_1 : Int) := of_decide_eq_true (by first | (with_reducible assumption) | assumption); have q186 : x9_1 < (l1.length : Int) := of_decide_eq_true (by first | (with_reducible assumption) | assumption); obtain ⟨ad186, A186_3, c186_3, e186, hx186_0, hx186_1, hx186_2, hx186_3, hl186_3, hi186_3⟩ := at_T38 HR1.out x9_1 p186 q186; obtain rfl : ad184 = ad186 := (by injection e186); replace hx186_0 := (HB.out.cell (World.block_lt_of_cell? w _ hx186_0)).trans hx186_0; replace hx186_1 := (HB.out.cell (World.block_lt_of_cell? w _ hx186_1)).trans hx186_1; replace hx186_2 := (HB.out.cell (World.block_lt_of_cell? w _ hx186_2)).trans hx186_2; replace hx186_3 := (HB.out.cell (World.block_lt_of_cell? w _ hx186_3)).trans hx186_3; have HR186_3 := Aside0.mk hi186_3; have HC186_3 := Aside0.mk hl186_3; clear hi186_3 hl186_3; replace p186 := eq_true p186; replace q186 := eq_true q186) | ((with_reducible refine gate_callee (f := 25) rfl ?_); refine goesL_ (some 33) rfl rfl Try.func25 (by kernel_rfl) rfl #[.slice Ao11 x7_1.length co11, .agg #[.int .i64 ((rd_T38 l1 x9_1).f0), .int .i64 ((rd_T38 l1 x9_1).f1), .int .i64 ((rd_T38 l1 x9_1).f2), .slice A186_3 ((rd_T38 l1 x9_1).f3).length c186_3]] rfl (by (try simp only [List.map_toArray, List.map_cons, List.map_nil]); first | done | rfl | (simp only [List.length_drop, List.length_take]; rfl)) ?_; (with_reducible refine (spec_Cutting.calls k1 (fun k_ => ((w.heap.size ≤ k_) ∧ some k_ ≠ (u8 : Value).ownBlock)) _ _ x7_1 ((rd_T38 l1 x9_1).f0) ((rd_T38 l1 x9_1).f1) ((rd_T38 l1 x9_1).f2) _ _ ((rd_T38 l1 x9_1).f3) t187 t190 t191 t194 _ ?side1 ?side2 ?side3 A9.out).mono ?_); (case side1 => exact HO_7.out); (case side2 => repeat (first | exact (Kd.C_below HR186_3.out HB.out) | (with_reducible refine Kd.C_alloc ?_ _) | (with_reducible refine Kd.C_drewN ?_ _) | (with_reducible refine Kd.C_drew ?_))); (case side3 => exact HC186_3.out); rintro e w13 ⟨v188, v192, v195, rfl, ho0, ho1, ho2, hb⟩; refine ⟨_, rfl, ?_⟩; have n0_ := Aside0.mk (Kd.V_elder' (by (with_reducible repeat (first | apply Kd.V_alloc | apply Kd.V_drewN | apply Kd.V_drew)); exact HO_7.out) (Kd.R_base ho2) hb); have n1_ := Aside0.mk (Kd.N_elder' (by (with_reducible repeat (first | apply Kd.N_alloc | apply Kd.N_drewN | apply Kd.N_drew)); exact HO_8.out) (Kd.R_base ho2) hb); have n2_ := Aside0.mk (Kd.V_lower (Kd.V_mono (ok' := fun k_ => (w.heap.size ≤ k_) ∧ some k_ ≠ (v195 : Value).ownBlock ∧ some k_ ≠ (u8 : Value).ownBlock) ho0 (fun k_ hk_ => ⟨Or.elim hk_.1 (fun hs_ => hs_.1) (fun hn_ => (Nat.le_trans (below_size (by repeat (first | (with_reducible first | exact HB.out | apply below_alloc | apply pw_below_drewN | apply below_drew1) | exact HB.out))) hn_)), hk_.2, Or.elim hk_.1 (fun hs_ => hs_.2) (fun hn_ => (Kd.fresh' (Kd.N_lt (by (with_reducible repeat (first | apply Kd.N_alloc | apply Kd.N_drewN | apply Kd.N_drew)); exact HO_8.out)) k_ hn_))⟩)) (below_size (by repeat (first | (with_reducible first | exact HB.out | apply below_alloc | apply pw_below_drewN | apply below_drew1) | exact HB.out)))); have n3_ := Aside0.mk (Kd.V_lower (Kd.V_mono (ok' := fun k_ => (w.heap.size ≤ k_) ∧ some k_ ≠ (v195 : Value).ownBlock ∧ some k_ ≠ (u8 : Value).ownBlock) ho1 (fun k_ hk_ => ⟨Or.elim hk_.1 (fun hs_ => hs_.1) (fun hn_ => (Nat.le_trans (below_size (by repeat (first | (with_reducible first | exact HB.out | apply below_alloc | apply pw_below_drewN | apply below_drew1) | exact HB.out))) hn_)), hk_.2, Or.elim hk_.1 (fun hs_ => hs_.2) (fun hn_ => (Kd.fresh' (Kd.N_lt (by (with_reducible repeat (first | apply Kd.N_alloc | apply Kd.N_drewN | apply Kd.N_drew)); exact HO_8.out)) k_ hn_))⟩)) (below_size (by repeat (first | (with_reducible first | exact HB.out | apply below_alloc | apply pw_below_drewN | apply below_drew1) | exact HB.out)))); have n4_ := Aside0.mk (Kd.R_lower (Kd.R_newM (M := fun k_ => (w.heap.size ≤ k_)) (Kd.R_mono (ok' := fun k_ => True) ho2 (fun _ hk_ => trivial)) (below_size (by repeat (first | (with_reducible first | exact HB.out | apply below_alloc | apply pw_below_drewN | apply below_drew1) | exact HB.out))) (fun k_ h_ => h_)) (below_size (by repeat (first | (with_reducible first | exact HB.out | apply below_alloc | apply pw_below_drewN | apply below_drew1) | exact HB.out)))); have n5_ := Aside0.mk (below_step (by repeat (first | (with_reducible first | exact HB.out | apply below_alloc | apply pw_below_drewN | apply below_drew1) | exact HB.out)) hb); clear HO_7; clear HO_8; clear HB; have HO_7 := n0_; have HO_8 := n1_; have HO189 := n2_; have HO193 := n3_; have HO196 := n4_; have HB := n5_; clear n0_ n1_ n2_ n3_ n4_ n5_; (try clear hb); (try clear hb2); (try clear hk); (try clear hi); (try clear ho0); (try clear ho1); (try clear ho2)) | ((with_reducible refine gate_dst (N := 11) rfl ?_); refine box_event ?hg (N := 11) ?hd (cs := #[.int .i64 0, .slice none 0 0, .slice none 0 0]) (t := 34) ?hr ?_; (case hd => rfl); (case hg => rfl); (case hr => first | (go_simp; done) | (go_simp; rfl)); intro gb197 hg w14 hbox hb; have n0_ := Aside0.mk (Kd.V_below (Kd.V_elderB (by (with_reducible repeat (first | apply Kd.V_alloc | apply Kd.V_drewN | apply Kd.V_drew)); exact HO_7.out) gb197 (Nat.le_of_eq hg.symm)) hb); have n1_ := Aside0.mk (Kd.N_below (Kd.N_elderB (by (with_reducible repeat (first | apply Kd.N_alloc | apply Kd.N_drewN | apply Kd.N_drew)); exact HO_8.out) gb197 (Nat.le_of_eq hg.symm)) hb); have n2_ := Aside0.mk (Kd.V_below (Kd.V_elderB (by (with_reducible repeat (first | apply Kd.V_alloc | apply Kd.V_drewN | apply Kd.V_drew)); exact HO189.out) gb197 (Nat.le_of_eq hg.symm)) hb); have n3_ := Aside0.mk (Kd.V_below (Kd.V_elderB (by (with_reducible repeat (first | apply Kd.V_alloc | apply Kd.V_drewN | apply Kd.V_drew)); exact HO193.out) gb197 (Nat.le_of_eq hg.symm)) hb); have n4_ := Aside0.mk (Kd.R_below (by (with_reducible repeat (first | apply Kd.R_alloc | apply Kd.R_drewN | apply Kd.R_drew)); exact HO196.out) hb); have n5_ := Aside0.mk (below_step (by repeat (first | (with_reducible first | exact HB.out | apply below_alloc | apply pw_below_drewN | apply below_drew1) | exact HB.out)) hb); have n6_ := Aside0.mk (hbox); have n7_ := Aside0.mk ((by rw [hg]; exact (below_size (by repeat (first | (with_reducible first | exact HB.out | apply below_alloc | apply pw_below_drewN | apply below_drew1) | exact HB.out))) : w.heap.size ≤ gb197)); have n8_ := Aside0.mk ((by rw [hg]; exact (below_size (by repeat (first | (with_reducible first | exact HB.out | apply below_alloc | apply pw_below_drewN | apply below_drew1) | exact HB.out))) : w.heap.size ≤ gb197)); clear HO_7; clear HO_8; clear HO189; clear HO193; clear HO196; clear HB; have HO_7 := n0_; have HO_8 := n1_; have HO189 := n2_; have HO193 := n3_; have HO196 := n4_; have HB := n5_; have BK197 := n6_; have GW197 := n7_; have GE197 := n8_; clear n0_ n1_ n2_ n3_ n4_ n5_ n6_ n7_ n8_; clear hb hbox hg; have hcz15_0 : w14.cell? ⟨gb197, 0, none⟩ = some (.int .i64 0) := (blk_cell BK197.out 0).trans rfl; have hcz15_1 : w14.cell? ⟨gb197, 1, none⟩ = some (.slice none 0 0) := (blk_cell BK197.out 1).trans rfl; have hcz15_2 : w14.cell? ⟨gb197, 2, none⟩ = some (.slice none 0 0) := (blk_cell BK197.out 2).trans rfl; have hfz15_0 := blk_frozen BK197.out 0; have hfz15_1 := blk_frozen BK197.out 1; have hfz15_2 := blk_frozen BK197.out 2; obtain ⟨Ao16, co16, eo16⟩ := Kd.V_slice HO193.out; subst eo16; obtain ⟨Ao17, co17, eo17⟩ := Kd.R_slice HO196.out; subst eo17) | ((with_reducible refine gate_store (t := 34) (p := 11) rfl ?_); refine store_event (t := 34) (p := 11) (v := ?vo_w18) (w1 := (((w14.setCell ⟨gb197, 0, none⟩ (.int .i64 t190)).setCell ⟨gb197, 1, none⟩ (.slice Ao16 t191.length co16)).setCell ⟨gb197, 2, none⟩ (.slice Ao17 t194.length co17))) ?hg ?ho ?hn ?hr ?_; (case ho => rfl); (case hg => rfl); (case hn => rfl); (case hr => first | (go_simp; done) | (go_simp; rfl)); intro w18 hw; have n0_ : Aside0 (Kd.V (Kd.int .i64) 3 w18 w.heap.size (fun k_ => (w.heap.size ≤ k_) ∧ some k_ ≠ (u8 : Value).ownBlock ∧ some k_ ≠ (.slice Ao17 t194.length co17 : Value).ownBlock ∧ k_ ≠ gb197) (.slice Ao11 x7_1.length co11) x7_1) := ⟨(by rw [hw]; exact (by (with_reducible repeat (first | apply Kd.V_alloc | apply Kd.V_drewN | apply Kd.V_drew)); exact Kd.V_mono (Kd.V_far (p := ⟨gb197, 2, none⟩) (Kd.V_far (p := ⟨gb197, 1, none⟩) (Kd.V_far (p := ⟨gb197, 0, none⟩) (Kd.V_mono HO_7.out (fun k_ hk => (⟨hk, hk.2⟩ : _ ∧ k_ ≠ gb197))) (fun _ hk => hk.2) (.int .i64 t190)) (fun _ hk => hk.2) (.slice Ao16 t191.length co16)) (fun _ hk => hk.2) (.slice Ao17 t194.length co17)) (fun _ hk => ⟨hk.1.1.1.1, ⟨hk.1.1.1.2, ⟨hk.1.1.2, hk.1.2⟩⟩⟩)))⟩; have n1_ : Aside0 (Kd.N k34 34 w18 w.heap.size (fun k_ => (w.heap.size ≤ k_) ∧ some k_ ≠ (.slice Ao17 t194.length co17 : Value).ownBlock ∧ k_ ≠ gb197) u8 x8_1) := ⟨(by rw [hw]; exact (by (with_reducible repeat (first | apply Kd.N_alloc | apply Kd.N_drewN | apply Kd.N_drew)); exact Kd.N_mono (Kd.N_far (p := ⟨gb197, 2, none⟩) (Kd.N_far (p := ⟨gb197, 1, none⟩) (Kd.N_far (p := ⟨gb197, 0, none⟩) (Kd.N_mono HO_8.out (fun k_ hk => (⟨hk, hk.2⟩ : _ ∧ k_ ≠ gb197))) (fun _ hk => hk.2) (.int .i64 t190)) (fun _ hk => hk.2) (.slice Ao16 t191.length co16)) (fun _ hk => hk.2) (.slice Ao17 t194.length co17)) (fun _ hk => ⟨hk.1.1.1, ⟨hk.1.1.2, hk.1.2⟩⟩)))⟩; have n2_ : Aside0 (Kd.V (Kd.int .i64) 3 w18 w.heap.size (fun k_ => (w.heap.size ≤ k_) ∧ some k_ ≠ (u8 : Value).ownBlock ∧ some k_ ≠ (.slice Ao17 t194.length co17 : Value).ownBlock ∧ k_ ≠ gb197) v188 t187) := ⟨(by rw [hw]; exact (by (with_reducible repeat (first | apply Kd.V_alloc | apply Kd.V_drewN | apply Kd.V_drew)); exact Kd.V_mono (Kd.V_far (p := ⟨gb197, 2, none⟩) (Kd.V_far (p := ⟨gb197, 1, none⟩) (Kd.V_far (p := ⟨gb197, 0, none⟩) (Kd.V_mono HO189.out (fun k_ hk => (⟨hk, hk.2⟩ : _ ∧ k_ ≠ gb197))) (fun _ hk => hk.2) (.int .i64 t190)) (fun _ hk => hk.2) (.slice Ao16 t191.length co16)) (fun _ hk => hk.2) (.slice Ao17 t194.length co17)) (fun _ hk => ⟨hk.1.1.1, ⟨hk.1.1.2.2, ⟨hk.1.1.2.1, hk.1.2⟩⟩⟩)))⟩; have n3_ : Aside0 (Kd.V (Kd.int .i64) 3 w18 w.heap.size (fun k_ => (w.heap.size ≤ k_) ∧ some k_ ≠ (u8 : Value).ownBlock ∧ some k_ ≠ (.slice Ao17 t194.length co17 : Value).ownBlock ∧ k_ ≠ gb197) (.slice Ao16 t191.length co16) t191) := ⟨(by rw [hw]; exact (by (with_reducible repeat (first | apply Kd.V_alloc | apply Kd.V_drewN | apply Kd.V_drew)); exact Kd.V_mono (Kd.V_far (p := ⟨gb197, 2, none⟩) (Kd.V_far (p := ⟨gb197, 1, none⟩) (Kd.V_far (p := ⟨gb197, 0, none⟩) (Kd.V_mono HO193.out (fun k_ hk => (⟨hk, hk.2⟩ : _ ∧ k_ ≠ gb197))) (fun _ hk => hk.2) (.int .i64 t190)) (fun _ hk => hk.2) (.slice Ao16 t191.length co16)) (fun _ hk => hk.2) (.slice Ao17 t194.length co17)) (fun _ hk => ⟨hk.1.1.1, ⟨hk.1.1.2.2, ⟨hk.1.1.2.1, hk.1.2⟩⟩⟩)))⟩; have n4_ : Aside0 (Kd.R (Kd.int .i64) 3 w18 w.heap.size (fun k_ => (w.heap.size ≤ k_)) (.slice Ao17 t194.length co17) t194) := ⟨(by rw [hw]; exact (by (with_reducible repeat (first | apply Kd.R_alloc | apply Kd.R_drewN | apply Kd.R_drew)); exact Kd.R_mono (Kd.R_far (p := ⟨gb197, 2, none⟩) (Kd.R_far (p := ⟨gb197, 1, none⟩) (Kd.R_far (p := ⟨gb197, 0, none⟩) (Kd.R_types HO196.out BK197.out (by decide)) (fun _ hk => hk.2) (.int .i64 t190)) (fun _ hk => hk.2) (.slice Ao16 t191.length co16)) (fun _ hk => hk.2) (.slice Ao17 t194.length co17)) (fun _ hk => hk.1.1)))⟩; have n5_ : Aside0 (w18.heap[gb197]? = some (.cells #[.int .i64 t190, .slice Ao16 t191.length co16, .slice Ao17 t194.length co17] 34 (0, 0))) := ⟨(by rw [hw]; exact (by (with_reducible repeat (first | refine blk_drewN ?_ _ | refine blk_drew ?_ | refine blk_alloc ?_ _)); refine blk_put (cs := #[.int .i64 t190, .slice Ao16 t191.length co16, .slice none 0 0]) ?_ 2 _ rfl; (with_reducible repeat (first | refine blk_drewN ?_ _ | refine blk_drew ?_ | refine blk_alloc ?_ _)); refine blk_put (cs := #[.int .i64 t190, .slice none 0 0, .slice none 0 0]) ?_ 1 _ rfl; (with_reducible repeat (first | refine blk_drewN ?_ _ | refine blk_drew ?_ | refine blk_alloc ?_ _)); refine blk_put (cs := #[.int .i64 0, .slice none 0 0, .slice none 0 0]) ?_ 0 _ rfl; (with_reducible repeat (first | refine blk_drewN ?_ _ | refine blk_drew ?_ | refine blk_alloc ?_ _)); exact BK197.out))⟩; have n6_ : Aside0 (Below w.heap.size w w18) := ⟨(by rw [hw]; exact (by repeat (first | (with_reducible first | exact HB.out | apply below_alloc | apply pw_below_drewN | apply below_drew1 | refine below_set ?_ GE197.out) | exact HB.out)))⟩; clear hw; clear HO_7; clear HO_8; clear HO189; clear HO193; clear HO196; clear BK197; clear HB; have HO_7 := n0_; have HO_8 := n1_; have HO189 := n2_; have HO193 := n3_; have HO196 := n4_; have BK197 := n5_; have HB := n6_; clear n0_ n1_ n2_ n3_ n4_ n5_ n6_; have hcz19_0 : w18.cell? ⟨gb197, 0, none⟩ = some (.int .i64 t190) := (blk_cell BK197.out 0).trans rfl; have hcz19_1 : w18.cell? ⟨gb197, 1, none⟩ = some (.slice Ao16 t191.length co16) := (blk_cell BK197.out 1).trans rfl; have hcz19_2 : w18.cell? ⟨gb197, 2, none⟩ = some (.slice Ao17 t194.length co17) := (blk_cell BK197.out 2).trans rfl; have hfz19_0 := blk_frozen BK197.out 0; have hfz19_1 := blk_frozen BK197.out 1; have hfz19_2 := blk_frozen BK197.out 2) | ((with_reducible refine gate_builtin (b := .append) (xs := #[.tmp 37, .tmp 39]) rfl ?_); at_builtin; refine Kd.N_append k34 (w0 := w) w.heap.size rfl (.tmp 37) (.tmp 39) 30 34 (.agg #[(.int .i64 0), (.slice none 0 0), (.slice none 0 0)]) 56 rfl Try.underlying30 info34 rfl (by decide) (by omega) u8 x8_1 (⟨t190, t191, t194⟩ : S34) [.int .i64 t190, .slice Ao16 t191.length co16, .slice Ao17 t194.length co17] (fun k_ => (w.heap.size ≤ k_) ∧ k_ ≠ gb197) (fun k_ => ((fun k_ => (w.heap.size ≤ k_) ∧ k_ ≠ gb197)) k_ ∧ some k_ ≠ (u8 : Value).ownBlock) rfl rfl ?aP (fun _ hk => hk) ?aF ?aO ?aB ?aS ?aL ?_; (case aP => exact (k34_mkF _ _ (⟨t190, t191, t194⟩ : S34) (Kd.V_reads' (Kd.V_mono (ok' := (fun k_ => ((fun k_ => (w.heap.size ≤ k_) ∧ k_ ≠ gb197)) k_ ∧ some k_ ≠ (u8 : Value).ownBlock)) (HO193.out) (fun k_ hk => ⟨⟨hk.1, hk.2.2.2⟩, hk.2.1⟩))).2.1 (Kd.V_F (Kd.V_mono (ok' := (fun k_ => ((fun k_ => (w.heap.size ≤ k_) ∧ k_ ≠ gb197)) k_ ∧ some k_ ≠ (u8 : Value).ownBlock)) (HO193.out) (fun k_ hk => ⟨⟨hk.1, hk.2.2.2⟩, hk.2.1⟩))) (Kd.R_reads' (Kd.R_mono (ok' := (fun k_ => ((fun k_ => (w.heap.size ≤ k_) ∧ k_ ≠ gb197)) k_ ∧ some k_ ≠ (u8 : Value).ownBlock)) (Kd.R_types (Kd.R_apart' (HO196.out) (Kd.N_typed HO_8.out) (by decide)) BK197.out (by decide)) (fun k_ hk => ⟨⟨hk.1.1, hk.2⟩, hk.1.2⟩))).2.1 (Kd.R_F (Kd.R_mono (ok' := (fun k_ => ((fun k_ => (w.heap.size ≤ k_) ∧ k_ ≠ gb197)) k_ ∧ some k_ ≠ (u8 : Value).ownBlock)) (Kd.R_types (Kd.R_apart' (HO196.out) (Kd.N_typed HO_8.out) (by decide)) BK197.out (by decide)) (fun k_ hk => ⟨⟨hk.1.1, hk.2⟩, hk.1.2⟩))))); (case aB => exact (by repeat (first | (with_reducible first | exact HB.out | apply below_alloc | apply pw_below_drewN | apply below_drew1 | refine below_set ?_ GE197.out) | exact HB.out))); (case aF => exact (fun k_ hk => ⟨(Nat.le_trans (below_size (by repeat (first | (with_reducible first | exact HB.out | apply below_alloc | apply pw_below_drewN | apply below_drew1 | refine below_set ?_ GE197.out) | exact HB.out))) hk), Kd.freshB (g := gb197) (o := .cells #[.int .i64 t190, .slice Ao16 t191.length co16, .slice Ao17 t194.length co17] 34 (0, 0)) (by (with_reducible repeat (first | refine blk_drewN ?_ _ | refine blk_drew ?_ | refine blk_alloc ?_ _)); exact BK197.out) k_ hk⟩)); (case aO => exact (by (with_reducible repeat (first | apply Kd.N_alloc | apply Kd.N_drewN | apply Kd.N_drew)); exact Kd.N_mono HO_8.out (fun _ hk => ⟨hk.1, hk.2.2⟩))); (case aS => exact (below_size (by repeat (first | (with_reducible first | exact HB.out | apply below_alloc | apply pw_below_drewN | apply below_drew1 | refine below_set ?_ GE197.out) | exact HB.out)))); (case aL => have := LMc10.out; omega); intro v199 w20 ho hb hg hat; rw [← Ny198.out] at ho; have n0_ := Aside0.mk (Kd.V_afterv (ok := (fun k_ => (w.heap.size ≤ k_) ∧ some k_ ≠ (.slice Ao17 t194.length co17 : Value).ownBlock ∧ k_ ≠ gb197)) (by (with_reducible repeat (first | apply Kd.V_alloc | apply Kd.V_drewN | apply Kd.V_drew)); exact Kd.V_mono HO_7.out (fun _ hk => ⟨⟨hk.1, ⟨hk.2.2.1, hk.2.2.2⟩⟩, hk.2.1⟩)) hg hat); have n1_ := Aside0.mk (Kd.V_afterv (ok := (fun k_ => (w.heap.size ≤ k_) ∧ some k_ ≠ (.slice Ao17 t194.length co17 : Value).ownBlock ∧ k_ ≠ gb197)) (by (with_reducible repeat (first | apply Kd.V_alloc | apply Kd.V_drewN | apply Kd.V_drew)); exact Kd.V_mono HO189.out (fun _ hk => ⟨⟨hk.1, ⟨hk.2.2.1, hk.2.2.2⟩⟩, hk.2.1⟩)) hg hat); have n2_ := Aside0.mk (Kd.V_afterv (ok := (fun k_ => (w.heap.size ≤ k_) ∧ some k_ ≠ (.slice Ao17 t194.length co17 : Value).ownBlock ∧ k_ ≠ gb197)) (by (with_reducible repeat (first | apply Kd.V_alloc | apply Kd.V_drewN | apply Kd.V_drew)); exact Kd.V_mono HO193.out (fun _ hk => ⟨⟨hk.1, ⟨hk.2.2.1, hk.2.2.2⟩⟩, hk.2.1⟩)) hg hat); have n3_ := Aside0.mk (blk_grown (g := gb197) (o := .cells #[.int .i64 t190, .slice Ao16 t191.length co16, .slice Ao17 t194.length co17] 34 (0, 0)) (by (with_reducible repeat (first | refine blk_drewN ?_ _ | refine blk_drew ?_ | refine blk_alloc ?_ _)); exact BK197.out) hg (Kd.N_away HO_8.out (fun _ hk => hk.2.2))); have n4_ := Aside0.mk (hb); have n5_ := Aside0.mk (ho); clear HO_7; clear HO189; clear HO193; clear BK197; clear HB; clear HO_8; clear HO196; have HO_7 := n0_; have HO189 := n1_; have HO193 := n2_; have BK197 := n3_; have HB := n4_; have HO200 := n5_; clear n0_ n1_ n2_ n3_ n4_ n5_; clear ho hb hg hat))
              go_roundg k1
              case measure => have := HK1.out; omega
              case rel => exact ⟨(t187), (y198), (wrap64 (x9_1 + 1)), (by first | rfl | (simp; done) | (simp [*]; done)), H', ⟨by have := HK1.out; omega⟩, ⟨by (with_reducible repeat (first | apply Kd.V_alloc | apply Kd.V_drewN | apply Kd.V_drew)); exact Kd.V_mono HO189.out (fun _ hk => ⟨hk.1.1, hk.2⟩)⟩, ⟨by (with_reducible repeat (first | apply Kd.N_alloc | apply Kd.N_drewN | apply Kd.N_drew)); exact Kd.N_mono HO200.out (fun _ hk => hk.1)⟩, ⟨by repeat (first | (with_reducible first | exact HB.out | apply below_alloc | apply pw_below_drewN | apply below_drew1 | refine below_set ?_ GE197.out) | exact HB.out)⟩⟩
            · rw [if_neg c10] at H
              exact absurd H (by simp)
          · replace c8 := Bool.eq_false_iff.mpr c8
            subst c8
            have H1 : (some (([] : List Int), ([] : List (S34)), false)) = some (r1, r2, r3) := by rw [if_neg (show ¬ (false = true) by decide)] at H; exact H
            clear H
            have H := H1
            clear H1
            simp only [Option.some.injEq, Prod.mk.injEq] at H
            obtain ⟨rfl, rfl, rfl⟩ := H
            have p184 : 0 ≤ (x9_1 : Int) := of_decide_eq_true (by first | (with_reducible assumption) | assumption)
            have q184 : x9_1 < (l1.length : Int) := of_decide_eq_true (by first | (with_reducible assumption) | assumption)
            obtain ⟨ad184, A184_3, c184_3, e184, hx184_0, hx184_1, hx184_2, hx184_3, hl184_3, hi184_3⟩ := at_T38 HR1.out x9_1 p184 q184
            cases e184
            replace hx184_0 := (HB.out.cell (World.block_lt_of_cell? w _ hx184_0)).trans hx184_0
            replace hx184_1 := (HB.out.cell (World.block_lt_of_cell? w _ hx184_1)).trans hx184_1
            replace hx184_2 := (HB.out.cell (World.block_lt_of_cell? w _ hx184_2)).trans hx184_2
            replace hx184_3 := (HB.out.cell (World.block_lt_of_cell? w _ hx184_3)).trans hx184_3
            have HR184_3 := Aside0.mk hi184_3
            have HC184_3 := Aside0.mk hl184_3
            clear hi184_3 hl184_3
            replace p184 := eq_true p184
            replace q184 := eq_true q184
            obtain ⟨Ao21, co21, eo21⟩ := Kd.V_slice HO_7.out
            subst eo21
            go_wp2_with (first | ((with_reducible refine gate_callee (f := 24) rfl ?_); refine goesL_ (some 25) rfl rfl Try.func24 (by kernel_rfl) rfl #[.slice Ao21 x7_1.length co21, .agg #[.int .i64 ((rd_T38 l1 x9_1).f0), .int .i64 ((rd_T38 l1 x9_1).f1), .int .i64 ((rd_T38 l1 x9_1).f2), .slice A184_3 ((rd_T38 l1 x9_1).f3).length c184_3]] rfl (by (try simp only [List.map_toArray, List.map_cons, List.map_nil]); first | done | rfl | (simp only [List.length_drop, List.length_take]; rfl)) ?_; (with_reducible refine (spec_May.calls k1 _ _ x7_1 ((rd_T38 l1 x9_1).f0) ((rd_T38 l1 x9_1).f1) ((rd_T38 l1 x9_1).f2) _ _ ((rd_T38 l1 x9_1).f3) false _ ?side1 ?side2 ?side3 ?side4 A7.out).mono ?_); (case side1 => repeat (first | exact (Kd.V_reads' HO_7.out).2.2 | (with_reducible refine Kd.C_alloc ?_ _) | (with_reducible refine Kd.C_drewN ?_ _) | (with_reducible refine Kd.C_drew ?_))); (case side2 => exact (Kd.V_reads' HO_7.out).2.1); (case side3 => repeat (first | exact (Kd.C_below HR184_3.out HB.out) | (with_reducible refine Kd.C_alloc ?_ _) | (with_reducible refine Kd.C_drewN ?_ _) | (with_reducible refine Kd.C_drew ?_))); (case side4 => exact HC184_3.out); rintro e w22 ⟨rfl, hb⟩; refine ⟨_, rfl, ?_⟩; have n0_ := Aside0.mk (Kd.V_below (by (with_reducible repeat (first | apply Kd.V_alloc | apply Kd.V_drewN | apply Kd.V_drew)); exact HO_7.out) hb); have n1_ := Aside0.mk (Kd.N_below (by (with_reducible repeat (first | apply Kd.N_alloc | apply Kd.N_drewN | apply Kd.N_drew)); exact HO_8.out) hb); have n2_ := Aside0.mk (below_step (by repeat (first | (with_reducible first | exact HB.out | apply below_alloc | apply pw_below_drewN | apply below_drew1) | exact HB.out)) hb); clear HO_7; clear HO_8; clear HB; have HO_7 := n0_; have HO_8 := n1_; have HB := n2_; clear n0_ n1_ n2_; (try clear hb); (try clear hb2); (try clear hk); (try clear hi)))
            go_ret3
            exact ⟨_, _, by first | rfl | (simp [errW_none, errW_some] <;> rfl) | (simp [*, errW_none, errW_some] <;> rfl), Kd.V_nil _ _ _ _ _, by first | exact Kd.S_nil _ _ _ _ _ | exact Kd.N_nil _ _ _ _ _ | exact Kd.V_nil _ _ _ _ _ | exact Kd.Q_nil _ _ _ _ _ | exact Kd.R_nil _ _ _ _ _, by repeat (first | (with_reducible first | exact HB.out | apply below_alloc | apply pw_below_drewN | apply below_drew1) | exact HB.out)⟩
        · rw [if_neg c6] at H
          exact absurd H (by simp)
      · rw [if_neg c5] at H
        have c5b0 : decide (x9_1 < (l1.length : Int)) = false := decide_eq_false c5
        clear c5
        simp only [Option.some.injEq, Prod.mk.injEq] at H
        obtain ⟨rfl, rfl, rfl⟩ := H
        go_wp2
        go_ret3
        exact ⟨_, _, by first | rfl | (simp [errW_none, errW_some] <;> rfl) | (simp [*, errW_none, errW_some] <;> rfl), by (with_reducible repeat (first | apply Kd.V_alloc | apply Kd.V_drewN | apply Kd.V_drew)); exact HO_7.out, by (with_reducible repeat (first | apply Kd.N_alloc | apply Kd.N_drewN | apply Kd.N_drew)); exact HO_8.out, by repeat (first | (with_reducible first | exact HB.out | apply below_alloc | apply pw_below_drewN | apply below_drew1) | exact HB.out)⟩

-- NOT PRINTED: function 29 (rope_concat_int)

-- NOT PRINTED: function 22 (rope_Node_int_Value)

-- NOT PRINTED: function 27 (rope_Node_int_adjust)

-- NOT PRINTED: function 19 (rope_New_int)

/-! ### impl_copied: function 20 -/
def impl_copied.f (l0 : List Int) : Option (List Int) := (some (([] : List Int) : List Int)).bind fun y201 => (if y201.length + l0.length < 17592186044416 then (some (y201 ++ l0)) else (none))
set_option maxHeartbeats 8000000 in
set_option maxRecDepth 100000 in
theorem impl_copied.calls (A0 : Option Addr) (c0 : Nat) (l0 : List Int) (r : List Int) (w : World) (hr0 : Kd.C (Kd.int .i64) w A0 l0.length l0) (hc0 : l0.length ≤ c0) (h : impl_copied.f l0 = some r) :
    Calls Try.prog 20 #[.slice A0 l0.length c0] w fun e w' => ∃ v0_ : Value, e = .returned (v0_) ∧ Kd.R (Kd.int .i64) 3 w' w.heap.size (fun _ => True) v0_ r ∧ Below w.heap.size w w' := by
  have HR0 := Aside0.mk hr0
  have HC0 := Aside0.mk hc0
  clear hr0 hc0
  have HB := Aside0.mk (Below.refl w.heap.size w)
  have H : ((some (([] : List Int) : List Int)).bind fun y201 => (if y201.length + l0.length < 17592186044416 then (some (y201 ++ l0)) else (none))) = some r := h
  clear h
  obtain ⟨y201, hy201⟩ : ∃ y_ : List Int, y_ = (([] : List Int)) := ⟨_, rfl⟩
  replace H : (if y201.length + l0.length < 17592186044416 then (some (y201 ++ l0)) else (none)) = some r := by first | (rw [hy201]; with_reducible exact H) | (have H2_ := (Option.bind_some _ _).symm.trans H; rw [hy201]; with_reducible exact H2_) | (have H2_ := (Option.bind_some _ _).symm.trans H; with_reducible exact H2_) | with_reducible exact H | (rw [hy201]; exact H) | exact H
  have Ny201 := Aside0.mk hy201
  clear hy201
  by_cases c2 : y201.length + l0.length < 17592186044416
  · rw [if_pos c2] at H
    have LMc2 := Aside0.mk c2
    clear c2
    obtain ⟨y204, hy204⟩ : ∃ y_ : List Int, y_ = (y201 ++ l0) := ⟨_, rfl⟩
    replace H : (some y204) = some r := by first | (rw [hy204]; with_reducible exact H) | (have H2_ := (Option.bind_some _ _).symm.trans H; rw [hy204]; with_reducible exact H2_) | (have H2_ := (Option.bind_some _ _).symm.trans H; with_reducible exact H2_) | with_reducible exact H | (rw [hy204]; exact H) | exact H
    have Ny204 := Aside0.mk hy204
    clear hy204
    obtain rfl := Option.some.inj H
    go_enter Try.func20, Try.ntmps20
    go_wp2_with (first | ((with_reducible refine gate_dst (N := 3) rfl ?_); refine Kd.R_lit (Kd.int .i64) _ 3 ?hg (N := 3) ?hd (xs := ([] : List Int)) (inner := []) (ok := fun _ => True) (okp := fun _ => True) ?hr ?hp (fun _ hk => hk) trivial (Below.refl _ _) (Nat.le_refl _) (by simp) ?_; (case hd => rfl); (case hg => rfl); (case hr => first | (go_simp; done) | (go_simp; rfl)); (case hp => exact (Reps.none _ _)); intro v202 w3 ho4 hb hg_ hnew_; clear hg_ hnew_; (first | rw [← Ny201.out] at ho4 | (simp only [Int.reduceToNat] at ho4; rw [← Ny201.out] at ho4)); have n0_ := Aside0.mk (Kd.R_lower ho4 (below_size (by repeat (first | (with_reducible first | exact HB.out | apply below_alloc | apply pw_below_drewN | apply below_drew1) | exact HB.out)))); have n1_ := Aside0.mk (below_step (by repeat (first | (with_reducible first | exact HB.out | apply below_alloc | apply pw_below_drewN | apply below_drew1) | exact HB.out)) hb); clear HB; have HO203 := n0_; have HB := n1_; clear n0_ n1_; clear hb ho4) | ((with_reducible refine gate_builtin (b := .append) (xs := #[.tmp 3, .tmp 4]) rfl ?_); at_builtin; refine Kd.R_append_rows (Kd.int .i64) (w0 := w) w.heap.size rfl (.tmp 3) (.tmp 4) 24 3 (.int .i64 0) 8 rfl Try.underlying24 info3 rfl (by decide) (by omega) v202 y201 l0 _ _ _ (fun _ => True) (fun _ => False) rfl rfl ?aO ?aR (fun _ _ h => h) (fun _ h => h.elim) ?aF ?aB ?aS ?aL ?_; (case aR => repeat (first | exact (Kd.C_below HR0.out HB.out) | (with_reducible refine Kd.C_alloc ?_ _) | (with_reducible refine Kd.C_drewN ?_ _) | (with_reducible refine Kd.C_drew ?_))); (case aB => exact (by repeat (first | (with_reducible first | exact HB.out | apply below_alloc | apply pw_below_drewN | apply below_drew1) | exact HB.out))); (case aF => exact (fun _ _ => trivial)); (case aO => exact (by (with_reducible repeat (first | apply Kd.R_alloc | apply Kd.R_drewN | apply Kd.R_drew)); exact HO203.out)); (case aS => exact (below_size (by repeat (first | (with_reducible first | exact HB.out | apply below_alloc | apply pw_below_drewN | apply below_drew1) | exact HB.out)))); (case aL => have := LMc2.out; omega); intro v205 w5 ho hb hg hat; rw [← Ny204.out] at ho; have n0_ := Aside0.mk (hb); have n1_ := Aside0.mk (ho); clear HB; clear HO203; have HB := n0_; have HO206 := n1_; clear n0_ n1_; clear ho hb hg hat))
    go_ret
    exact ⟨_, by first | rfl | (simp [errW_none, errW_some] <;> rfl) | (simp [*, errW_none, errW_some] <;> rfl), by (with_reducible repeat (first | apply Kd.R_alloc | apply Kd.R_drewN | apply Kd.R_drew)); exact HO206.out, by repeat (first | (with_reducible first | exact HB.out | apply below_alloc | apply pw_below_drewN | apply below_drew1) | exact HB.out)⟩
  · rw [if_neg c2] at H
    exact absurd H (by simp)

-- NOT PRINTED: function 28 (rope_join_int)

-- NOT PRINTED: function 21 (rope_Join_int)

-- NOT PRINTED: function 38 (rope_insert_int)

-- NOT PRINTED: function 30 (rope_Node_int_Insert)

/-! ### zgeneric_Min_int: function 39 -/
def zgeneric_Min_int.f (a0 : Int) (a1 : Int) : Option (Int) := if a0 < a1 then (some a0) else (some a1)
set_option maxHeartbeats 8000000 in
set_option maxRecDepth 100000 in
theorem zgeneric_Min_int.calls (a0 : Int) (a1 : Int) (r : Int) (w : World) (h : zgeneric_Min_int.f a0 a1 = some r) :
    Calls Try.prog 39 #[.int .i64 a0, .int .i64 a1] w fun e w' => e = .returned (.int .i64 r) ∧ Drawn0 w w' := by
  have H : (if a0 < a1 then (some a0) else (some a1)) = some r := h
  clear h
  by_cases c3 : a0 < a1
  · rw [if_pos c3] at H
    have c3b0 : decide (a0 < a1) = true := decide_eq_true c3
    clear c3
    obtain rfl := Option.some.inj H
    go_enter Try.func39, Try.ntmps39
    go_wp2
    go_ret
    exact ⟨by first | rfl | (simp; done) | (simp [*]; done), by repeat (first | exact Drawn0.refl _ | apply Drawn0.step)⟩
  · rw [if_neg c3] at H
    have c3b0 : decide (a0 < a1) = false := decide_eq_false c3
    clear c3
    obtain rfl := Option.some.inj H
    go_enter Try.func39, Try.ntmps39
    go_wp2
    go_ret
    exact ⟨by first | rfl | (simp; done) | (simp [*]; done), by repeat (first | exact Drawn0.refl _ | apply Drawn0.step)⟩

/-! ### zgeneric_Max_int: function 40 -/
def zgeneric_Max_int.f (a0 : Int) (a1 : Int) : Option (Int) := if a0 > a1 then (some a0) else (some a1)
set_option maxHeartbeats 8000000 in
set_option maxRecDepth 100000 in
theorem zgeneric_Max_int.calls (a0 : Int) (a1 : Int) (r : Int) (w : World) (h : zgeneric_Max_int.f a0 a1 = some r) :
    Calls Try.prog 40 #[.int .i64 a0, .int .i64 a1] w fun e w' => e = .returned (.int .i64 r) ∧ Drawn0 w w' := by
  have H : (if a0 > a1 then (some a0) else (some a1)) = some r := h
  clear h
  by_cases c3 : a0 > a1
  · rw [if_pos c3] at H
    have c3b0 : decide (a1 < a0) = true := decide_eq_true c3
    clear c3
    obtain rfl := Option.some.inj H
    go_enter Try.func40, Try.ntmps40
    go_wp2
    go_ret
    exact ⟨by first | rfl | (simp; done) | (simp [*]; done), by repeat (first | exact Drawn0.refl _ | apply Drawn0.step)⟩
  · rw [if_neg c3] at H
    have c3b0 : decide (a1 < a0) = false := decide_eq_false c3
    clear c3
    obtain rfl := Option.some.inj H
    go_enter Try.func40, Try.ntmps40
    go_wp2
    go_ret
    exact ⟨by first | rfl | (simp; done) | (simp [*]; done), by repeat (first | exact Drawn0.refl _ | apply Drawn0.step)⟩

-- NOT PRINTED: function 31 (rope_Node_int_Remove)

-- NOT PRINTED: function 32 (rope_Node_int_Slice)

-- NOT PRINTED: function 33 (rope_Node_int_At)

-- NOT PRINTED: function 34 (rope_Node_int_Len)

-- NOT PRINTED: function 35 (rope_Node_int_SplitAt)

-- NOT PRINTED: function 36 (rope_Node_int_Each)

-- NOT PRINTED: function 26 (impl_ropeDo)

/-! ### impl_RopeRun: function 15 -/
def cut_of (x : S38) : Rope.Cut4 := (x.f0, x.f1, x.f2, x.f3)
def part_of (p : Rope.Part3) : S34 := ⟨p.1, p.2.1, p.2.2⟩
/-- Whether all steps may be done, and all stays within bounds. -/
def okB : RopePure.T → List Rope.Cut4 → Bool
  | _, [] => true
  | t, c :: l => decide (((c.1 = 0 ∨ c.1 = 6 ∨ c.1 = 9 ∨ c.1 = 10 → 0 ≤ c.2.1 ∧ c.2.1 ≤ (t.len : Int)) ∧ (c.1 = 1 ∨ c.1 = 2 → 0 ≤ c.2.1 ∧ c.2.1 ≤ c.2.2.1 ∧ c.2.2.1 ≤ (t.len : Int)) ∧ (c.1 = 3 → 0 ≤ c.2.1 ∧ c.2.1 < (t.len : Int))) ∧ t.len + c.2.2.2.length ≤ 1099511627776 ∧ t.sizes.length ≤ 1099511627776) && okB (Rope.stepR t c) l
theorem okB_ok : ∀ (l : List Rope.Cut4) (t : RopePure.T), okB t l = true → Rope.okR t l
  | [], _, _ => trivial
  | c :: l, t, h => by
    have h2 := (Bool.and_eq_true _ _).mp h
    have h3 := of_decide_eq_true h2.1
    exact ⟨h3.1, h3.2.1, h3.2.2, okB_ok l _ h2.2⟩
def impl_RopeRun.f (l0 : List Int) (l1 : List (S38)) : Option (List (S34)) :=
  if l0.length ≤ 1099511627776 ∧ l1.length ≤ 1099511627776 ∧ okB (RopePure.T.new l0) (l1.map cut_of) = true then some ((Rope.toldR (RopePure.T.new l0) (l1.map cut_of)).map part_of) else none
theorem impl_RopeRun.calls (A0 : Option Addr) (c0 : Nat) (l0 : List Int) (A1 : Option Addr) (c1 : Nat) (l1 : List (S38)) (r : List (S34)) (w : World) (hr0 : Kd.C (Kd.int .i64) w A0 l0.length l0) (_hc0 : l0.length ≤ c0) (hr1 : Kd.C k38 w A1 l1.length l1) (_hc1 : l1.length ≤ c1) (h : impl_RopeRun.f l0 l1 = some r) :
    Calls Try.prog 15 #[.slice A0 l0.length c0, .slice A1 l1.length c1] w fun e w' => ∃ v0_ : Value, e = .returned (v0_) ∧ Kd.S k34 34 w' w.heap.size (fun _ => True) v0_ r ∧ Below w.heap.size w w' := by
  unfold impl_RopeRun.f at h
  by_cases q : l0.length ≤ 1099511627776 ∧ l1.length ≤ 1099511627776 ∧ okB (RopePure.T.new l0) (l1.map cut_of) = true
  · rw [if_pos q] at h
    obtain rfl := Option.some.inj h
    have hl : (l1.map cut_of).length = l1.length := List.length_map ..
    have hC : Kd.C Rope.cutK w A1 (l1.map cut_of).length (l1.map cut_of) := by rw [hl]; exact Row.C_iso hr1
    have H := Rope.RopeRun_any A0 c0 l0 A1 c1 (l1.map cut_of) w hr0 hC (by rw [hl]; exact q.2.1) q.1 (okB_ok _ _ q.2.2)
    rw [hl] at H
    refine H.mono ?_
    rintro e w' ⟨v, he, hS, hB⟩
    refine ⟨v, he, Row.S_iso ?_, hB⟩
    rw [List.map_map, show ((fun x : S34 => (x.f0, x.f1, x.f2)) ∘ part_of) = id from rfl, List.map_id]
    exact hS
  · rw [if_neg q] at h; cases h

/-! ### spec_Same: function 10 -/
def spec_Same.l0 : Nat → List Int → List Int → Int → Option (Bool)
  | 0, _, _, _ => none
  | k + 1, x0, x1, x5 => if x5 < (x0.length : Int) then (if 0 ≤ x5 then (if x5 < (x1.length : Int) then (if (rd x0 x5) = (rd x1 x5) then (spec_Same.l0 k x0 x1 (wrap64 (x5 + 1))) else (some false)) else (none)) else (none)) else (some true)
def spec_Same.f (k : Nat) (l0 : List Int) (l1 : List Int) : Option (Bool) := if (l0.length : Int) = (l1.length : Int) then (spec_Same.l0 k l0 l1 0) else (some false)
theorem spec_Same.mono_l : ∀ k, (∀ y0 y1 y2, LeO (spec_Same.l0 k y0 y1 y2) (spec_Same.l0 (k + 1) y0 y1 y2))
  | 0 => fun _ _ _ r h => by simp [spec_Same.l0] at h
  | k + 1 => by
    have ih0 := spec_Same.mono_l k
    · intro y0 y1 y2
      unfold spec_Same.l0
      repeat' first
      | (with_reducible exact ih0 _ _ _)
      | (with_reducible exact LeO.refl _)
      | (with_reducible exact LeO.none _)
      | (with_reducible refine LeO.ite ?_ ?_)
      | (with_reducible refine LeO.bind ?_ (fun _ => ?_))
      | exact ih0 _ _ _
      | exact LeO.none _
      | refine LeO.ite ?_ ?_
      | refine LeO.bind ?_ (fun _ => ?_)
theorem spec_Same.mono : ∀ a0 a1 k, LeO (spec_Same.f k a0 a1) (spec_Same.f (k + 1) a0 a1) := by
  intro a0 a1 k
  have ih0 := spec_Same.mono_l k
  unfold spec_Same.f
  repeat' first
      | (with_reducible exact ih0 _ _ _)
      | (with_reducible exact LeO.refl _)
      | (with_reducible exact LeO.none _)
      | (with_reducible refine LeO.ite ?_ ?_)
      | (with_reducible refine LeO.bind ?_ (fun _ => ?_))
      | exact ih0 _ _ _
      | exact LeO.none _
      | refine LeO.ite ?_ ?_
      | refine LeO.bind ?_ (fun _ => ?_)
set_option maxHeartbeats 8000000 in
set_option maxRecDepth 100000 in
theorem spec_Same.calls (k : Nat) (A0 : Option Addr) (c0 : Nat) (l0 : List Int) (A1 : Option Addr) (c1 : Nat) (l1 : List Int) (r : Bool) (w : World) (hr0 : Kd.C (Kd.int .i64) w A0 l0.length l0) (hc0 : l0.length ≤ c0) (hr1 : Kd.C (Kd.int .i64) w A1 l1.length l1) (hc1 : l1.length ≤ c1) (h : spec_Same.f k l0 l1 = some r) :
    Calls Try.prog 10 #[.slice A0 l0.length c0, .slice A1 l1.length c1] w fun e w' => e = .returned (.bool r) ∧ Drawn0 w w' := by
  have HR0 := Aside0.mk hr0
  have HC0 := Aside0.mk hc0
  clear hr0 hc0
  have HR1 := Aside0.mk hr1
  have HC1 := Aside0.mk hc1
  clear hr1 hc1
  have H : (if (l0.length : Int) = (l1.length : Int) then (spec_Same.l0 k l0 l1 0) else (some false)) = some r := h
  clear h
  by_cases c3 : (l0.length : Int) = (l1.length : Int)
  · rw [if_pos c3] at H
    have c3b0 : ((l0.length : Int) == (l1.length : Int)) = true := beq_iff_eq.mpr c3
    have c3b1 : ((l0.length : Int) != (l1.length : Int)) = false := bne_eq_false_iff_eq.mpr c3
    have c3b2 : (l0.length == l1.length) = true := by first | simpa using c3 | (simp at c3 ⊢; omega)
    clear c3
    have H' := Aside0.mk H
    clear H
    go_enter Try.func10, Try.ntmps10
    go_wp2
    repeat (go_quiet (fail); try go_wp2)
    go_loopg [5] k (fun kq v5 w' => ∃ (x5_1 : Int), v5 = .int .i64 x5_1 ∧ Aside0 (spec_Same.l0 kq l0 l1 x5_1 = some r) ∧ Aside0 (kq ≤ k) ∧ Drawn0 w w')
    case atStart => exact ⟨(0), (by first | rfl | (simp; done) | (simp [*]; done)), H', ⟨Nat.le_refl _⟩, by repeat (first | exact Drawn0.refl _ | apply Drawn0.step)⟩
    case round =>
      clear H'
      try clear c1
      try clear p2
      try clear c3
      try clear c3b0
      try clear c3b1
      try clear c3b2
      obtain ⟨x5_1, rfl, HA, HK1, ⟨m1, rfl⟩⟩ := hrel
      cases gk with
      | zero => exact absurd HA.out (by simp [spec_Same.l0])
      | succ k1 =>
        have H := HA.out
        clear HA
        simp only [spec_Same.l0] at H
        by_cases c4 : x5_1 < (l0.length : Int)
        · rw [if_pos c4] at H
          have c4b0 : decide (x5_1 < (l0.length : Int)) = true := decide_eq_true c4
          clear c4
          by_cases c5 : 0 ≤ x5_1
          · rw [if_pos c5] at H
            have c5b0 : decide (0 ≤ x5_1) = true := decide_eq_true c5
            clear c5
            by_cases c6 : x5_1 < (l1.length : Int)
            · rw [if_pos c6] at H
              have c6b0 : decide (x5_1 < (l1.length : Int)) = true := decide_eq_true c6
              clear c6
              by_cases c7 : (rd l0 x5_1) = (rd l1 x5_1)
              · rw [if_pos c7] at H
                have c7b0 : ((rd l0 x5_1) == (rd l1 x5_1)) = true := beq_iff_eq.mpr c7
                have c7b1 : ((rd l0 x5_1) != (rd l1 x5_1)) = false := bne_eq_false_iff_eq.mpr c7
                clear c7
                have H' := Aside0.mk H
                clear H
                have p210 : 0 ≤ (x5_1 : Int) := of_decide_eq_true (by first | (with_reducible assumption) | assumption)
                have q210 : x5_1 < (l0.length : Int) := of_decide_eq_true (by first | (with_reducible assumption) | assumption)
                obtain ⟨ad210, e210, hx210_0⟩ := Kd.at_int HR0.out x5_1 p210 q210
                cases e210
                replace p210 := eq_true p210
                replace q210 := eq_true q210
                have p211 : 0 ≤ (x5_1 : Int) := of_decide_eq_true (by first | (with_reducible assumption) | assumption)
                have q211 : x5_1 < (l1.length : Int) := of_decide_eq_true (by first | (with_reducible assumption) | assumption)
                obtain ⟨ad211, e211, hx211_0⟩ := Kd.at_int HR1.out x5_1 p211 q211
                cases e211
                replace p211 := eq_true p211
                replace q211 := eq_true q211
                go_wp2
                repeat (go_quiet (fail); try go_wp2)
                go_roundg k1
                case measure => have := HK1.out; omega
                case rel => exact ⟨(wrap64 (x5_1 + 1)), (by first | rfl | (simp; done) | (simp [*]; done)), H', ⟨by have := HK1.out; omega⟩, by repeat (first | exact Drawn0.refl _ | apply Drawn0.step)⟩
              · rw [if_neg c7] at H
                have c7b0 : ((rd l0 x5_1) == (rd l1 x5_1)) = false := beq_eq_false_iff_ne.mpr c7
                have c7b1 : ((rd l0 x5_1) != (rd l1 x5_1)) = true := bne_iff_ne.mpr c7
                obtain rfl := Option.some.inj H
                have p210 : 0 ≤ (x5_1 : Int) := of_decide_eq_true (by first | (with_reducible assumption) | assumption)
                have q210 : x5_1 < (l0.length : Int) := of_decide_eq_true (by first | (with_reducible assumption) | assumption)
                obtain ⟨ad210, e210, hx210_0⟩ := Kd.at_int HR0.out x5_1 p210 q210
                cases e210
                replace p210 := eq_true p210
                replace q210 := eq_true q210
                have p211 : 0 ≤ (x5_1 : Int) := of_decide_eq_true (by first | (with_reducible assumption) | assumption)
                have q211 : x5_1 < (l1.length : Int) := of_decide_eq_true (by first | (with_reducible assumption) | assumption)
                obtain ⟨ad211, e211, hx211_0⟩ := Kd.at_int HR1.out x5_1 p211 q211
                cases e211
                replace p211 := eq_true p211
                replace q211 := eq_true q211
                go_wp2
                repeat (go_quiet (fail); try go_wp2)
                go_ret
                exact ⟨by first | rfl | (simp; done) | (simp [*]; done), by repeat (first | exact Drawn0.refl _ | apply Drawn0.step)⟩
            · rw [if_neg c6] at H
              exact absurd H (by simp)
          · rw [if_neg c5] at H
            exact absurd H (by simp)
        · rw [if_neg c4] at H
          have c4b0 : decide (x5_1 < (l0.length : Int)) = false := decide_eq_false c4
          clear c4
          obtain rfl := Option.some.inj H
          go_wp2
          repeat (go_quiet (fail); try go_wp2)
          go_ret
          exact ⟨by first | rfl | (simp; done) | (simp [*]; done), by repeat (first | exact Drawn0.refl _ | apply Drawn0.step)⟩
  · rw [if_neg c3] at H
    have c3b0 : ((l0.length : Int) == (l1.length : Int)) = false := beq_eq_false_iff_ne.mpr c3
    have c3b1 : ((l0.length : Int) != (l1.length : Int)) = true := bne_iff_ne.mpr c3
    have c3b2 : (l0.length == l1.length) = false := by first | simpa using c3 | (simp at c3 ⊢; omega)
    obtain rfl := Option.some.inj H
    go_enter Try.func10, Try.ntmps10
    go_wp2
    repeat (go_quiet (fail); try go_wp2)
    go_ret
    exact ⟨by first | rfl | (simp; done) | (simp [*]; done), by repeat (first | exact Drawn0.refl _ | apply Drawn0.step)⟩

/-! ### spec_SamePart: function 16 -/
def spec_SamePart.f (k : Nat) (a0_0 : Int) (l0_1 : List Int) (l0_2 : List Int) (a1_0 : Int) (l1_1 : List Int) (l1_2 : List Int) : Option (Bool) := if a0_0 = a1_0 then ((spec_Same.f k l0_1 l1_1).bind fun t214 => (some t214)) else (some false)
theorem spec_SamePart.mono : ∀ a0 a1 a2 a3 a4 a5 k, LeO (spec_SamePart.f k a0 a1 a2 a3 a4 a5) (spec_SamePart.f (k + 1) a0 a1 a2 a3 a4 a5) := by
  intro a0 a1 a2 a3 a4 a5 k
  unfold spec_SamePart.f
  repeat' first
      | (with_reducible exact spec_Same.mono _ _ _)
      | (with_reducible exact LeO.refl _)
      | (with_reducible exact LeO.none _)
      | (with_reducible refine LeO.ite ?_ ?_)
      | (with_reducible refine LeO.bind ?_ (fun _ => ?_))
      | exact spec_Same.mono _ _ _
      | exact LeO.none _
      | refine LeO.ite ?_ ?_
      | refine LeO.bind ?_ (fun _ => ?_)
set_option maxHeartbeats 8000000 in
set_option maxRecDepth 100000 in
theorem spec_SamePart.calls (k : Nat) (a0_0 : Int) (A0_1 : Option Addr) (c0_1 : Nat) (l0_1 : List Int) (A0_2 : Option Addr) (c0_2 : Nat) (l0_2 : List Int) (a1_0 : Int) (A1_1 : Option Addr) (c1_1 : Nat) (l1_1 : List Int) (A1_2 : Option Addr) (c1_2 : Nat) (l1_2 : List Int) (r : Bool) (w : World) (hr0_1 : Kd.C (Kd.int .i64) w A0_1 l0_1.length l0_1) (hc0_1 : l0_1.length ≤ c0_1) (hr0_2 : Kd.C (Kd.int .i64) w A0_2 l0_2.length l0_2) (hc0_2 : l0_2.length ≤ c0_2) (hr1_1 : Kd.C (Kd.int .i64) w A1_1 l1_1.length l1_1) (hc1_1 : l1_1.length ≤ c1_1) (hr1_2 : Kd.C (Kd.int .i64) w A1_2 l1_2.length l1_2) (hc1_2 : l1_2.length ≤ c1_2) (h : spec_SamePart.f k a0_0 l0_1 l0_2 a1_0 l1_1 l1_2 = some r) :
    Calls Try.prog 16 #[.agg #[.int .i64 a0_0, .slice A0_1 l0_1.length c0_1, .slice A0_2 l0_2.length c0_2], .agg #[.int .i64 a1_0, .slice A1_1 l1_1.length c1_1, .slice A1_2 l1_2.length c1_2]] w fun e w' => e = .returned (.bool r) ∧ Below w.heap.size w w' := by
  have hu34 := Try.underlying34
  have HR0_1 := Aside0.mk hr0_1
  have HC0_1 := Aside0.mk hc0_1
  clear hr0_1 hc0_1
  have HR0_2 := Aside0.mk hr0_2
  have HC0_2 := Aside0.mk hc0_2
  clear hr0_2 hc0_2
  have HR1_1 := Aside0.mk hr1_1
  have HC1_1 := Aside0.mk hc1_1
  clear hr1_1 hc1_1
  have HR1_2 := Aside0.mk hr1_2
  have HC1_2 := Aside0.mk hc1_2
  clear hr1_2 hc1_2
  have HB := Aside0.mk (Below.refl w.heap.size w)
  have H : (if a0_0 = a1_0 then ((spec_Same.f k l0_1 l1_1).bind fun t214 => (some t214)) else (some false)) = some r := h
  clear h
  by_cases c3 : a0_0 = a1_0
  · rw [if_pos c3] at H
    have c3b0 : (a0_0 == a1_0) = true := beq_iff_eq.mpr c3
    have c3b1 : (a0_0 != a1_0) = false := bne_eq_false_iff_eq.mpr c3
    clear c3
    replace H := Option.bind_eq_some_iff.mp H
    obtain ⟨t214, A40, H⟩ := H
    replace H : (some t214) = some r := H
    have A4 := Aside0.mk A40
    clear A40
    obtain rfl := Option.some.inj H
    go_enter Try.func16, Try.ntmps16
    go_wp2_with (first | ((with_reducible refine gate_dst (N := 2) rfl ?_); refine box_event ?hg (N := 2) ?hd (cs := #[.int .i64 a0_0, .slice A0_1 l0_1.length c0_1, .slice A0_2 l0_2.length c0_2]) (t := 34) ?hr ?_; (case hd => rfl); (case hg => rfl); (case hr => first | (go_simp; done) | (go_simp; rfl)); intro gb212 hg w5 hbox hb; have n0_ := Aside0.mk (below_step (by repeat (first | (with_reducible first | exact HB.out | apply below_alloc | apply pw_below_drewN | apply below_drew1) | exact HB.out)) hb); have n1_ := Aside0.mk (hbox); have n2_ := Aside0.mk ((by rw [hg]; exact (below_size (by repeat (first | (with_reducible first | exact HB.out | apply below_alloc | apply pw_below_drewN | apply below_drew1) | exact HB.out))) : w.heap.size ≤ gb212)); have n3_ := Aside0.mk ((by rw [hg]; exact (below_size (by repeat (first | (with_reducible first | exact HB.out | apply below_alloc | apply pw_below_drewN | apply below_drew1) | exact HB.out))) : w.heap.size ≤ gb212)); clear HB; have HB := n0_; have BK212 := n1_; have GW212 := n2_; have GE212 := n3_; clear n0_ n1_ n2_ n3_; clear hb hbox hg) | ((with_reducible refine gate_dst (N := 3) rfl ?_); refine box_event ?hg (N := 3) ?hd (cs := #[.int .i64 a1_0, .slice A1_1 l1_1.length c1_1, .slice A1_2 l1_2.length c1_2]) (t := 34) ?hr ?_; (case hd => rfl); (case hg => rfl); (case hr => first | (go_simp; done) | (go_simp; rfl)); intro gb213 hg w6 hbox hb; have n0_ := Aside0.mk (blk_below (g := gb212) (o := .cells #[.int .i64 a0_0, .slice A0_1 l0_1.length c0_1, .slice A0_2 l0_2.length c0_2] 34 (0, 0)) (by (with_reducible repeat (first | refine blk_drewN ?_ _ | refine blk_drew ?_ | refine blk_alloc ?_ _)); exact BK212.out) hb); have n1_ := Aside0.mk (below_step (by repeat (first | (with_reducible first | exact HB.out | apply below_alloc | apply pw_below_drewN | apply below_drew1 | refine below_set ?_ GE212.out) | exact HB.out)) hb); have n2_ := Aside0.mk (hbox); have n3_ := Aside0.mk ((by rw [hg]; exact (below_size (by repeat (first | (with_reducible first | exact HB.out | apply below_alloc | apply pw_below_drewN | apply below_drew1 | refine below_set ?_ GE212.out) | exact HB.out))) : w.heap.size ≤ gb213)); have n4_ := Aside0.mk ((by rw [hg]; exact (below_size (by repeat (first | (with_reducible first | exact HB.out | apply below_alloc | apply pw_below_drewN | apply below_drew1 | refine below_set ?_ GE212.out) | exact HB.out))) : w.heap.size ≤ gb213)); have n5_ := Aside0.mk ((by rw [hg]; exact Nat.ne_of_lt (blk_lt (g := gb212) (o := .cells #[.int .i64 a0_0, .slice A0_1 l0_1.length c0_1, .slice A0_2 l0_2.length c0_2] 34 (0, 0)) (by (with_reducible repeat (first | refine blk_drewN ?_ _ | refine blk_drew ?_ | refine blk_alloc ?_ _)); exact BK212.out)) : gb212 ≠ gb213)); have n6_ := Aside0.mk ((by rw [hg]; exact Nat.ne_of_gt (blk_lt (g := gb212) (o := .cells #[.int .i64 a0_0, .slice A0_1 l0_1.length c0_1, .slice A0_2 l0_2.length c0_2] 34 (0, 0)) (by (with_reducible repeat (first | refine blk_drewN ?_ _ | refine blk_drew ?_ | refine blk_alloc ?_ _)); exact BK212.out)) : gb213 ≠ gb212)); clear BK212; clear HB; have BK212 := n0_; have HB := n1_; have BK213 := n2_; have GW213 := n3_; have GE213 := n4_; have NB212_213 := n5_; have NB213_212 := n6_; clear n0_ n1_ n2_ n3_ n4_ n5_ n6_; clear hb hbox hg; have hnb7 := NB212_213.out; have hnc7 := NB213_212.out; have hcz8_0 : w6.cell? ⟨gb212, 0, none⟩ = some (.int .i64 a0_0) := (blk_cell BK212.out 0).trans rfl; have hcz8_1 : w6.cell? ⟨gb212, 1, none⟩ = some (.slice A0_1 l0_1.length c0_1) := (blk_cell BK212.out 1).trans rfl; have hcz8_2 : w6.cell? ⟨gb212, 2, none⟩ = some (.slice A0_2 l0_2.length c0_2) := (blk_cell BK212.out 2).trans rfl; have hfz8_0 := blk_frozen BK212.out 0; have hfz8_1 := blk_frozen BK212.out 1; have hfz8_2 := blk_frozen BK212.out 2; have hcz9_0 : w6.cell? ⟨gb213, 0, none⟩ = some (.int .i64 a1_0) := (blk_cell BK213.out 0).trans rfl; have hcz9_1 : w6.cell? ⟨gb213, 1, none⟩ = some (.slice A1_1 l1_1.length c1_1) := (blk_cell BK213.out 1).trans rfl; have hcz9_2 : w6.cell? ⟨gb213, 2, none⟩ = some (.slice A1_2 l1_2.length c1_2) := (blk_cell BK213.out 2).trans rfl; have hfz9_0 := blk_frozen BK213.out 0; have hfz9_1 := blk_frozen BK213.out 1; have hfz9_2 := blk_frozen BK213.out 2) | (go_at_call 10; (with_reducible refine (spec_Same.calls k _ _ l0_1 _ _ l1_1 t214 _ ?side1 ?side2 ?side3 ?side4 A4.out).mono ?_); (case side1 => repeat (first | exact (Kd.C_below HR0_1.out HB.out) | (with_reducible refine Kd.C_alloc ?_ _) | (with_reducible refine Kd.C_drewN ?_ _) | (with_reducible refine Kd.C_drew ?_))); (case side2 => exact HC0_1.out); (case side3 => repeat (first | exact (Kd.C_below HR1_1.out HB.out) | (with_reducible refine Kd.C_alloc ?_ _) | (with_reducible refine Kd.C_drewN ?_ _) | (with_reducible refine Kd.C_drew ?_))); (case side4 => exact HC1_1.out); rintro e w' ⟨rfl, ⟨nd, rfl⟩⟩))
    go_ret
    exact ⟨by first | rfl | (simp [errW_none, errW_some] <;> rfl) | (simp [*, errW_none, errW_some] <;> rfl), by repeat (first | (with_reducible first | exact HB.out | apply below_alloc | apply pw_below_drewN | apply below_drew1 | refine below_set ?_ GE212.out | refine below_set ?_ GE213.out) | exact HB.out)⟩
  · rw [if_neg c3] at H
    have c3b0 : (a0_0 == a1_0) = false := beq_eq_false_iff_ne.mpr c3
    have c3b1 : (a0_0 != a1_0) = true := bne_iff_ne.mpr c3
    obtain rfl := Option.some.inj H
    go_enter Try.func16, Try.ntmps16
    go_wp2_with (first | ((with_reducible refine gate_dst (N := 2) rfl ?_); refine box_event ?hg (N := 2) ?hd (cs := #[.int .i64 a0_0, .slice A0_1 l0_1.length c0_1, .slice A0_2 l0_2.length c0_2]) (t := 34) ?hr ?_; (case hd => rfl); (case hg => rfl); (case hr => first | (go_simp; done) | (go_simp; rfl)); intro gb212 hg w10 hbox hb; have n0_ := Aside0.mk (below_step (by repeat (first | (with_reducible first | exact HB.out | apply below_alloc | apply pw_below_drewN | apply below_drew1) | exact HB.out)) hb); have n1_ := Aside0.mk (hbox); have n2_ := Aside0.mk ((by rw [hg]; exact (below_size (by repeat (first | (with_reducible first | exact HB.out | apply below_alloc | apply pw_below_drewN | apply below_drew1) | exact HB.out))) : w.heap.size ≤ gb212)); have n3_ := Aside0.mk ((by rw [hg]; exact (below_size (by repeat (first | (with_reducible first | exact HB.out | apply below_alloc | apply pw_below_drewN | apply below_drew1) | exact HB.out))) : w.heap.size ≤ gb212)); clear HB; have HB := n0_; have BK212 := n1_; have GW212 := n2_; have GE212 := n3_; clear n0_ n1_ n2_ n3_; clear hb hbox hg) | ((with_reducible refine gate_dst (N := 3) rfl ?_); refine box_event ?hg (N := 3) ?hd (cs := #[.int .i64 a1_0, .slice A1_1 l1_1.length c1_1, .slice A1_2 l1_2.length c1_2]) (t := 34) ?hr ?_; (case hd => rfl); (case hg => rfl); (case hr => first | (go_simp; done) | (go_simp; rfl)); intro gb213 hg w11 hbox hb; have n0_ := Aside0.mk (blk_below (g := gb212) (o := .cells #[.int .i64 a0_0, .slice A0_1 l0_1.length c0_1, .slice A0_2 l0_2.length c0_2] 34 (0, 0)) (by (with_reducible repeat (first | refine blk_drewN ?_ _ | refine blk_drew ?_ | refine blk_alloc ?_ _)); exact BK212.out) hb); have n1_ := Aside0.mk (below_step (by repeat (first | (with_reducible first | exact HB.out | apply below_alloc | apply pw_below_drewN | apply below_drew1 | refine below_set ?_ GE212.out) | exact HB.out)) hb); have n2_ := Aside0.mk (hbox); have n3_ := Aside0.mk ((by rw [hg]; exact (below_size (by repeat (first | (with_reducible first | exact HB.out | apply below_alloc | apply pw_below_drewN | apply below_drew1 | refine below_set ?_ GE212.out) | exact HB.out))) : w.heap.size ≤ gb213)); have n4_ := Aside0.mk ((by rw [hg]; exact (below_size (by repeat (first | (with_reducible first | exact HB.out | apply below_alloc | apply pw_below_drewN | apply below_drew1 | refine below_set ?_ GE212.out) | exact HB.out))) : w.heap.size ≤ gb213)); have n5_ := Aside0.mk ((by rw [hg]; exact Nat.ne_of_lt (blk_lt (g := gb212) (o := .cells #[.int .i64 a0_0, .slice A0_1 l0_1.length c0_1, .slice A0_2 l0_2.length c0_2] 34 (0, 0)) (by (with_reducible repeat (first | refine blk_drewN ?_ _ | refine blk_drew ?_ | refine blk_alloc ?_ _)); exact BK212.out)) : gb212 ≠ gb213)); have n6_ := Aside0.mk ((by rw [hg]; exact Nat.ne_of_gt (blk_lt (g := gb212) (o := .cells #[.int .i64 a0_0, .slice A0_1 l0_1.length c0_1, .slice A0_2 l0_2.length c0_2] 34 (0, 0)) (by (with_reducible repeat (first | refine blk_drewN ?_ _ | refine blk_drew ?_ | refine blk_alloc ?_ _)); exact BK212.out)) : gb213 ≠ gb212)); clear BK212; clear HB; have BK212 := n0_; have HB := n1_; have BK213 := n2_; have GW213 := n3_; have GE213 := n4_; have NB212_213 := n5_; have NB213_212 := n6_; clear n0_ n1_ n2_ n3_ n4_ n5_ n6_; clear hb hbox hg; have hnb12 := NB212_213.out; have hnc12 := NB213_212.out; have hcz13_0 : w11.cell? ⟨gb212, 0, none⟩ = some (.int .i64 a0_0) := (blk_cell BK212.out 0).trans rfl; have hcz13_1 : w11.cell? ⟨gb212, 1, none⟩ = some (.slice A0_1 l0_1.length c0_1) := (blk_cell BK212.out 1).trans rfl; have hcz13_2 : w11.cell? ⟨gb212, 2, none⟩ = some (.slice A0_2 l0_2.length c0_2) := (blk_cell BK212.out 2).trans rfl; have hfz13_0 := blk_frozen BK212.out 0; have hfz13_1 := blk_frozen BK212.out 1; have hfz13_2 := blk_frozen BK212.out 2; have hcz14_0 : w11.cell? ⟨gb213, 0, none⟩ = some (.int .i64 a1_0) := (blk_cell BK213.out 0).trans rfl; have hcz14_1 : w11.cell? ⟨gb213, 1, none⟩ = some (.slice A1_1 l1_1.length c1_1) := (blk_cell BK213.out 1).trans rfl; have hcz14_2 : w11.cell? ⟨gb213, 2, none⟩ = some (.slice A1_2 l1_2.length c1_2) := (blk_cell BK213.out 2).trans rfl; have hfz14_0 := blk_frozen BK213.out 0; have hfz14_1 := blk_frozen BK213.out 1; have hfz14_2 := blk_frozen BK213.out 2))
    go_ret
    exact ⟨by first | rfl | (simp [errW_none, errW_some] <;> rfl) | (simp [*, errW_none, errW_some] <;> rfl), by repeat (first | (with_reducible first | exact HB.out | apply below_alloc | apply pw_below_drewN | apply below_drew1 | refine below_set ?_ GE212.out | refine below_set ?_ GE213.out) | exact HB.out)⟩

/-! ### spec_Sum: function 17 -/
def spec_Sum.l0 : Nat → List Int → Int → Int → Option (Int)
  | 0, _, _, _ => none
  | k + 1, x0, x3, x4 => if x4 < (x0.length : Int) then (if 0 ≤ x4 then (spec_Sum.l0 k x0 (wrap64 (x3 + (rd x0 x4))) (wrap64 (x4 + 1))) else (none)) else (some x3)
def spec_Sum.f (k : Nat) (l0 : List Int) : Option (Int) := spec_Sum.l0 k l0 0 0
theorem spec_Sum.mono_l : ∀ k, (∀ y0 y1 y2, LeO (spec_Sum.l0 k y0 y1 y2) (spec_Sum.l0 (k + 1) y0 y1 y2))
  | 0 => fun _ _ _ r h => by simp [spec_Sum.l0] at h
  | k + 1 => by
    have ih0 := spec_Sum.mono_l k
    · intro y0 y1 y2
      unfold spec_Sum.l0
      repeat' first
      | (with_reducible exact ih0 _ _ _)
      | (with_reducible exact LeO.refl _)
      | (with_reducible exact LeO.none _)
      | (with_reducible refine LeO.ite ?_ ?_)
      | (with_reducible refine LeO.bind ?_ (fun _ => ?_))
      | exact ih0 _ _ _
      | exact LeO.none _
      | refine LeO.ite ?_ ?_
      | refine LeO.bind ?_ (fun _ => ?_)
theorem spec_Sum.mono : ∀ a0 k, LeO (spec_Sum.f k a0) (spec_Sum.f (k + 1) a0) := by
  intro a0 k
  have ih0 := spec_Sum.mono_l k
  unfold spec_Sum.f
  repeat' first
      | (with_reducible exact ih0 _ _ _)
      | (with_reducible exact LeO.refl _)
      | (with_reducible exact LeO.none _)
      | (with_reducible refine LeO.ite ?_ ?_)
      | (with_reducible refine LeO.bind ?_ (fun _ => ?_))
      | exact ih0 _ _ _
      | exact LeO.none _
      | refine LeO.ite ?_ ?_
      | refine LeO.bind ?_ (fun _ => ?_)
set_option maxHeartbeats 8000000 in
set_option maxRecDepth 100000 in
theorem spec_Sum.calls (k : Nat) (A0 : Option Addr) (c0 : Nat) (l0 : List Int) (r : Int) (w : World) (hr0 : Kd.C (Kd.int .i64) w A0 l0.length l0) (hc0 : l0.length ≤ c0) (h : spec_Sum.f k l0 = some r) :
    Calls Try.prog 17 #[.slice A0 l0.length c0] w fun e w' => e = .returned (.int .i64 r) ∧ Drawn0 w w' := by
  have HR0 := Aside0.mk hr0
  have HC0 := Aside0.mk hc0
  clear hr0 hc0
  have H : (spec_Sum.l0 k l0 0 0) = some r := h
  clear h
  have H' := Aside0.mk H
  clear H
  go_enter Try.func17, Try.ntmps17
  go_wp2
  go_loopg [3, 4] k (fun kq v3 v4 w' => ∃ (x3_1 : Int) (x4_1 : Int), v3 = .int .i64 x3_1 ∧ v4 = .int .i64 x4_1 ∧ Aside0 (spec_Sum.l0 kq l0 x3_1 x4_1 = some r) ∧ Aside0 (kq ≤ k) ∧ Drawn0 w w')
  case atStart => exact ⟨(0), (0), (by first | rfl | (simp; done) | (simp [*]; done)), (by first | rfl | (simp; done) | (simp [*]; done)), H', ⟨Nat.le_refl _⟩, by repeat (first | exact Drawn0.refl _ | apply Drawn0.step)⟩
  case round =>
    clear H'
    try clear c1
    obtain ⟨x3_1, x4_1, rfl, rfl, HA, HK1, ⟨m1, rfl⟩⟩ := hrel
    cases gk with
    | zero => exact absurd HA.out (by simp [spec_Sum.l0])
    | succ k1 =>
      have H := HA.out
      clear HA
      simp only [spec_Sum.l0] at H
      by_cases c2 : x4_1 < (l0.length : Int)
      · rw [if_pos c2] at H
        have c2b0 : decide (x4_1 < (l0.length : Int)) = true := decide_eq_true c2
        clear c2
        by_cases c3 : 0 ≤ x4_1
        · rw [if_pos c3] at H
          have c3b0 : decide (0 ≤ x4_1) = true := decide_eq_true c3
          clear c3
          have H' := Aside0.mk H
          clear H
          have p215 : 0 ≤ (x4_1 : Int) := of_decide_eq_true (by first | (with_reducible assumption) | assumption)
          have q215 : x4_1 < (l0.length : Int) := of_decide_eq_true (by first | (with_reducible assumption) | assumption)
          obtain ⟨ad215, e215, hx215_0⟩ := Kd.at_int HR0.out x4_1 p215 q215
          cases e215
          replace p215 := eq_true p215
          replace q215 := eq_true q215
          go_wp2
          go_roundg k1
          case measure => have := HK1.out; omega
          case rel => exact ⟨(wrap64 (x3_1 + (rd l0 x4_1))), (wrap64 (x4_1 + 1)), (by first | rfl | (simp; done) | (simp [*]; done)), (by first | rfl | (simp; done) | (simp [*]; done)), H', ⟨by have := HK1.out; omega⟩, by repeat (first | exact Drawn0.refl _ | apply Drawn0.step)⟩
        · rw [if_neg c3] at H
          exact absurd H (by simp)
      · rw [if_neg c2] at H
        have c2b0 : decide (x4_1 < (l0.length : Int)) = false := decide_eq_false c2
        clear c2
        obtain rfl := Option.some.inj H
        go_wp2
        go_ret
        exact ⟨by first | rfl | (simp; done) | (simp [*]; done), by repeat (first | exact Drawn0.refl _ | apply Drawn0.step)⟩

end Go.Proofs.Ytdlnpmbnedmmnaa.QFnRopeRuns
