/- The machine's side of a law, as the kit's print writes it; of the functions that the print doesn't cover this session's own contracts stand in it: no condition. -/
import Derived.Test.YtdlnpmbnedmmnaaQFnRopeInsertJoinsx0
import Derived.Test.YtdlnpmbnedmmnaaQFnRopeInsertJoinsx1
import Derived.Test.YtdlnpmbnedmmnaaQFnRopeInsertJoinsx3
namespace Go.Proofs.Ytdlnpmbnedmmnaa.QFnRopeInsertJoins
open Go.RowKit Go.Proofs.YtdlnpmbnedmmnaaW.PrintWords Go.Proofs.YtdlnpmbnedmmnaaW.PrintLast Go.Proofs.YtdlnpmbnedmmnaaW.PrintMore
attribute [local go_sem] max2_int min2_int max_two min_two max_three min_three max_four min_four   -- for this text's walks alone
set_option linter.unusedVariables false
set_option linter.unusedSimpArgs false

/-! ### laws_FnRopeInsertJoins: function 4 -/
mutual
def laws_FnRopeInsertJoins.j0 : Nat → List Int → List (S38) → Int → List Int → Bool → Option (Bool)
  | 0, _, _, _, _, _ => none
  | k + 1, x0, x1, x2, x3, x29 => if x29 = true then (some true) else ((spec_Rows.f k x0 x1).bind fun bt227 => (if bt227.2.2 = true then (if x2 < 0 then (laws_FnRopeInsertJoins.j1 k x0 x1 x2 x3 bt227.1 true) else (laws_FnRopeInsertJoins.j1 k x0 x1 x2 x3 bt227.1 (decide (x2 > (bt227.1.length : Int))))) else (laws_FnRopeInsertJoins.j1 k x0 x1 x2 x3 bt227.1 true)))
def laws_FnRopeInsertJoins.j1 : Nat → List Int → List (S38) → Int → List Int → List Int → Bool → Option (Bool)
  | 0, _, _, _, _, _, _ => none
  | k + 1, x0, x1, x2, x3, x9, x48 => if x48 = true then (some true) else ((laws_rowLast.f x0 x1 (([(⟨0, x2, 0, x3⟩ : S38), (⟨4, 0, 0, ([] : List Int)⟩ : S38)] : List (S38)))).bind fun bt237 => ((laws_rowLast.f x0 x1 (([(⟨6, x2, 0, ([] : List Int)⟩ : S38), (⟨8, 0, 0, x3⟩ : S38), (⟨6, wrap64 ((wrap64 ((x3.length : Int) + (x9.length : Int))) - x2), 0, ([] : List Int)⟩ : S38), (⟨4, 0, 0, ([] : List Int)⟩ : S38)] : List (S38)))).bind fun bt249 => (if 0 ≤ x2 then (if x2 ≤ (x9.length : Int) then ((spec_Both.f (x9.take (x2 : Int).toNat) x3).bind fun t263 => ((spec_Both.f t263 (x9.drop (x2 : Int).toNat)).bind fun t271 => (if bt237.2.2.2 = true then (if bt249.2.2.2 = true then ((spec_Same.f k bt237.2.1 t271).bind fun t274 => (if t274 = true then ((spec_Same.f k bt249.2.1 t271).bind fun t275 => (some t275)) else (none))) else (none)) else (none)))) else (none)) else (none))))
end
def laws_FnRopeInsertJoins.f (k : Nat) (l0 : List Int) (l1 : List (S38)) (a2 : Int) (l3 : List Int) : Option (Bool) := if (l0.length : Int) > 2147483647 then (laws_FnRopeInsertJoins.j0 k l0 l1 a2 l3 true) else ((laws_zzFits3.f k l1).bind fun t226 => (if t226 = true then (laws_FnRopeInsertJoins.j0 k l0 l1 a2 l3 (decide ((l3.length : Int) > 2147483647))) else (laws_FnRopeInsertJoins.j0 k l0 l1 a2 l3 true)))
theorem laws_FnRopeInsertJoins.mono_l : ∀ k, (∀ y0 y1 y2 y3 y4, LeO (laws_FnRopeInsertJoins.j0 k y0 y1 y2 y3 y4) (laws_FnRopeInsertJoins.j0 (k + 1) y0 y1 y2 y3 y4)) ∧ (∀ y0 y1 y2 y3 y4 y5, LeO (laws_FnRopeInsertJoins.j1 k y0 y1 y2 y3 y4 y5) (laws_FnRopeInsertJoins.j1 (k + 1) y0 y1 y2 y3 y4 y5))
  | 0 => ⟨fun _ _ _ _ _ r h => by simp [laws_FnRopeInsertJoins.j0] at h, fun _ _ _ _ _ _ r h => by simp [laws_FnRopeInsertJoins.j1] at h⟩
  | k + 1 => by
    obtain ⟨ih0, ih1⟩ := laws_FnRopeInsertJoins.mono_l k
    refine ⟨?_, ?_⟩
    · intro y0 y1 y2 y3 y4
      unfold laws_FnRopeInsertJoins.j0
      repeat' first
      | (with_reducible exact ih0 _ _ _ _ _)
      | (with_reducible exact ih1 _ _ _ _ _ _)
      | (with_reducible exact laws_zzFits3.mono _ _)
      | (with_reducible exact spec_Rows.mono _ _ _)
      | (with_reducible exact spec_Same.mono _ _ _)
      | (with_reducible exact LeO.refl _)
      | (with_reducible exact LeO.none _)
      | (with_reducible refine LeO.ite ?_ ?_)
      | (with_reducible refine LeO.bind ?_ (fun _ => ?_))
      | exact ih0 _ _ _ _ _
      | exact ih1 _ _ _ _ _ _
      | exact laws_zzFits3.mono _ _
      | exact spec_Rows.mono _ _ _
      | exact spec_Same.mono _ _ _
      | exact LeO.none _
      | refine LeO.ite ?_ ?_
      | refine LeO.bind ?_ (fun _ => ?_)
    · intro y0 y1 y2 y3 y4 y5
      unfold laws_FnRopeInsertJoins.j1
      repeat' first
      | (with_reducible exact ih0 _ _ _ _ _)
      | (with_reducible exact ih1 _ _ _ _ _ _)
      | (with_reducible exact laws_zzFits3.mono _ _)
      | (with_reducible exact spec_Rows.mono _ _ _)
      | (with_reducible exact spec_Same.mono _ _ _)
      | (with_reducible exact LeO.refl _)
      | (with_reducible exact LeO.none _)
      | (with_reducible refine LeO.ite ?_ ?_)
      | (with_reducible refine LeO.bind ?_ (fun _ => ?_))
      | exact ih0 _ _ _ _ _
      | exact ih1 _ _ _ _ _ _
      | exact laws_zzFits3.mono _ _
      | exact spec_Rows.mono _ _ _
      | exact spec_Same.mono _ _ _
      | exact LeO.none _
      | refine LeO.ite ?_ ?_
      | refine LeO.bind ?_ (fun _ => ?_)
theorem laws_FnRopeInsertJoins.mono : ∀ a0 a1 a2 a3 k, LeO (laws_FnRopeInsertJoins.f k a0 a1 a2 a3) (laws_FnRopeInsertJoins.f (k + 1) a0 a1 a2 a3) := by
  intro a0 a1 a2 a3 k
  obtain ⟨ih0, ih1⟩ := laws_FnRopeInsertJoins.mono_l k
  unfold laws_FnRopeInsertJoins.f
  repeat' first
      | (with_reducible exact ih0 _ _ _ _ _)
      | (with_reducible exact ih1 _ _ _ _ _ _)
      | (with_reducible exact laws_zzFits3.mono _ _)
      | (with_reducible exact spec_Rows.mono _ _ _)
      | (with_reducible exact spec_Same.mono _ _ _)
      | (with_reducible exact LeO.refl _)
      | (with_reducible exact LeO.none _)
      | (with_reducible refine LeO.ite ?_ ?_)
      | (with_reducible refine LeO.bind ?_ (fun _ => ?_))
      | exact ih0 _ _ _ _ _
      | exact ih1 _ _ _ _ _ _
      | exact laws_zzFits3.mono _ _
      | exact spec_Rows.mono _ _ _
      | exact spec_Same.mono _ _ _
      | exact LeO.none _
      | refine LeO.ite ?_ ?_
      | refine LeO.bind ?_ (fun _ => ?_)
def laws_FnRopeInsertJoins.T8 : Bool × List (List Nat × List Nat) := (true, [([], []), ([], []), ([0, 1], [0, 1]), ([], []), ([2, 3], [2, 3]), ([], []), ([], []), ([5, 6], [5, 6]), ([4, 7, 4], [4, 7]), ([8, 8, 0, 1, 2, 3, 4, 5, 6, 7, 8], [8])])
def laws_FnRopeInsertJoins.B8 : List Nat := [0, 0, 3, 0, 15, 0, 0, 96, 255, 511]
theorem laws_FnRopeInsertJoins.tab8 : rtab .any (opsOf Try.f4 8) = laws_FnRopeInsertJoins.T8 := by kernel_rfl
theorem laws_FnRopeInsertJoins.bits8 : waitsOk laws_FnRopeInsertJoins.T8.2 laws_FnRopeInsertJoins.B8 = true := by kernel_rfl
set_option maxHeartbeats 8000000 in
set_option maxRecDepth 100000 in
theorem laws_FnRopeInsertJoins.calls (k : Nat) (A0 : Option Addr) (c0 : Nat) (l0 : List Int) (A1 : Option Addr) (c1 : Nat) (l1 : List (S38)) (a2 : Int) (A3 : Option Addr) (c3 : Nat) (l3 : List Int) (r : Bool) (w : World) (hr0 : Kd.C (Kd.int .i64) w A0 l0.length l0) (hc0 : l0.length ≤ c0) (hr1 : Kd.C k38 w A1 l1.length l1) (hc1 : l1.length ≤ c1) (hr3 : Kd.C (Kd.int .i64) w A3 l3.length l3) (hc3 : l3.length ≤ c3) (h : laws_FnRopeInsertJoins.f k l0 l1 a2 l3 = some r) :
    Calls Try.prog 4 #[.slice A0 l0.length c0, .slice A1 l1.length c1, .int .i64 a2, .slice A3 l3.length c3] w fun e w' => e = .returned (.bool r) ∧ Below w.heap.size w w' := by
  have hu38 := Try.underlying38
  have hu34 := Try.underlying34
  have HR0 := Aside0.mk hr0
  have HC0 := Aside0.mk hc0
  clear hr0 hc0
  have HR1 := Aside0.mk hr1
  have HC1 := Aside0.mk hc1
  clear hr1 hc1
  have HR3 := Aside0.mk hr3
  have HC3 := Aside0.mk hc3
  clear hr3 hc3
  have HB := Aside0.mk (Below.refl w.heap.size w)
  have H : (if (l0.length : Int) > 2147483647 then (laws_FnRopeInsertJoins.j0 k l0 l1 a2 l3 true) else ((laws_zzFits3.f k l1).bind fun t226 => (if t226 = true then (laws_FnRopeInsertJoins.j0 k l0 l1 a2 l3 (decide ((l3.length : Int) > 2147483647))) else (laws_FnRopeInsertJoins.j0 k l0 l1 a2 l3 true)))) = some r := h
  clear h
  have HC5 := Aside0.mk H
  clear H
  go_enter Try.func4, Try.ntmps4
  go_upto_region 1 with (fail)
  go_cut [29] (fun v29 wc => ∃ (kq : Nat) (x29_4 : Bool), v29 = .bool x29_4 ∧ Aside0 (laws_FnRopeInsertJoins.j0 kq l0 l1 a2 l3 x29_4 = some r) ∧ Aside0 (kq ≤ k) ∧ Aside0 (Below w.heap.size w wc))
  case first =>
    have H := HC5.out
    clear HC5
    by_cases c6 : (l0.length : Int) > 2147483647
    · rw [if_pos c6] at H
      have c6b0 : decide (2147483647 < (l0.length : Int)) = true := decide_eq_true c6
      have c6b1 : decide (2147483647 < l0.length) = true := decide_eq_true (by omega)
      clear c6
      (first | rw [c6b0] | (simp only [i64_w, i32_w]; rw [c6b0]) | skip)
      have H' := Aside0.mk H
      clear H
      go_wp2
      go_meet
      case rel => exact ⟨_, (true), (by first | rfl | (simp; done) | (simp [*]; done)), H', ⟨by first | omega | exact Nat.le_refl _⟩, ⟨by repeat (first | (with_reducible first | exact HB.out | apply below_alloc | apply pw_below_drewN | apply below_drew1) | exact HB.out)⟩⟩
    · rw [if_neg c6] at H
      have c6b0 : decide (2147483647 < (l0.length : Int)) = false := decide_eq_false c6
      have c6b1 : decide (2147483647 < l0.length) = false := decide_eq_false (by omega)
      clear c6
      (first | rw [c6b0] | (simp only [i64_w, i32_w]; rw [c6b0]) | skip)
      replace H := Option.bind_eq_some_iff.mp H
      obtain ⟨t226, A70, H⟩ := H
      replace H : (if t226 = true then (laws_FnRopeInsertJoins.j0 k l0 l1 a2 l3 (decide ((l3.length : Int) > 2147483647))) else (laws_FnRopeInsertJoins.j0 k l0 l1 a2 l3 true)) = some r := H
      have A7 := Aside0.mk A70
      clear A70
      by_cases c8 : t226 = true
      · subst c8
        have H1 : (laws_FnRopeInsertJoins.j0 k l0 l1 a2 l3 (decide ((l3.length : Int) > 2147483647))) = some r := by rw [if_pos rfl] at H; exact H
        clear H
        have H := H1
        clear H1
        have H' := Aside0.mk H
        clear H
        go_wp2_with (first | (go_at_call 12; (with_reducible refine (laws_zzFits3.calls k _ _ l1 true _ ?side1 ?side2 A7.out).mono ?_); (case side1 => repeat (first | exact (Kd.C_below HR1.out HB.out) | (with_reducible refine Kd.C_alloc ?_ _) | (with_reducible refine Kd.C_drewN ?_ _) | (with_reducible refine Kd.C_drew ?_))); (case side2 => exact HC1.out); rintro e w9 ⟨rfl, hb⟩; have n0_ := Aside0.mk (below_step (by repeat (first | (with_reducible first | exact HB.out | apply below_alloc | apply pw_below_drewN | apply below_drew1) | exact HB.out)) hb); clear HB; have HB := n0_; clear n0_; (try clear hb); (try clear hb2); (try clear hk); (try clear hi)))
        go_meet
        case rel => exact ⟨_, (decide ((l3.length : Int) > 2147483647)), (by first | rfl | (simp; done) | (simp [*]; done)), H', ⟨by first | omega | exact Nat.le_refl _⟩, ⟨by repeat (first | (with_reducible first | exact HB.out | apply below_alloc | apply pw_below_drewN | apply below_drew1) | exact HB.out)⟩⟩
      · replace c8 := Bool.eq_false_iff.mpr c8
        subst c8
        have H1 : (laws_FnRopeInsertJoins.j0 k l0 l1 a2 l3 true) = some r := by rw [if_neg (show ¬ (false = true) by decide)] at H; exact H
        clear H
        have H := H1
        clear H1
        have H' := Aside0.mk H
        clear H
        go_wp2_with (first | (go_at_call 12; (with_reducible refine (laws_zzFits3.calls k _ _ l1 false _ ?side1 ?side2 A7.out).mono ?_); (case side1 => repeat (first | exact (Kd.C_below HR1.out HB.out) | (with_reducible refine Kd.C_alloc ?_ _) | (with_reducible refine Kd.C_drewN ?_ _) | (with_reducible refine Kd.C_drew ?_))); (case side2 => exact HC1.out); rintro e w10 ⟨rfl, hb⟩; have n0_ := Aside0.mk (below_step (by repeat (first | (with_reducible first | exact HB.out | apply below_alloc | apply pw_below_drewN | apply below_drew1) | exact HB.out)) hb); clear HB; have HB := n0_; clear n0_; (try clear hb); (try clear hb2); (try clear hk); (try clear hi)))
        go_meet
        case rel => exact ⟨_, (true), (by first | rfl | (simp; done) | (simp [*]; done)), H', ⟨by first | omega | exact Nat.le_refl _⟩, ⟨by repeat (first | (with_reducible first | exact HB.out | apply below_alloc | apply pw_below_drewN | apply below_drew1) | exact HB.out)⟩⟩
  case rest =>
    clear HC5
    try clear c1
    try clear p2
    try clear c3
    try clear c4
    try clear c6
    try clear c6b0
    try clear c6b1
    try clear c8
    obtain ⟨kq, x29_4, rfl, HA, HJ4, HB⟩ := hcut
    cases kq with
    | zero => exact absurd HA.out (by simp [laws_FnRopeInsertJoins.j0])
    | succ kj4 =>
      have H := HA.out
      clear HA
      simp only [laws_FnRopeInsertJoins.j0] at H
      by_cases c11 : x29_4 = true
      · subst c11
        have H1 : (some true) = some r := by rw [if_pos rfl] at H; exact H
        clear H
        have H := H1
        clear H1
        obtain rfl := Option.some.inj H
        go_wp2
        go_ret
        exact ⟨by first | rfl | (simp [errW_none, errW_some] <;> rfl) | (simp [*, errW_none, errW_some] <;> rfl), by repeat (first | (with_reducible first | exact HB.out | apply below_alloc | apply pw_below_drewN | apply below_drew1) | exact HB.out)⟩
      · replace c11 := Bool.eq_false_iff.mpr c11
        subst c11
        have H1 : ((spec_Rows.f kj4 l0 l1).bind fun bt227 => (if bt227.2.2 = true then (if a2 < 0 then (laws_FnRopeInsertJoins.j1 kj4 l0 l1 a2 l3 bt227.1 true) else (laws_FnRopeInsertJoins.j1 kj4 l0 l1 a2 l3 bt227.1 (decide (a2 > (bt227.1.length : Int))))) else (laws_FnRopeInsertJoins.j1 kj4 l0 l1 a2 l3 bt227.1 true))) = some r := by rw [if_neg (show ¬ (false = true) by decide)] at H; exact H
        clear H
        have H := H1
        clear H1
        replace H := Option.bind_eq_some_iff.mp H
        obtain ⟨⟨t227, t230, t233⟩, A120, H⟩ := H
        replace H : (if t233 = true then (if a2 < 0 then (laws_FnRopeInsertJoins.j1 kj4 l0 l1 a2 l3 t227 true) else (laws_FnRopeInsertJoins.j1 kj4 l0 l1 a2 l3 t227 (decide (a2 > (t227.length : Int))))) else (laws_FnRopeInsertJoins.j1 kj4 l0 l1 a2 l3 t227 true)) = some r := H
        have A12 := Aside0.mk A120
        clear A120
        have HC13 := Aside0.mk H
        clear H
        go_upto_region 4 with (first | ((with_reducible refine gate_callee (f := 13) rfl ?_); refine goesL_ (some 33) rfl rfl Try.func13 (by kernel_rfl) rfl #[.slice A0 l0.length c0, .slice A1 l1.length c1] rfl (by (try simp only [List.map_toArray, List.map_cons, List.map_nil]); first | done | rfl | (simp only [List.length_drop, List.length_take]; rfl)) ?_; (with_reducible refine (spec_Rows.calls kj4 _ _ l0 _ _ l1 t227 t230 t233 _ ?side1 ?side2 ?side3 ?side4 A12.out).mono ?_); (case side1 => repeat (first | exact (Kd.C_below HR0.out HB.out) | (with_reducible refine Kd.C_alloc ?_ _) | (with_reducible refine Kd.C_drewN ?_ _) | (with_reducible refine Kd.C_drew ?_))); (case side2 => exact HC0.out); (case side3 => repeat (first | exact (Kd.C_below HR1.out HB.out) | (with_reducible refine Kd.C_alloc ?_ _) | (with_reducible refine Kd.C_drewN ?_ _) | (with_reducible refine Kd.C_drew ?_))); (case side4 => exact HC1.out); rintro e w14 ⟨v228, v231, rfl, ho0, ho1, hb⟩; refine ⟨_, rfl, ?_⟩; have n0_ := Aside0.mk (Kd.V_lower (Kd.V_mono (ok' := fun k_ => some k_ ≠ (v231 : Value).ownBlock) ho0 (fun k_ hk_ => hk_.2)) (below_size (by repeat (first | (with_reducible first | exact HB.out | apply below_alloc | apply pw_below_drewN | apply below_drew1) | exact HB.out)))); have n1_ := Aside0.mk (Kd.N_lower (Kd.N_mono (ok' := fun k_ => True) ho1 (fun k_ hk_ => trivial)) (below_size (by repeat (first | (with_reducible first | exact HB.out | apply below_alloc | apply pw_below_drewN | apply below_drew1) | exact HB.out)))); have n2_ := Aside0.mk (below_step (by repeat (first | (with_reducible first | exact HB.out | apply below_alloc | apply pw_below_drewN | apply below_drew1) | exact HB.out)) hb); clear HB; have HO229 := n0_; have HO232 := n1_; have HB := n2_; clear n0_ n1_ n2_; (try clear hb); (try clear hb2); (try clear hk); (try clear hi); (try clear ho0); (try clear ho1)))
        (try simp only [Act.put, List.setIfInBounds_toArray, List.set_cons_zero, List.set_cons_succ])
        go_cut [48] (fun v48 wc => ∃ (kq : Nat) (x48_12 : Bool), v48 = .bool x48_12 ∧ Aside0 (laws_FnRopeInsertJoins.j1 kq l0 l1 a2 l3 t227 x48_12 = some r) ∧ Aside0 (kq ≤ kj4) ∧ Aside0 (Kd.V (Kd.int .i64) 3 wc w.heap.size (fun _ => True) v228 t227) ∧ Aside0 (Below w.heap.size w wc))
        case first =>
          have H := HC13.out
          clear HC13
          by_cases c15 : t233 = true
          · subst c15
            have H1 : (if a2 < 0 then (laws_FnRopeInsertJoins.j1 kj4 l0 l1 a2 l3 t227 true) else (laws_FnRopeInsertJoins.j1 kj4 l0 l1 a2 l3 t227 (decide (a2 > (t227.length : Int))))) = some r := by rw [if_pos rfl] at H; exact H
            clear H
            have H := H1
            clear H1
            by_cases c16 : a2 < 0
            · rw [if_pos c16] at H
              have c16b0 : decide (a2 < 0) = true := decide_eq_true c16
              clear c16
              (first | rw [c16b0] | (simp only [i64_w, i32_w]; rw [c16b0]) | skip)
              have H' := Aside0.mk H
              clear H
              go_wp2
              go_meet
              case rel => exact ⟨_, (true), (by first | rfl | (simp; done) | (simp [*]; done)), H', ⟨by have := HJ4.out; first | omega | exact Nat.le_refl _⟩, ⟨by (with_reducible repeat (first | apply Kd.V_alloc | apply Kd.V_drewN | apply Kd.V_drew)); exact Kd.V_mono HO229.out (fun _ hk => trivial)⟩, ⟨by repeat (first | (with_reducible first | exact HB.out | apply below_alloc | apply pw_below_drewN | apply below_drew1) | exact HB.out)⟩⟩
            · rw [if_neg c16] at H
              have c16b0 : decide (a2 < 0) = false := decide_eq_false c16
              clear c16
              (first | rw [c16b0] | (simp only [i64_w, i32_w]; rw [c16b0]) | skip)
              have H' := Aside0.mk H
              clear H
              obtain ⟨Ao17, co17, eo17⟩ := Kd.V_slice HO229.out
              subst eo17
              go_wp2
              go_meet
              case rel => exact ⟨_, (decide (a2 > (t227.length : Int))), (by first | rfl | (simp; done) | (simp [*]; done)), H', ⟨by have := HJ4.out; first | omega | exact Nat.le_refl _⟩, ⟨by (with_reducible repeat (first | apply Kd.V_alloc | apply Kd.V_drewN | apply Kd.V_drew)); exact Kd.V_mono HO229.out (fun _ hk => trivial)⟩, ⟨by repeat (first | (with_reducible first | exact HB.out | apply below_alloc | apply pw_below_drewN | apply below_drew1) | exact HB.out)⟩⟩
          · replace c15 := Bool.eq_false_iff.mpr c15
            subst c15
            have H1 : (laws_FnRopeInsertJoins.j1 kj4 l0 l1 a2 l3 t227 true) = some r := by rw [if_neg (show ¬ (false = true) by decide)] at H; exact H
            clear H
            have H := H1
            clear H1
            have H' := Aside0.mk H
            clear H
            go_wp2
            go_meet
            case rel => exact ⟨_, (true), (by first | rfl | (simp; done) | (simp [*]; done)), H', ⟨by have := HJ4.out; first | omega | exact Nat.le_refl _⟩, ⟨by (with_reducible repeat (first | apply Kd.V_alloc | apply Kd.V_drewN | apply Kd.V_drew)); exact Kd.V_mono HO229.out (fun _ hk => trivial)⟩, ⟨by repeat (first | (with_reducible first | exact HB.out | apply below_alloc | apply pw_below_drewN | apply below_drew1) | exact HB.out)⟩⟩
        case rest =>
          clear HC13
          try clear c1
          try clear p2
          try clear c3
          try clear c4
          try clear c6
          try clear c6b0
          try clear c6b1
          try clear c8
          try clear c11
          try clear c13
          try clear c15
          try clear c16
          try clear c16b0
          try clear p2
          obtain ⟨kq, x48_12, rfl, HA, HJ12, HO_9, HB⟩ := hcut
          cases kq with
          | zero => exact absurd HA.out (by simp [laws_FnRopeInsertJoins.j1])
          | succ kj12 =>
            have H := HA.out
            clear HA
            simp only [laws_FnRopeInsertJoins.j1] at H
            by_cases c18 : x48_12 = true
            · subst c18
              have H1 : (some true) = some r := by rw [if_pos rfl] at H; exact H
              clear H
              have H := H1
              clear H1
              obtain rfl := Option.some.inj H
              go_wp2
              go_ret
              exact ⟨by first | rfl | (simp [errW_none, errW_some] <;> rfl) | (simp [*, errW_none, errW_some] <;> rfl), by repeat (first | (with_reducible first | exact HB.out | apply below_alloc | apply pw_below_drewN | apply below_drew1) | exact HB.out)⟩
            · replace c18 := Bool.eq_false_iff.mpr c18
              subst c18
              have H1 : ((laws_rowLast.f l0 l1 (([(⟨0, a2, 0, l3⟩ : S38), (⟨4, 0, 0, ([] : List Int)⟩ : S38)] : List (S38)))).bind fun bt237 => ((laws_rowLast.f l0 l1 (([(⟨6, a2, 0, ([] : List Int)⟩ : S38), (⟨8, 0, 0, l3⟩ : S38), (⟨6, wrap64 ((wrap64 ((l3.length : Int) + (t227.length : Int))) - a2), 0, ([] : List Int)⟩ : S38), (⟨4, 0, 0, ([] : List Int)⟩ : S38)] : List (S38)))).bind fun bt249 => (if 0 ≤ a2 then (if a2 ≤ (t227.length : Int) then ((spec_Both.f (t227.take (a2 : Int).toNat) l3).bind fun t263 => ((spec_Both.f t263 (t227.drop (a2 : Int).toNat)).bind fun t271 => (if bt237.2.2.2 = true then (if bt249.2.2.2 = true then ((spec_Same.f kj12 bt237.2.1 t271).bind fun t274 => (if t274 = true then ((spec_Same.f kj12 bt249.2.1 t271).bind fun t275 => (some t275)) else (none))) else (none)) else (none)))) else (none)) else (none)))) = some r := by rw [if_neg (show ¬ (false = true) by decide)] at H; exact H
              clear H
              have H := H1
              clear H1
              obtain ⟨y234, hy234⟩ : ∃ y_ : List (S38), y_ = (([(⟨0, a2, 0, l3⟩ : S38), (⟨4, 0, 0, ([] : List Int)⟩ : S38)] : List (S38))) := ⟨_, rfl⟩
              replace H : ((laws_rowLast.f l0 l1 y234).bind fun bt237 => ((laws_rowLast.f l0 l1 (([(⟨6, a2, 0, ([] : List Int)⟩ : S38), (⟨8, 0, 0, l3⟩ : S38), (⟨6, wrap64 ((wrap64 ((l3.length : Int) + (t227.length : Int))) - a2), 0, ([] : List Int)⟩ : S38), (⟨4, 0, 0, ([] : List Int)⟩ : S38)] : List (S38)))).bind fun bt249 => (if 0 ≤ a2 then (if a2 ≤ (t227.length : Int) then ((spec_Both.f (t227.take (a2 : Int).toNat) l3).bind fun t263 => ((spec_Both.f t263 (t227.drop (a2 : Int).toNat)).bind fun t271 => (if bt237.2.2.2 = true then (if bt249.2.2.2 = true then ((spec_Same.f kj12 bt237.2.1 t271).bind fun t274 => (if t274 = true then ((spec_Same.f kj12 bt249.2.1 t271).bind fun t275 => (some t275)) else (none))) else (none)) else (none)))) else (none)) else (none)))) = some r := by first | (rw [hy234]; with_reducible exact H) | (have H2_ := (Option.bind_some _ _).symm.trans H; rw [hy234]; with_reducible exact H2_) | (have H2_ := (Option.bind_some _ _).symm.trans H; with_reducible exact H2_) | with_reducible exact H | (rw [hy234]; exact H) | exact H
              have Ny234 := Aside0.mk hy234
              clear hy234
              replace H := Option.bind_eq_some_iff.mp H
              obtain ⟨⟨t237, t238, t241, t244⟩, A190, H⟩ := H
              replace H : ((laws_rowLast.f l0 l1 (([(⟨6, a2, 0, ([] : List Int)⟩ : S38), (⟨8, 0, 0, l3⟩ : S38), (⟨6, wrap64 ((wrap64 ((l3.length : Int) + (t227.length : Int))) - a2), 0, ([] : List Int)⟩ : S38), (⟨4, 0, 0, ([] : List Int)⟩ : S38)] : List (S38)))).bind fun bt249 => (if 0 ≤ a2 then (if a2 ≤ (t227.length : Int) then ((spec_Both.f (t227.take (a2 : Int).toNat) l3).bind fun t263 => ((spec_Both.f t263 (t227.drop (a2 : Int).toNat)).bind fun t271 => (if t244 = true then (if bt249.2.2.2 = true then ((spec_Same.f kj12 t238 t271).bind fun t274 => (if t274 = true then ((spec_Same.f kj12 bt249.2.1 t271).bind fun t275 => (some t275)) else (none))) else (none)) else (none)))) else (none)) else (none))) = some r := H
              have A19 := Aside0.mk A190
              clear A190
              obtain ⟨y246, hy246⟩ : ∃ y_ : List (S38), y_ = (([(⟨6, a2, 0, ([] : List Int)⟩ : S38), (⟨8, 0, 0, l3⟩ : S38), (⟨6, wrap64 ((wrap64 ((l3.length : Int) + (t227.length : Int))) - a2), 0, ([] : List Int)⟩ : S38), (⟨4, 0, 0, ([] : List Int)⟩ : S38)] : List (S38))) := ⟨_, rfl⟩
              replace H : ((laws_rowLast.f l0 l1 y246).bind fun bt249 => (if 0 ≤ a2 then (if a2 ≤ (t227.length : Int) then ((spec_Both.f (t227.take (a2 : Int).toNat) l3).bind fun t263 => ((spec_Both.f t263 (t227.drop (a2 : Int).toNat)).bind fun t271 => (if t244 = true then (if bt249.2.2.2 = true then ((spec_Same.f kj12 t238 t271).bind fun t274 => (if t274 = true then ((spec_Same.f kj12 bt249.2.1 t271).bind fun t275 => (some t275)) else (none))) else (none)) else (none)))) else (none)) else (none))) = some r := by first | (rw [hy246]; with_reducible exact H) | (have H2_ := (Option.bind_some _ _).symm.trans H; rw [hy246]; with_reducible exact H2_) | (have H2_ := (Option.bind_some _ _).symm.trans H; with_reducible exact H2_) | with_reducible exact H | (rw [hy246]; exact H) | exact H
              have Ny246 := Aside0.mk hy246
              clear hy246
              replace H := Option.bind_eq_some_iff.mp H
              obtain ⟨⟨t249, t250, t253, t256⟩, A200, H⟩ := H
              replace H : (if 0 ≤ a2 then (if a2 ≤ (t227.length : Int) then ((spec_Both.f (t227.take (a2 : Int).toNat) l3).bind fun t263 => ((spec_Both.f t263 (t227.drop (a2 : Int).toNat)).bind fun t271 => (if t244 = true then (if t256 = true then ((spec_Same.f kj12 t238 t271).bind fun t274 => (if t274 = true then ((spec_Same.f kj12 t250 t271).bind fun t275 => (some t275)) else (none))) else (none)) else (none)))) else (none)) else (none)) = some r := H
              have A20 := Aside0.mk A200
              clear A200
              by_cases c21 : 0 ≤ a2
              · rw [if_pos c21] at H
                have c21b0 := eq_true c21
                have c21b1 : decide (0 ≤ a2) = true := decide_eq_true c21
                clear c21
                by_cases c22 : a2 ≤ (t227.length : Int)
                · rw [if_pos c22] at H
                  have c22b0 := eq_true c22
                  have c22b1 : decide (a2 ≤ (t227.length : Int)) = true := decide_eq_true c22
                  clear c22
                  obtain ⟨y258, hy258⟩ : ∃ y_ : List Int, y_ = (t227.take (a2 : Int).toNat) := ⟨_, rfl⟩
                  replace H : ((spec_Both.f y258 l3).bind fun t263 => ((spec_Both.f t263 (t227.drop (a2 : Int).toNat)).bind fun t271 => (if t244 = true then (if t256 = true then ((spec_Same.f kj12 t238 t271).bind fun t274 => (if t274 = true then ((spec_Same.f kj12 t250 t271).bind fun t275 => (some t275)) else (none))) else (none)) else (none)))) = some r := by first | (rw [hy258]; with_reducible exact H) | (have H2_ := (Option.bind_some _ _).symm.trans H; rw [hy258]; with_reducible exact H2_) | (have H2_ := (Option.bind_some _ _).symm.trans H; with_reducible exact H2_) | with_reducible exact H | (rw [hy258]; exact H) | exact H
                  have Ny258 := Aside0.mk hy258
                  clear hy258
                  replace H := Option.bind_eq_some_iff.mp H
                  obtain ⟨t263, A230, H⟩ := H
                  replace H : ((spec_Both.f t263 (t227.drop (a2 : Int).toNat)).bind fun t271 => (if t244 = true then (if t256 = true then ((spec_Same.f kj12 t238 t271).bind fun t274 => (if t274 = true then ((spec_Same.f kj12 t250 t271).bind fun t275 => (some t275)) else (none))) else (none)) else (none))) = some r := H
                  have A23 := Aside0.mk A230
                  clear A230
                  have c24b0 := eq_true (of_decide_eq_true (by first | (with_reducible assumption) | assumption) : 0 ≤ a2)
                  have c25b0 := eq_true (of_decide_eq_true (by first | (with_reducible assumption) | assumption) : a2 ≤ (t227.length : Int))
                  obtain ⟨y266, hy266⟩ : ∃ y_ : List Int, y_ = (t227.drop (a2 : Int).toNat) := ⟨_, rfl⟩
                  replace H : ((spec_Both.f t263 y266).bind fun t271 => (if t244 = true then (if t256 = true then ((spec_Same.f kj12 t238 t271).bind fun t274 => (if t274 = true then ((spec_Same.f kj12 t250 t271).bind fun t275 => (some t275)) else (none))) else (none)) else (none))) = some r := by first | (rw [hy266]; with_reducible exact H) | (have H2_ := (Option.bind_some _ _).symm.trans H; rw [hy266]; with_reducible exact H2_) | (have H2_ := (Option.bind_some _ _).symm.trans H; with_reducible exact H2_) | with_reducible exact H | (rw [hy266]; exact H) | exact H
                  have Ny266 := Aside0.mk hy266
                  clear hy266
                  replace H := Option.bind_eq_some_iff.mp H
                  obtain ⟨t271, A260, H⟩ := H
                  replace H : (if t244 = true then (if t256 = true then ((spec_Same.f kj12 t238 t271).bind fun t274 => (if t274 = true then ((spec_Same.f kj12 t250 t271).bind fun t275 => (some t275)) else (none))) else (none)) else (none)) = some r := H
                  have A26 := Aside0.mk A260
                  clear A260
                  by_cases c27 : t244 = true
                  · subst c27
                    have H1 : (if t256 = true then ((spec_Same.f kj12 t238 t271).bind fun t274 => (if t274 = true then ((spec_Same.f kj12 t250 t271).bind fun t275 => (some t275)) else (none))) else (none)) = some r := by rw [if_pos rfl] at H; exact H
                    clear H
                    have H := H1
                    clear H1
                    by_cases c28 : t256 = true
                    · subst c28
                      have H1 : ((spec_Same.f kj12 t238 t271).bind fun t274 => (if t274 = true then ((spec_Same.f kj12 t250 t271).bind fun t275 => (some t275)) else (none))) = some r := by rw [if_pos rfl] at H; exact H
                      clear H
                      have H := H1
                      clear H1
                      replace H := Option.bind_eq_some_iff.mp H
                      obtain ⟨t274, A290, H⟩ := H
                      replace H : (if t274 = true then ((spec_Same.f kj12 t250 t271).bind fun t275 => (some t275)) else (none)) = some r := H
                      have A29 := Aside0.mk A290
                      clear A290
                      by_cases c30 : t274 = true
                      · subst c30
                        have H1 : ((spec_Same.f kj12 t250 t271).bind fun t275 => (some t275)) = some r := by rw [if_pos rfl] at H; exact H
                        clear H
                        have H := H1
                        clear H1
                        replace H := Option.bind_eq_some_iff.mp H
                        obtain ⟨t275, A310, H⟩ := H
                        replace H : (some t275) = some r := H
                        have A31 := Aside0.mk A310
                        clear A310
                        obtain rfl := Option.some.inj H
                        try go_wp2_with (first | ((with_reducible refine gate_dst (N := 56) rfl ?_); (try (refine gate_guard (by rfl) ?_; dsimp only)); refine Kd.N_lit k38 _ 38 ?hg (N' := 56) ?hd (xs := ([(⟨0, a2, 0, l3⟩ : S38), (⟨4, 0, 0, ([] : List Int)⟩ : S38)] : List (S38))) (inner := [.int .i64 0, .int .i64 a2, .int .i64 0, .slice A3 l3.length c3, .int .i64 4, .int .i64 0, .int .i64 0, .slice none 0 0]) (ok := (fun _ => True)) (okp := (fun _ => True)) ?hr ?hp (fun _ hk => hk) ((show ∀ k_, wc.heap.size ≤ k_ → (fun _ => True) k_ from fun k_ hk => trivial) _ (Nat.le_refl _)) (Below.refl _ _) (Nat.le_refl _) (by simp) ?_; (case hd => rfl); (case hg => rfl); (case hr => first | (go_simp; done) | (go_simp; rfl)); (case hp => exact (Reps.c4 (show Kd.FK k38 _ _ (⟨0, a2, 0, l3⟩ : S38) [.int .i64 0, .int .i64 a2, .int .i64 0, .slice A3 l3.length c3] from (k38_mkF _ _ (⟨0, a2, 0, l3⟩ : S38) HC3.out (Kd.F_mono (Kd.F_below (Kd.C_F (Kd.heap_int .i64) HR3.out) (by repeat (first | (with_reducible first | exact HB.out | apply below_alloc | apply pw_below_drewN | apply below_drew1 | refine below_set ?_ GE245.out | refine below_set ?_ GE257.out) | exact HB.out))) (fun k_ hk => by repeat' (first | exact trivial | exact Nat.ne_of_lt (Nat.lt_of_lt_of_le hk GE245.out) | exact Nat.ne_of_lt (Nat.lt_of_lt_of_le hk GE257.out) | exact fun e_ => absurd (Kd.N_base HO236.out _ e_.symm) (Nat.not_le_of_lt hk) | exact fun e_ => absurd (Kd.N_base HO248.out _ e_.symm) (Nat.not_le_of_lt hk) | refine ⟨?_, ?_⟩))))) (Reps.c4 (show Kd.FK k38 _ _ (⟨4, 0, 0, ([] : List Int)⟩ : S38) [.int .i64 4, .int .i64 0, .int .i64 0, .slice none 0 0] from (k38_mkF _ _ (⟨4, 0, 0, ([] : List Int)⟩ : S38) (Nat.le_refl _) (Kd.F_nil _ _ _))) (Reps.none _ _)))); intro v235 w32 ho33 hb hg_ hnew_; clear hg_ hnew_; (first | rw [← Ny234.out] at ho33 | (simp only [Int.reduceToNat] at ho33; rw [← Ny234.out] at ho33)); have n0_ := Aside0.mk (Kd.V_elder' (by (with_reducible repeat (first | apply Kd.V_alloc | apply Kd.V_drewN | apply Kd.V_drew)); exact HO_9.out) (Kd.N_base ho33) hb); have n1_ := Aside0.mk (Kd.N_lower ho33 (below_size (by repeat (first | (with_reducible first | exact HB.out | apply below_alloc | apply pw_below_drewN | apply below_drew1) | exact HB.out)))); have n2_ := Aside0.mk (below_step (by repeat (first | (with_reducible first | exact HB.out | apply below_alloc | apply pw_below_drewN | apply below_drew1) | exact HB.out)) hb); clear HO_9; clear HB; have HO_9 := n0_; have HO236 := n1_; have HB := n2_; clear n0_ n1_ n2_; clear hb ho33; obtain ⟨Ao34, co34, eo34⟩ := Kd.N_slice HO236.out; subst eo34) | ((with_reducible refine gate_callee (f := 14) rfl ?_); refine goesL_ (some 57) rfl rfl Try.func14 (by kernel_rfl) rfl #[.slice A0 l0.length c0, .slice A1 l1.length c1, .slice Ao34 y234.length co34] rfl (by (try simp only [List.map_toArray, List.map_cons, List.map_nil]); first | done | rfl | (simp only [List.length_drop, List.length_take]; rfl)) ?_; (with_reducible refine (laws_rowLast.calls _ _ l0 (fun k_ => k_ < w.heap.size) _ _ l1 (fun k_ => True) _ _ y234 t237 t238 t241 true _ ?side1 ?side2 ?side3 ?side4 A19.out).mono ?_); (case side1 => repeat (first | exact (Kd.C_below HR0.out HB.out) | (with_reducible refine Kd.C_alloc ?_ _) | (with_reducible refine Kd.C_drewN ?_ _) | (with_reducible refine Kd.C_drew ?_))); (case side2 => exact HC0.out); (case side3 => exact Kd.V_mk HC1.out (Kd.F_below (Kd.C_F k38_heap HR1.out) (by repeat (first | (with_reducible first | exact HB.out | apply below_alloc | apply pw_below_drewN | apply below_drew1) | exact HB.out)))); (case side4 => exact Kd.N_V (HO236.out)); rintro e w35 ⟨v239, v242, rfl, ho0, ho1, hb⟩; refine ⟨_, rfl, ?_⟩; have n0_ := Aside0.mk (Kd.V_below (by (with_reducible repeat (first | apply Kd.V_alloc | apply Kd.V_drewN | apply Kd.V_drew)); exact HO_9.out) hb); have n1_ := Aside0.mk (Kd.N_below (by (with_reducible repeat (first | apply Kd.N_alloc | apply Kd.N_drewN | apply Kd.N_drew)); exact HO236.out) hb); have n2_ := Aside0.mk (Kd.V_lower (Kd.V_mono (ok' := fun k_ => True) ho0 (fun k_ hk_ => trivial)) (below_size (by repeat (first | (with_reducible first | exact HB.out | apply below_alloc | apply pw_below_drewN | apply below_drew1) | exact HB.out)))); have n3_ := Aside0.mk (Kd.V_lower (Kd.V_mono (ok' := fun k_ => True) ho1 (fun k_ hk_ => trivial)) (below_size (by repeat (first | (with_reducible first | exact HB.out | apply below_alloc | apply pw_below_drewN | apply below_drew1) | exact HB.out)))); have n4_ := Aside0.mk (below_step (by repeat (first | (with_reducible first | exact HB.out | apply below_alloc | apply pw_below_drewN | apply below_drew1) | exact HB.out)) hb); clear HO_9; clear HO236; clear HB; have HO_9 := n0_; have HO236 := n1_; have HO240 := n2_; have HO243 := n3_; have HB := n4_; clear n0_ n1_ n2_ n3_ n4_; (try clear hb); (try clear hb2); (try clear hk); (try clear hi); (try clear ho0); (try clear ho1)) | ((with_reducible refine gate_dst (N := 12) rfl ?_); (try (refine gate_guard (by rfl) ?_; dsimp only)); refine box_event ?hg (N := 12) ?hd (cs := #[.int .i64 0, .slice none 0 0, .slice none 0 0]) (t := 34) ?hr ?_; (case hd => rfl); (case hg => rfl); (case hr => first | (go_simp; done) | (go_simp; rfl)); intro gb245 hg w36 hbox hb; have n0_ := Aside0.mk (Kd.V_below (Kd.V_elderB (by (with_reducible repeat (first | apply Kd.V_alloc | apply Kd.V_drewN | apply Kd.V_drew)); exact HO_9.out) gb245 (Nat.le_of_eq hg.symm)) hb); have n1_ := Aside0.mk (Kd.N_below (Kd.N_elderB (by (with_reducible repeat (first | apply Kd.N_alloc | apply Kd.N_drewN | apply Kd.N_drew)); exact HO236.out) gb245 (Nat.le_of_eq hg.symm)) hb); have n2_ := Aside0.mk (Kd.V_below (Kd.V_elderB (by (with_reducible repeat (first | apply Kd.V_alloc | apply Kd.V_drewN | apply Kd.V_drew)); exact HO240.out) gb245 (Nat.le_of_eq hg.symm)) hb); have n3_ := Aside0.mk (Kd.V_below (Kd.V_elderB (by (with_reducible repeat (first | apply Kd.V_alloc | apply Kd.V_drewN | apply Kd.V_drew)); exact HO243.out) gb245 (Nat.le_of_eq hg.symm)) hb); have n4_ := Aside0.mk (below_step (by repeat (first | (with_reducible first | exact HB.out | apply below_alloc | apply pw_below_drewN | apply below_drew1) | exact HB.out)) hb); have n5_ := Aside0.mk (hbox); have n6_ := Aside0.mk ((by rw [hg]; exact (below_size (by repeat (first | (with_reducible first | exact HB.out | apply below_alloc | apply pw_below_drewN | apply below_drew1) | exact HB.out))) : w.heap.size ≤ gb245)); have n7_ := Aside0.mk ((by rw [hg]; exact (below_size (by repeat (first | (with_reducible first | exact HB.out | apply below_alloc | apply pw_below_drewN | apply below_drew1) | exact HB.out))) : w.heap.size ≤ gb245)); clear HO_9; clear HO236; clear HO240; clear HO243; clear HB; have HO_9 := n0_; have HO236 := n1_; have HO240 := n2_; have HO243 := n3_; have HB := n4_; have BK245 := n5_; have GW245 := n6_; have GE245 := n7_; clear n0_ n1_ n2_ n3_ n4_ n5_ n6_ n7_; clear hb hbox hg; have hcz37_0 : w36.cell? ⟨gb245, 0, none⟩ = some (.int .i64 0) := (blk_cell BK245.out 0).trans rfl; have hcz37_1 : w36.cell? ⟨gb245, 1, none⟩ = some (.slice none 0 0) := (blk_cell BK245.out 1).trans rfl; have hcz37_2 : w36.cell? ⟨gb245, 2, none⟩ = some (.slice none 0 0) := (blk_cell BK245.out 2).trans rfl; have hfz37_0 := blk_frozen BK245.out 0; have hfz37_1 := blk_frozen BK245.out 1; have hfz37_2 := blk_frozen BK245.out 2; obtain ⟨Ao38, co38, eo38⟩ := Kd.V_slice HO240.out; subst eo38; obtain ⟨Ao39, co39, eo39⟩ := Kd.V_slice HO243.out; subst eo39; obtain ⟨Ao40, co40, eo40⟩ := Kd.V_slice HO_9.out; subst eo40) | ((with_reducible refine gate_dst (N := 76) rfl ?_); (try (refine gate_guard (by rfl) ?_; dsimp only)); refine Kd.N_lit k38 _ 38 ?hg (N' := 76) ?hd (xs := ([(⟨6, a2, 0, ([] : List Int)⟩ : S38), (⟨8, 0, 0, l3⟩ : S38), (⟨6, wrap64 ((wrap64 ((l3.length : Int) + (t227.length : Int))) - a2), 0, ([] : List Int)⟩ : S38), (⟨4, 0, 0, ([] : List Int)⟩ : S38)] : List (S38))) (inner := [.int .i64 6, .int .i64 a2, .int .i64 0, .slice none 0 0, .int .i64 8, .int .i64 0, .int .i64 0, .slice A3 l3.length c3, .int .i64 6, .int .i64 (wrap64 ((wrap64 ((l3.length : Int) + (t227.length : Int))) - a2)), .int .i64 0, .slice none 0 0, .int .i64 4, .int .i64 0, .int .i64 0, .slice none 0 0]) (ok := (fun k_ => some k_ ≠ (.slice Ao34 y234.length co34 : Value).ownBlock ∧ k_ ≠ gb245)) (okp := (fun k_ => some k_ ≠ (.slice Ao34 y234.length co34 : Value).ownBlock ∧ k_ ≠ gb245)) ?hr ?hp (fun _ hk => hk) ((show ∀ k_, w36.heap.size ≤ k_ → (fun k_ => some k_ ≠ (.slice Ao34 y234.length co34 : Value).ownBlock ∧ k_ ≠ gb245) k_ from fun k_ hk => ⟨Kd.fresh' (Kd.N_lt HO236.out) k_ hk, Kd.freshB BK245.out k_ hk⟩) _ (by first | (with_reducible exact Nat.le_refl _) | (simp only [World.size_setCell]; with_reducible exact Nat.le_refl _) | (simp; done))) (Below.refl _ _) (Nat.le_refl _) (by simp) ?_; (case hd => rfl); (case hg => rfl); (case hr => first | (go_simp; done) | (go_simp; rfl)); (case hp => exact (Reps.c4 (show Kd.FK k38 _ _ (⟨6, a2, 0, ([] : List Int)⟩ : S38) [.int .i64 6, .int .i64 a2, .int .i64 0, .slice none 0 0] from (k38_mkF _ _ (⟨6, a2, 0, ([] : List Int)⟩ : S38) (Nat.le_refl _) (Kd.F_nil _ _ _))) (Reps.c4 (show Kd.FK k38 _ _ (⟨8, 0, 0, l3⟩ : S38) [.int .i64 8, .int .i64 0, .int .i64 0, .slice A3 l3.length c3] from (k38_mkF _ _ (⟨8, 0, 0, l3⟩ : S38) HC3.out (Kd.F_mono (Kd.F_below (Kd.C_F (Kd.heap_int .i64) HR3.out) (by repeat (first | (with_reducible first | exact HB.out | apply below_alloc | apply pw_below_drewN | apply below_drew1 | refine below_set ?_ GE245.out | refine below_set ?_ GE257.out) | exact HB.out))) (fun k_ hk => by repeat' (first | exact trivial | exact Nat.ne_of_lt (Nat.lt_of_lt_of_le hk GE245.out) | exact Nat.ne_of_lt (Nat.lt_of_lt_of_le hk GE257.out) | exact fun e_ => absurd (Kd.N_base HO236.out _ e_.symm) (Nat.not_le_of_lt hk) | exact fun e_ => absurd (Kd.N_base HO248.out _ e_.symm) (Nat.not_le_of_lt hk) | refine ⟨?_, ?_⟩))))) (Reps.c4 (show Kd.FK k38 _ _ (⟨6, wrap64 ((wrap64 ((l3.length : Int) + (t227.length : Int))) - a2), 0, ([] : List Int)⟩ : S38) [.int .i64 6, .int .i64 (wrap64 ((wrap64 ((l3.length : Int) + (t227.length : Int))) - a2)), .int .i64 0, .slice none 0 0] from (k38_mkF _ _ (⟨6, wrap64 ((wrap64 ((l3.length : Int) + (t227.length : Int))) - a2), 0, ([] : List Int)⟩ : S38) (Nat.le_refl _) (Kd.F_nil _ _ _))) (Reps.c4 (show Kd.FK k38 _ _ (⟨4, 0, 0, ([] : List Int)⟩ : S38) [.int .i64 4, .int .i64 0, .int .i64 0, .slice none 0 0] from (k38_mkF _ _ (⟨4, 0, 0, ([] : List Int)⟩ : S38) (Nat.le_refl _) (Kd.F_nil _ _ _))) (Reps.none _ _)))))); intro v247 w41 ho42 hb hg_ hnew_; clear hg_ hnew_; (first | rw [← Ny246.out] at ho42 | (simp only [Int.reduceToNat] at ho42; rw [← Ny246.out] at ho42)); have n0_ := Aside0.mk (Kd.V_elder' (by (with_reducible repeat (first | apply Kd.V_alloc | apply Kd.V_drewN | apply Kd.V_drew)); exact (Kd.V_mono (Kd.V_far (p := ⟨gb245, 2, none⟩) (Kd.V_far (p := ⟨gb245, 1, none⟩) (Kd.V_far (p := ⟨gb245, 0, none⟩) (Kd.V_mono HO_9.out (fun k_ hk => (⟨hk, hk.2⟩ : _ ∧ k_ ≠ gb245))) (fun _ hk => hk.2) (.int .i64 t237)) (fun _ hk => hk.2) (.slice Ao38 t238.length co38)) (fun _ hk => hk.2) (.slice Ao39 t241.length co39)) (fun _ h_ => h_.1))) (Kd.N_base ho42) hb); have n1_ := Aside0.mk (Kd.N_elder' (by (with_reducible repeat (first | apply Kd.N_alloc | apply Kd.N_drewN | apply Kd.N_drew)); exact (Kd.N_mono (Kd.N_far (p := ⟨gb245, 2, none⟩) (Kd.N_far (p := ⟨gb245, 1, none⟩) (Kd.N_far (p := ⟨gb245, 0, none⟩) (Kd.N_mono HO236.out (fun k_ hk => (⟨hk, hk.2⟩ : _ ∧ k_ ≠ gb245))) (fun _ hk => hk.2) (.int .i64 t237)) (fun _ hk => hk.2) (.slice Ao38 t238.length co38)) (fun _ hk => hk.2) (.slice Ao39 t241.length co39)) (fun _ h_ => h_.1))) (Kd.N_base ho42) hb); have n2_ := Aside0.mk (Kd.V_elder' (by (with_reducible repeat (first | apply Kd.V_alloc | apply Kd.V_drewN | apply Kd.V_drew)); exact (Kd.V_mono (Kd.V_far (p := ⟨gb245, 2, none⟩) (Kd.V_far (p := ⟨gb245, 1, none⟩) (Kd.V_far (p := ⟨gb245, 0, none⟩) (Kd.V_mono HO240.out (fun k_ hk => (⟨hk, hk.2⟩ : _ ∧ k_ ≠ gb245))) (fun _ hk => hk.2) (.int .i64 t237)) (fun _ hk => hk.2) (.slice Ao38 t238.length co38)) (fun _ hk => hk.2) (.slice Ao39 t241.length co39)) (fun _ h_ => h_.1))) (Kd.N_base ho42) hb); have n3_ := Aside0.mk (Kd.V_elder' (by (with_reducible repeat (first | apply Kd.V_alloc | apply Kd.V_drewN | apply Kd.V_drew)); exact (Kd.V_mono (Kd.V_far (p := ⟨gb245, 2, none⟩) (Kd.V_far (p := ⟨gb245, 1, none⟩) (Kd.V_far (p := ⟨gb245, 0, none⟩) (Kd.V_mono HO243.out (fun k_ hk => (⟨hk, hk.2⟩ : _ ∧ k_ ≠ gb245))) (fun _ hk => hk.2) (.int .i64 t237)) (fun _ hk => hk.2) (.slice Ao38 t238.length co38)) (fun _ hk => hk.2) (.slice Ao39 t241.length co39)) (fun _ h_ => h_.1))) (Kd.N_base ho42) hb); have n4_ := Aside0.mk (Kd.N_lower ho42 (below_size (by repeat (first | (with_reducible first | exact HB.out | apply below_alloc | apply pw_below_drewN | apply below_drew1 | refine below_set ?_ GE245.out) | exact HB.out)))); have n5_ := Aside0.mk (blk_below (g := gb245) (o := .cells #[.int .i64 t237, .slice Ao38 t238.length co38, .slice Ao39 t241.length co39] 34 (0, 0)) (by (with_reducible repeat (first | refine blk_drewN ?_ _ | refine blk_drew ?_ | refine blk_alloc ?_ _)); refine blk_put (cs := #[.int .i64 t237, .slice Ao38 t238.length co38, .slice none 0 0]) ?_ 2 _ rfl; (with_reducible repeat (first | refine blk_drewN ?_ _ | refine blk_drew ?_ | refine blk_alloc ?_ _)); refine blk_put (cs := #[.int .i64 t237, .slice none 0 0, .slice none 0 0]) ?_ 1 _ rfl; (with_reducible repeat (first | refine blk_drewN ?_ _ | refine blk_drew ?_ | refine blk_alloc ?_ _)); refine blk_put (cs := #[.int .i64 0, .slice none 0 0, .slice none 0 0]) ?_ 0 _ rfl; (with_reducible repeat (first | refine blk_drewN ?_ _ | refine blk_drew ?_ | refine blk_alloc ?_ _)); exact BK245.out) hb); have n6_ := Aside0.mk (below_step (by repeat (first | (with_reducible first | exact HB.out | apply below_alloc | apply pw_below_drewN | apply below_drew1 | refine below_set ?_ GE245.out) | exact HB.out)) hb); clear HO_9; clear HO236; clear HO240; clear HO243; clear BK245; clear HB; have HO_9 := n0_; have HO236 := n1_; have HO240 := n2_; have HO243 := n3_; have HO248 := n4_; have BK245 := n5_; have HB := n6_; clear n0_ n1_ n2_ n3_ n4_ n5_ n6_; clear hb ho42; obtain ⟨Ao43, co43, eo43⟩ := Kd.N_slice HO248.out; subst eo43) | ((with_reducible refine gate_callee (f := 14) rfl ?_); refine goesL_ (some 77) rfl rfl Try.func14 (by kernel_rfl) rfl #[.slice A0 l0.length c0, .slice A1 l1.length c1, .slice Ao43 y246.length co43] rfl (by (try simp only [List.map_toArray, List.map_cons, List.map_nil]); first | done | rfl | (simp only [List.length_drop, List.length_take]; rfl)) ?_; (with_reducible refine (laws_rowLast.calls _ _ l0 (fun k_ => k_ < w.heap.size) _ _ l1 (fun k_ => (some k_ ≠ (.slice Ao34 y234.length co34 : Value).ownBlock ∧ k_ ≠ gb245)) _ _ y246 t249 t250 t253 true _ ?side1 ?side2 ?side3 ?side4 A20.out).mono ?_); (case side1 => repeat (first | exact (Kd.C_below HR0.out HB.out) | (with_reducible refine Kd.C_alloc ?_ _) | (with_reducible refine Kd.C_drewN ?_ _) | (with_reducible refine Kd.C_drew ?_))); (case side2 => exact HC0.out); (case side3 => exact Kd.V_mk HC1.out (Kd.F_below (Kd.C_F k38_heap HR1.out) (by repeat (first | (with_reducible first | exact HB.out | apply below_alloc | apply pw_below_drewN | apply below_drew1 | refine below_set ?_ GE245.out) | exact HB.out)))); (case side4 => exact Kd.N_V (HO248.out)); rintro e w44 ⟨v251, v254, rfl, ho0, ho1, hb⟩; refine ⟨_, rfl, ?_⟩; have n0_ := Aside0.mk (Kd.V_below (by (with_reducible repeat (first | apply Kd.V_alloc | apply Kd.V_drewN | apply Kd.V_drew)); exact HO_9.out) hb); have n1_ := Aside0.mk (Kd.N_below (by (with_reducible repeat (first | apply Kd.N_alloc | apply Kd.N_drewN | apply Kd.N_drew)); exact HO236.out) hb); have n2_ := Aside0.mk (Kd.V_below (by (with_reducible repeat (first | apply Kd.V_alloc | apply Kd.V_drewN | apply Kd.V_drew)); exact HO240.out) hb); have n3_ := Aside0.mk (Kd.V_below (by (with_reducible repeat (first | apply Kd.V_alloc | apply Kd.V_drewN | apply Kd.V_drew)); exact HO243.out) hb); have n4_ := Aside0.mk (Kd.N_below (by (with_reducible repeat (first | apply Kd.N_alloc | apply Kd.N_drewN | apply Kd.N_drew)); exact HO248.out) hb); have n5_ := Aside0.mk (Kd.V_lower (Kd.V_mono (ok' := fun k_ => some k_ ≠ (.slice Ao34 y234.length co34 : Value).ownBlock ∧ k_ ≠ gb245) ho0 (fun k_ hk_ => ⟨Or.elim hk_ (fun hs_ => Or.elim hs_ (fun hs_ => fun e_ => Nat.not_le.2 hs_ (Kd.N_base HO236.out k_ e_.symm)) (fun hs_ => hs_.1)) (fun hn_ => (Kd.fresh' (Kd.N_lt (by (with_reducible repeat (first | apply Kd.N_alloc | apply Kd.N_drewN | apply Kd.N_drew)); exact HO236.out)) k_ hn_)), Or.elim hk_ (fun hs_ => Or.elim hs_ (fun hs_ => fun e_ => Nat.not_le.2 hs_ (by rw [e_]; exact GW245.out)) (fun hs_ => hs_.2)) (fun hn_ => (Kd.freshB (g := gb245) (o := .cells #[.int .i64 t237, .slice Ao38 t238.length co38, .slice Ao39 t241.length co39] 34 (0, 0)) (by (with_reducible repeat (first | refine blk_drewN ?_ _ | refine blk_drew ?_ | refine blk_alloc ?_ _)); exact BK245.out) k_ hn_))⟩)) (below_size (by repeat (first | (with_reducible first | exact HB.out | apply below_alloc | apply pw_below_drewN | apply below_drew1 | refine below_set ?_ GE245.out) | exact HB.out)))); have n6_ := Aside0.mk (Kd.V_lower (Kd.V_mono (ok' := fun k_ => some k_ ≠ (.slice Ao34 y234.length co34 : Value).ownBlock ∧ k_ ≠ gb245) ho1 (fun k_ hk_ => ⟨Or.elim hk_ (fun hs_ => Or.elim hs_ (fun hs_ => fun e_ => Nat.not_le.2 hs_ (Kd.N_base HO236.out k_ e_.symm)) (fun hs_ => hs_.1)) (fun hn_ => (Kd.fresh' (Kd.N_lt (by (with_reducible repeat (first | apply Kd.N_alloc | apply Kd.N_drewN | apply Kd.N_drew)); exact HO236.out)) k_ hn_)), Or.elim hk_ (fun hs_ => Or.elim hs_ (fun hs_ => fun e_ => Nat.not_le.2 hs_ (by rw [e_]; exact GW245.out)) (fun hs_ => hs_.2)) (fun hn_ => (Kd.freshB (g := gb245) (o := .cells #[.int .i64 t237, .slice Ao38 t238.length co38, .slice Ao39 t241.length co39] 34 (0, 0)) (by (with_reducible repeat (first | refine blk_drewN ?_ _ | refine blk_drew ?_ | refine blk_alloc ?_ _)); exact BK245.out) k_ hn_))⟩)) (below_size (by repeat (first | (with_reducible first | exact HB.out | apply below_alloc | apply pw_below_drewN | apply below_drew1 | refine below_set ?_ GE245.out) | exact HB.out)))); have n7_ := Aside0.mk (blk_below (g := gb245) (o := .cells #[.int .i64 t237, .slice Ao38 t238.length co38, .slice Ao39 t241.length co39] 34 (0, 0)) (by (with_reducible repeat (first | refine blk_drewN ?_ _ | refine blk_drew ?_ | refine blk_alloc ?_ _)); exact BK245.out) hb); have n8_ := Aside0.mk (below_step (by repeat (first | (with_reducible first | exact HB.out | apply below_alloc | apply pw_below_drewN | apply below_drew1 | refine below_set ?_ GE245.out) | exact HB.out)) hb); clear HO_9; clear HO236; clear HO240; clear HO243; clear HO248; clear BK245; clear HB; have HO_9 := n0_; have HO236 := n1_; have HO240 := n2_; have HO243 := n3_; have HO248 := n4_; have HO252 := n5_; have HO255 := n6_; have BK245 := n7_; have HB := n8_; clear n0_ n1_ n2_ n3_ n4_ n5_ n6_ n7_ n8_; (try clear hb); (try clear hb2); (try clear hk); (try clear hi); (try clear ho0); (try clear ho1)) | ((with_reducible refine gate_dst (N := 14) rfl ?_); (try (refine gate_guard (by rfl) ?_; dsimp only)); refine box_event ?hg (N := 14) ?hd (cs := #[.int .i64 0, .slice none 0 0, .slice none 0 0]) (t := 34) ?hr ?_; (case hd => rfl); (case hg => rfl); (case hr => first | (go_simp; done) | (go_simp; rfl)); intro gb257 hg w45 hbox hb; have n0_ := Aside0.mk (Kd.V_below (Kd.V_elderB (by (with_reducible repeat (first | apply Kd.V_alloc | apply Kd.V_drewN | apply Kd.V_drew)); exact HO_9.out) gb257 (Nat.le_of_eq hg.symm)) hb); have n1_ := Aside0.mk (Kd.N_below (Kd.N_elderB (by (with_reducible repeat (first | apply Kd.N_alloc | apply Kd.N_drewN | apply Kd.N_drew)); exact HO236.out) gb257 (Nat.le_of_eq hg.symm)) hb); have n2_ := Aside0.mk (Kd.V_below (Kd.V_elderB (by (with_reducible repeat (first | apply Kd.V_alloc | apply Kd.V_drewN | apply Kd.V_drew)); exact HO240.out) gb257 (Nat.le_of_eq hg.symm)) hb); have n3_ := Aside0.mk (Kd.V_below (Kd.V_elderB (by (with_reducible repeat (first | apply Kd.V_alloc | apply Kd.V_drewN | apply Kd.V_drew)); exact HO243.out) gb257 (Nat.le_of_eq hg.symm)) hb); have n4_ := Aside0.mk (Kd.N_below (Kd.N_elderB (by (with_reducible repeat (first | apply Kd.N_alloc | apply Kd.N_drewN | apply Kd.N_drew)); exact HO248.out) gb257 (Nat.le_of_eq hg.symm)) hb); have n5_ := Aside0.mk (Kd.V_below (Kd.V_elderB (by (with_reducible repeat (first | apply Kd.V_alloc | apply Kd.V_drewN | apply Kd.V_drew)); exact HO252.out) gb257 (Nat.le_of_eq hg.symm)) hb); have n6_ := Aside0.mk (Kd.V_below (Kd.V_elderB (by (with_reducible repeat (first | apply Kd.V_alloc | apply Kd.V_drewN | apply Kd.V_drew)); exact HO255.out) gb257 (Nat.le_of_eq hg.symm)) hb); have n7_ := Aside0.mk (blk_below (g := gb245) (o := .cells #[.int .i64 t237, .slice Ao38 t238.length co38, .slice Ao39 t241.length co39] 34 (0, 0)) (by (with_reducible repeat (first | refine blk_drewN ?_ _ | refine blk_drew ?_ | refine blk_alloc ?_ _)); exact BK245.out) hb); have n8_ := Aside0.mk (below_step (by repeat (first | (with_reducible first | exact HB.out | apply below_alloc | apply pw_below_drewN | apply below_drew1 | refine below_set ?_ GE245.out) | exact HB.out)) hb); have n9_ := Aside0.mk (hbox); have n10_ := Aside0.mk ((by rw [hg]; exact (below_size (by repeat (first | (with_reducible first | exact HB.out | apply below_alloc | apply pw_below_drewN | apply below_drew1 | refine below_set ?_ GE245.out) | exact HB.out))) : w.heap.size ≤ gb257)); have n11_ := Aside0.mk ((by rw [hg]; exact (below_size (by repeat (first | (with_reducible first | exact HB.out | apply below_alloc | apply pw_below_drewN | apply below_drew1 | refine below_set ?_ GE245.out) | exact HB.out))) : w.heap.size ≤ gb257)); have n12_ := Aside0.mk ((by rw [hg]; exact Nat.ne_of_lt (blk_lt (g := gb245) (o := .cells #[.int .i64 t237, .slice Ao38 t238.length co38, .slice Ao39 t241.length co39] 34 (0, 0)) (by (with_reducible repeat (first | refine blk_drewN ?_ _ | refine blk_drew ?_ | refine blk_alloc ?_ _)); exact BK245.out)) : gb245 ≠ gb257)); have n13_ := Aside0.mk ((by rw [hg]; exact Nat.ne_of_gt (blk_lt (g := gb245) (o := .cells #[.int .i64 t237, .slice Ao38 t238.length co38, .slice Ao39 t241.length co39] 34 (0, 0)) (by (with_reducible repeat (first | refine blk_drewN ?_ _ | refine blk_drew ?_ | refine blk_alloc ?_ _)); exact BK245.out)) : gb257 ≠ gb245)); clear HO_9; clear HO236; clear HO240; clear HO243; clear HO248; clear HO252; clear HO255; clear BK245; clear HB; have HO_9 := n0_; have HO236 := n1_; have HO240 := n2_; have HO243 := n3_; have HO248 := n4_; have HO252 := n5_; have HO255 := n6_; have BK245 := n7_; have HB := n8_; have BK257 := n9_; have GW257 := n10_; have GE257 := n11_; have NB245_257 := n12_; have NB257_245 := n13_; clear n0_ n1_ n2_ n3_ n4_ n5_ n6_ n7_ n8_ n9_ n10_ n11_ n12_ n13_; clear hb hbox hg; have hnb46 := NB257_245.out; have hnc46 := NB245_257.out; have hcz47_0 : w45.cell? ⟨gb257, 0, none⟩ = some (.int .i64 0) := (blk_cell BK257.out 0).trans rfl; have hcz47_1 : w45.cell? ⟨gb257, 1, none⟩ = some (.slice none 0 0) := (blk_cell BK257.out 1).trans rfl; have hcz47_2 : w45.cell? ⟨gb257, 2, none⟩ = some (.slice none 0 0) := (blk_cell BK257.out 2).trans rfl; have hfz47_0 := blk_frozen BK257.out 0; have hfz47_1 := blk_frozen BK257.out 1; have hfz47_2 := blk_frozen BK257.out 2; obtain ⟨Ao48, co48, eo48⟩ := Kd.V_slice HO252.out; subst eo48; obtain ⟨Ao49, co49, eo49⟩ := Kd.V_slice HO255.out; subst eo49))
                        have n0_ : Aside0 (Kd.V (Kd.int .i64) 3 (((w45.setCell ⟨gb257, 0, none⟩ (.int .i64 t249)).setCell ⟨gb257, 1, none⟩ (.slice Ao48 t250.length co48)).setCell ⟨gb257, 2, none⟩ (.slice Ao49 t253.length co49)) w.heap.size (fun k_ => some k_ ≠ (.slice Ao34 y234.length co34 : Value).ownBlock ∧ some k_ ≠ (.slice Ao43 y246.length co43 : Value).ownBlock ∧ k_ ≠ gb245 ∧ k_ ≠ gb257) (.slice Ao40 t227.length co40) t227) := ⟨by (with_reducible repeat (first | apply Kd.V_alloc | apply Kd.V_drewN | apply Kd.V_drew)); exact Kd.V_mono (Kd.V_far (p := ⟨gb257, 2, none⟩) (Kd.V_far (p := ⟨gb257, 1, none⟩) (Kd.V_far (p := ⟨gb257, 0, none⟩) (Kd.V_mono HO_9.out (fun k_ hk => (⟨hk, hk.2⟩ : _ ∧ k_ ≠ gb257))) (fun _ hk => hk.2) (.int .i64 t249)) (fun _ hk => hk.2) (.slice Ao48 t250.length co48)) (fun _ hk => hk.2) (.slice Ao49 t253.length co49)) (fun _ hk => ⟨hk.1.1.1.1.2, ⟨hk.1.1.2, ⟨hk.1.1.1.2, hk.1.2⟩⟩⟩)⟩
                        have n1_ : Aside0 (Kd.N k38 38 (((w45.setCell ⟨gb257, 0, none⟩ (.int .i64 t249)).setCell ⟨gb257, 1, none⟩ (.slice Ao48 t250.length co48)).setCell ⟨gb257, 2, none⟩ (.slice Ao49 t253.length co49)) w.heap.size (fun k_ => some k_ ≠ (.slice Ao43 y246.length co43 : Value).ownBlock ∧ k_ ≠ gb245 ∧ k_ ≠ gb257) (.slice Ao34 y234.length co34) y234) := ⟨by (with_reducible repeat (first | apply Kd.N_alloc | apply Kd.N_drewN | apply Kd.N_drew)); exact Kd.N_mono (Kd.N_far (p := ⟨gb257, 2, none⟩) (Kd.N_far (p := ⟨gb257, 1, none⟩) (Kd.N_far (p := ⟨gb257, 0, none⟩) (Kd.N_mono HO236.out (fun k_ hk => (⟨hk, hk.2⟩ : _ ∧ k_ ≠ gb257))) (fun _ hk => hk.2) (.int .i64 t249)) (fun _ hk => hk.2) (.slice Ao48 t250.length co48)) (fun _ hk => hk.2) (.slice Ao49 t253.length co49)) (fun _ hk => ⟨hk.1.1.2, ⟨hk.1.1.1.2, hk.1.2⟩⟩)⟩
                        have n2_ : Aside0 (Kd.V (Kd.int .i64) 3 (((w45.setCell ⟨gb257, 0, none⟩ (.int .i64 t249)).setCell ⟨gb257, 1, none⟩ (.slice Ao48 t250.length co48)).setCell ⟨gb257, 2, none⟩ (.slice Ao49 t253.length co49)) w.heap.size (fun k_ => some k_ ≠ (.slice Ao43 y246.length co43 : Value).ownBlock ∧ k_ ≠ gb245 ∧ k_ ≠ gb257) (.slice Ao38 t238.length co38) t238) := ⟨by (with_reducible repeat (first | apply Kd.V_alloc | apply Kd.V_drewN | apply Kd.V_drew)); exact Kd.V_mono (Kd.V_far (p := ⟨gb257, 2, none⟩) (Kd.V_far (p := ⟨gb257, 1, none⟩) (Kd.V_far (p := ⟨gb257, 0, none⟩) (Kd.V_mono HO240.out (fun k_ hk => (⟨hk, hk.2⟩ : _ ∧ k_ ≠ gb257))) (fun _ hk => hk.2) (.int .i64 t249)) (fun _ hk => hk.2) (.slice Ao48 t250.length co48)) (fun _ hk => hk.2) (.slice Ao49 t253.length co49)) (fun _ hk => ⟨hk.1.1.2, ⟨hk.1.1.1.2, hk.1.2⟩⟩)⟩
                        have n3_ : Aside0 (Kd.V (Kd.int .i64) 3 (((w45.setCell ⟨gb257, 0, none⟩ (.int .i64 t249)).setCell ⟨gb257, 1, none⟩ (.slice Ao48 t250.length co48)).setCell ⟨gb257, 2, none⟩ (.slice Ao49 t253.length co49)) w.heap.size (fun k_ => some k_ ≠ (.slice Ao43 y246.length co43 : Value).ownBlock ∧ k_ ≠ gb245 ∧ k_ ≠ gb257) (.slice Ao39 t241.length co39) t241) := ⟨by (with_reducible repeat (first | apply Kd.V_alloc | apply Kd.V_drewN | apply Kd.V_drew)); exact Kd.V_mono (Kd.V_far (p := ⟨gb257, 2, none⟩) (Kd.V_far (p := ⟨gb257, 1, none⟩) (Kd.V_far (p := ⟨gb257, 0, none⟩) (Kd.V_mono HO243.out (fun k_ hk => (⟨hk, hk.2⟩ : _ ∧ k_ ≠ gb257))) (fun _ hk => hk.2) (.int .i64 t249)) (fun _ hk => hk.2) (.slice Ao48 t250.length co48)) (fun _ hk => hk.2) (.slice Ao49 t253.length co49)) (fun _ hk => ⟨hk.1.1.2, ⟨hk.1.1.1.2, hk.1.2⟩⟩)⟩
                        have n4_ : Aside0 (Kd.N k38 38 (((w45.setCell ⟨gb257, 0, none⟩ (.int .i64 t249)).setCell ⟨gb257, 1, none⟩ (.slice Ao48 t250.length co48)).setCell ⟨gb257, 2, none⟩ (.slice Ao49 t253.length co49)) w.heap.size (fun k_ => some k_ ≠ (.slice Ao34 y234.length co34 : Value).ownBlock ∧ k_ ≠ gb245 ∧ k_ ≠ gb257) (.slice Ao43 y246.length co43) y246) := ⟨by (with_reducible repeat (first | apply Kd.N_alloc | apply Kd.N_drewN | apply Kd.N_drew)); exact Kd.N_mono (Kd.N_far (p := ⟨gb257, 2, none⟩) (Kd.N_far (p := ⟨gb257, 1, none⟩) (Kd.N_far (p := ⟨gb257, 0, none⟩) (Kd.N_mono HO248.out (fun k_ hk => (⟨hk, hk.2⟩ : _ ∧ k_ ≠ gb257))) (fun _ hk => hk.2) (.int .i64 t249)) (fun _ hk => hk.2) (.slice Ao48 t250.length co48)) (fun _ hk => hk.2) (.slice Ao49 t253.length co49)) (fun _ hk => ⟨hk.1.1.1, ⟨hk.1.1.2, hk.1.2⟩⟩)⟩
                        have n5_ : Aside0 (Kd.V (Kd.int .i64) 3 (((w45.setCell ⟨gb257, 0, none⟩ (.int .i64 t249)).setCell ⟨gb257, 1, none⟩ (.slice Ao48 t250.length co48)).setCell ⟨gb257, 2, none⟩ (.slice Ao49 t253.length co49)) w.heap.size (fun k_ => some k_ ≠ (.slice Ao34 y234.length co34 : Value).ownBlock ∧ k_ ≠ gb245 ∧ k_ ≠ gb257) (.slice Ao48 t250.length co48) t250) := ⟨by (with_reducible repeat (first | apply Kd.V_alloc | apply Kd.V_drewN | apply Kd.V_drew)); exact Kd.V_mono (Kd.V_far (p := ⟨gb257, 2, none⟩) (Kd.V_far (p := ⟨gb257, 1, none⟩) (Kd.V_far (p := ⟨gb257, 0, none⟩) (Kd.V_mono HO252.out (fun k_ hk => (⟨hk, hk.2⟩ : _ ∧ k_ ≠ gb257))) (fun _ hk => hk.2) (.int .i64 t249)) (fun _ hk => hk.2) (.slice Ao48 t250.length co48)) (fun _ hk => hk.2) (.slice Ao49 t253.length co49)) (fun _ hk => ⟨hk.1.1.1, ⟨hk.1.1.2, hk.1.2⟩⟩)⟩
                        have n6_ : Aside0 (Kd.V (Kd.int .i64) 3 (((w45.setCell ⟨gb257, 0, none⟩ (.int .i64 t249)).setCell ⟨gb257, 1, none⟩ (.slice Ao48 t250.length co48)).setCell ⟨gb257, 2, none⟩ (.slice Ao49 t253.length co49)) w.heap.size (fun k_ => some k_ ≠ (.slice Ao34 y234.length co34 : Value).ownBlock ∧ k_ ≠ gb245 ∧ k_ ≠ gb257) (.slice Ao49 t253.length co49) t253) := ⟨by (with_reducible repeat (first | apply Kd.V_alloc | apply Kd.V_drewN | apply Kd.V_drew)); exact Kd.V_mono (Kd.V_far (p := ⟨gb257, 2, none⟩) (Kd.V_far (p := ⟨gb257, 1, none⟩) (Kd.V_far (p := ⟨gb257, 0, none⟩) (Kd.V_mono HO255.out (fun k_ hk => (⟨hk, hk.2⟩ : _ ∧ k_ ≠ gb257))) (fun _ hk => hk.2) (.int .i64 t249)) (fun _ hk => hk.2) (.slice Ao48 t250.length co48)) (fun _ hk => hk.2) (.slice Ao49 t253.length co49)) (fun _ hk => ⟨hk.1.1.1, ⟨hk.1.1.2, hk.1.2⟩⟩)⟩
                        have n7_ : Aside0 ((((w45.setCell ⟨gb257, 0, none⟩ (.int .i64 t249)).setCell ⟨gb257, 1, none⟩ (.slice Ao48 t250.length co48)).setCell ⟨gb257, 2, none⟩ (.slice Ao49 t253.length co49)).heap[gb245]? = some (.cells #[.int .i64 t237, .slice Ao38 t238.length co38, .slice Ao39 t241.length co39] 34 (0, 0))) := ⟨by (with_reducible repeat (first | refine blk_drewN ?_ _ | refine blk_drew ?_ | refine blk_alloc ?_ _)); refine blk_far ?_ NB245_257.out _; (with_reducible repeat (first | refine blk_drewN ?_ _ | refine blk_drew ?_ | refine blk_alloc ?_ _)); refine blk_far ?_ NB245_257.out _; (with_reducible repeat (first | refine blk_drewN ?_ _ | refine blk_drew ?_ | refine blk_alloc ?_ _)); refine blk_far ?_ NB245_257.out _; (with_reducible repeat (first | refine blk_drewN ?_ _ | refine blk_drew ?_ | refine blk_alloc ?_ _)); exact BK245.out⟩
                        have n8_ : Aside0 ((((w45.setCell ⟨gb257, 0, none⟩ (.int .i64 t249)).setCell ⟨gb257, 1, none⟩ (.slice Ao48 t250.length co48)).setCell ⟨gb257, 2, none⟩ (.slice Ao49 t253.length co49)).heap[gb257]? = some (.cells #[.int .i64 t249, .slice Ao48 t250.length co48, .slice Ao49 t253.length co49] 34 (0, 0))) := ⟨by (with_reducible repeat (first | refine blk_drewN ?_ _ | refine blk_drew ?_ | refine blk_alloc ?_ _)); refine blk_put (cs := #[.int .i64 t249, .slice Ao48 t250.length co48, .slice none 0 0]) ?_ 2 _ rfl; (with_reducible repeat (first | refine blk_drewN ?_ _ | refine blk_drew ?_ | refine blk_alloc ?_ _)); refine blk_put (cs := #[.int .i64 t249, .slice none 0 0, .slice none 0 0]) ?_ 1 _ rfl; (with_reducible repeat (first | refine blk_drewN ?_ _ | refine blk_drew ?_ | refine blk_alloc ?_ _)); refine blk_put (cs := #[.int .i64 0, .slice none 0 0, .slice none 0 0]) ?_ 0 _ rfl; (with_reducible repeat (first | refine blk_drewN ?_ _ | refine blk_drew ?_ | refine blk_alloc ?_ _)); exact BK257.out⟩
                        have n9_ : Aside0 (Below w.heap.size w (((w45.setCell ⟨gb257, 0, none⟩ (.int .i64 t249)).setCell ⟨gb257, 1, none⟩ (.slice Ao48 t250.length co48)).setCell ⟨gb257, 2, none⟩ (.slice Ao49 t253.length co49))) := ⟨by repeat (first | (with_reducible first | exact HB.out | apply below_alloc | apply pw_below_drewN | apply below_drew1 | refine below_set ?_ GE245.out | refine below_set ?_ GE257.out) | exact HB.out)⟩
                        (try clear HO_9)
                        (try clear HO236)
                        (try clear HO240)
                        (try clear HO243)
                        (try clear HO248)
                        (try clear HO252)
                        (try clear HO255)
                        (try clear BK245)
                        (try clear BK257)
                        (try clear HB)
                        generalize (((w45.setCell ⟨gb257, 0, none⟩ (.int .i64 t249)).setCell ⟨gb257, 1, none⟩ (.slice Ao48 t250.length co48)).setCell ⟨gb257, 2, none⟩ (.slice Ao49 t253.length co49)) = w50 at n0_ n1_ n2_ n3_ n4_ n5_ n6_ n7_ n8_ n9_ ⊢
                        have HO_9 := n0_
                        have HO236 := n1_
                        have HO240 := n2_
                        have HO243 := n3_
                        have HO248 := n4_
                        have HO252 := n5_
                        have HO255 := n6_
                        have BK245 := n7_
                        have BK257 := n8_
                        have HB := n9_
                        clear n0_ n1_ n2_ n3_ n4_ n5_ n6_ n7_ n8_ n9_
                        have n0_ := Aside0.mk (Kd.V_drew HO_9.out)
                        have n1_ := Aside0.mk (Kd.N_drew HO236.out)
                        have n2_ := Aside0.mk (Kd.V_drew HO240.out)
                        have n3_ := Aside0.mk (Kd.V_drew HO243.out)
                        have n4_ := Aside0.mk (Kd.N_drew HO248.out)
                        have n5_ := Aside0.mk (Kd.V_drew HO252.out)
                        have n6_ := Aside0.mk (Kd.V_drew HO255.out)
                        have n7_ := Aside0.mk (blk_drew BK245.out)
                        have n8_ := Aside0.mk (blk_drew BK257.out)
                        have n9_ := Aside0.mk (below_drew1 HB.out)
                        clear HO_9
                        clear HO236
                        clear HO240
                        clear HO243
                        clear HO248
                        clear HO252
                        clear HO255
                        clear BK245
                        clear BK257
                        clear HB
                        have HO_9 := n0_
                        have HO236 := n1_
                        have HO240 := n2_
                        have HO243 := n3_
                        have HO248 := n4_
                        have HO252 := n5_
                        have HO255 := n6_
                        have BK245 := n7_
                        have BK257 := n8_
                        have HB := n9_
                        clear n0_ n1_ n2_ n3_ n4_ n5_ n6_ n7_ n8_ n9_
                        have q52 : (a2 : Int) ≤ ((t227.length : Int) : Int) := of_decide_eq_true (by first | (with_reducible assumption) | assumption)
                        obtain ⟨i052, hi052, _, hsz52, _⟩ := info_parts info3
                        have hroom52 : t227.length ≤ co40 := (Kd.V_reads' HO_9.out).2.1
                        have hC52 : Kd.F (Kd.int .i64) _ _ Ao40 t227.length t227 := (Kd.V_at (base := w.heap.size) HO_9.out).2.2
                        have hcut52 := cut_to (P := Try.prog) 24 3 .i64 Try.underlying24 hi052 Ao40 t227.length co40 a2 (of_decide_eq_true (by first | (with_reducible assumption) | assumption)) q52 hroom52
                        have hr52 := Kd.F_take (m := (a2 : Int).toNat) hC52 (by omega)
                        have hy52 : y258.length = (a2 : Int).toNat := (by rw [Ny258.out, List.length_take]; omega)
                        rw [← Ny258.out] at hr52
                        rw [← hy52] at hcut52
                        have HO262 := Aside0.mk (show Kd.V (Kd.int .i64) 3 _ w.heap.size _ (.slice Ao40 y258.length co40) y258 from Kd.V_mk (by omega) hr52)
                        have HC262 := Aside0.mk (show y258.length ≤ co40 from by omega)
                        clear hr52 hC52 hroom52 hi052 hsz52
                        have KY52 := Aside0.mk hy52
                        clear hy52
                        replace q52 := eq_true q52
                        have q53 : (a2 : Int) ≤ ((t227.length : Int) : Int) := of_decide_eq_true (by first | (with_reducible assumption) | assumption)
                        obtain ⟨i053, hi053, _, hsz53, _⟩ := info_parts info3
                        have hroom53 : t227.length ≤ co40 := (Kd.V_reads' HO_9.out).2.1
                        have hC53 : Kd.F (Kd.int .i64) _ _ Ao40 t227.length t227 := (Kd.V_at (base := w.heap.size) HO_9.out).2.2
                        have q053 : (0 : Int) ≤ (a2 : Int) := of_decide_eq_true (by first | (with_reducible assumption) | assumption)
                        have hcut53 := cut_from (P := Try.prog) 24 3 .i64 Try.underlying24 hi053 1 hsz53 Ao40 t227.length co40 a2 q053 q53
                        have hr53 := Kd.F_cut (m := (a2 : Int).toNat) (c := co40) hC53 (by omega) hroom53
                        obtain ⟨A53, hA53⟩ : ∃ A1, A1 = (if co40 = (a2 : Int).toNat then Ao40 else (Ao40 : Option Addr).map (·.add ((a2 : Int).toNat * 1))) := ⟨_, rfl⟩
                        obtain ⟨c53, hc53⟩ : ∃ c1, c1 = co40 - (a2 : Int).toNat := ⟨_, rfl⟩
                        have hy53 : y266.length = t227.length - (a2 : Int).toNat := (by rw [Ny266.out, List.length_drop] <;> omega)
                        rw [show (t227).drop (a2 : Int).toNat = y266 from Ny266.out.symm] at hr53
                        replace hr53 : Kd.F (Kd.int .i64) _ _ A53 y266.length y266 := (by rw [hA53]; exact hr53)
                        rw [← hy53, ← hA53, ← hc53] at hcut53
                        have HO270 := Aside0.mk (show Kd.V (Kd.int .i64) 3 _ w.heap.size _ (.slice A53 y266.length c53) y266 from Kd.V_mk (by rw [hy53, hc53]; exact Nat.sub_le_sub_right hroom53 _) hr53)
                        have HC270 := Aside0.mk (show y266.length ≤ c53 from by rw [hy53, hc53]; exact Nat.sub_le_sub_right hroom53 _)
                        clear hr53 hC53 hroom53 hi053 hsz53 hc53
                        have KY53 := Aside0.mk hy53
                        have KA53 := Aside0.mk hA53
                        clear hy53 hA53
                        replace q53 := eq_true q53
                        refine start_ (n := 10) (S := fun w' => True) (ds := []) #[false, false, false, false, false, false, false, false, false, false] (by kernel_rfl) rfl rfl trivial (fun hHeld => ?_); refine with_tabW laws_FnRopeInsertJoins.tab8 laws_FnRopeInsertJoins.bits8 (fun HT_ HW_ => ?_)
                        generalize w50.drew = w51 at HO_9 HO236 HO240 HO243 HO248 HO252 HO255 BK245 BK257 HB HO262 HO270 hHeld ⊢
                        refine pure_ (i := 0) (N := some 80) (v := ?_) (a' := ?_) #[true, false, false, false, false, false, false, false, false, false] rfl rfl (any_of HT_.out (by kernel_rfl)) (fun _ _ _ h => h) (Or.inl ⟨by rfl, ?_⟩) ?_ ?_
                        rotate_left
                        · intro w'
                          go_simp
                          with_reducible rfl
                        rotate_left
                        · simp only [Act.put, List.setIfInBounds_toArray, List.set_cons_zero, List.set_cons_succ, i64_w, i32_w]
                          rfl
                        refine pure_ (i := 1) (N := some 81) (v := ?_) (a' := ?_) #[true, true, false, false, false, false, false, false, false, false] rfl rfl (any_of HT_.out (by kernel_rfl)) (fun _ _ _ h => h) (Or.inl ⟨by rfl, ?_⟩) ?_ ?_
                        rotate_left
                        · intro w'
                          go_simp
                          with_reducible rfl
                        rotate_left
                        · simp only [Act.put, List.setIfInBounds_toArray, List.set_cons_zero, List.set_cons_succ, i64_w, i32_w]
                          rfl
                        refine pure_ (i := 2) (N := some 82) (v := ?_) (a' := ?_) #[true, true, true, false, false, false, false, false, false, false] rfl rfl (any_of HT_.out (by kernel_rfl)) (fun _ _ _ h => h) (Or.inl ⟨by rfl, ?_⟩) ?_ ?_
                        rotate_left
                        · intro w'
                          go_simp
                          with_reducible rfl
                        rotate_left
                        · simp only [Act.put, List.setIfInBounds_toArray, List.set_cons_zero, List.set_cons_succ, i64_w, i32_w]
                          rfl
                        refine pure_ (i := 3) (N := some 83) (v := ?_) (a' := ?_) #[true, true, true, true, false, false, false, false, false, false] rfl rfl (any_of HT_.out (by kernel_rfl)) (fun _ _ _ h => h) (Or.inl ⟨by rfl, ?_⟩) ?_ ?_
                        rotate_left
                        · intro w'
                          go_simp
                          with_reducible rfl
                        rotate_left
                        · simp only [Act.put, List.setIfInBounds_toArray, List.set_cons_zero, List.set_cons_succ, i64_w, i32_w]
                          rfl
                        refine pure_ (i := 5) (N := some 85) (v := ?_) (a' := ?_) #[true, true, true, true, false, true, false, false, false, false] rfl rfl (any_of HT_.out (by kernel_rfl)) (fun _ _ _ h => h) (Or.inl ⟨by rfl, ?_⟩) ?_ ?_
                        rotate_left
                        · intro w'
                          go_simp
                          with_reducible rfl
                        rotate_left
                        · simp only [Act.put, List.setIfInBounds_toArray, List.set_cons_zero, List.set_cons_succ, i64_w, i32_w]
                          rfl
                        refine pure_ (i := 6) (N := some 86) (v := ?_) (a' := ?_) #[true, true, true, true, false, true, true, false, false, false] rfl rfl (any_of HT_.out (by kernel_rfl)) (fun _ _ _ h => h) (Or.inl ⟨by rfl, ?_⟩) ?_ ?_
                        rotate_left
                        · intro w'
                          go_simp
                          with_reducible rfl
                        rotate_left
                        · simp only [Act.put, List.setIfInBounds_toArray, List.set_cons_zero, List.set_cons_succ, i64_w, i32_w]
                          rfl
                        refine pure_ (i := 7) (N := some 87) (v := ?_) (a' := ?_) #[true, true, true, true, false, true, true, true, false, false] rfl rfl (any_of HT_.out (by kernel_rfl)) (fun _ _ _ h => h) (Or.inl ⟨by rfl, ?_⟩) ?_ ?_
                        rotate_left
                        · intro w'
                          go_simp
                          with_reducible rfl
                        rotate_left
                        · simp only [Act.put, List.setIfInBounds_toArray, List.set_cons_zero, List.set_cons_succ, i64_w, i32_w]
                          rfl
                        refine one_ (i := 4) (N := some 84) #[true, true, true, true, true, true, true, true, false, false] rfl rfl (one_of HT_.out (by kernel_rfl)) (by decide) (fun K hK => ?_)
                        refine goes_ Try.func9 (by kernel_rfl) rfl #[.slice Ao40 y258.length co40, .slice A3 l3.length c3] (by rfl) rfl rfl (by (try simp only [List.map_toArray, List.map_cons, List.map_nil]); first | done | rfl | (simp only [List.length_drop, List.length_take]; rfl)) ?_
                        with_reducible refine (spec_Both.calls _ _ y258 _ _ l3 t263 _ ?side1 ?side2 ?side3 ?side4 A23.out).mono ?_
                        (case side1 => repeat (first | exact (Kd.V_reads' HO262.out).2.2 | (with_reducible refine Kd.C_alloc ?_ _) | (with_reducible refine Kd.C_drewN ?_ _) | (with_reducible refine Kd.C_drew ?_)))
                        (case side2 => exact (Kd.V_reads' HO262.out).2.1)
                        (case side3 => repeat (first | exact (Kd.C_below HR3.out HB.out) | (with_reducible refine Kd.C_alloc ?_ _) | (with_reducible refine Kd.C_drewN ?_ _) | (with_reducible refine Kd.C_drew ?_)))
                        (case side4 => exact HC3.out)
                        rintro e w54 ⟨v264, rfl, ho0, hb⟩
                        refine ⟨_, rfl, ?_⟩
                        have n0_ := Aside0.mk (Kd.V_elder' (by (with_reducible repeat (first | apply Kd.V_alloc | apply Kd.V_drewN | apply Kd.V_drew)); exact HO_9.out) (Kd.R_base ho0) hb)
                        have n1_ := Aside0.mk (Kd.N_elder' (by (with_reducible repeat (first | apply Kd.N_alloc | apply Kd.N_drewN | apply Kd.N_drew)); exact HO236.out) (Kd.R_base ho0) hb)
                        have n2_ := Aside0.mk (Kd.V_elder' (by (with_reducible repeat (first | apply Kd.V_alloc | apply Kd.V_drewN | apply Kd.V_drew)); exact HO240.out) (Kd.R_base ho0) hb)
                        have n3_ := Aside0.mk (Kd.V_elder' (by (with_reducible repeat (first | apply Kd.V_alloc | apply Kd.V_drewN | apply Kd.V_drew)); exact HO243.out) (Kd.R_base ho0) hb)
                        have n4_ := Aside0.mk (Kd.N_elder' (by (with_reducible repeat (first | apply Kd.N_alloc | apply Kd.N_drewN | apply Kd.N_drew)); exact HO248.out) (Kd.R_base ho0) hb)
                        have n5_ := Aside0.mk (Kd.V_elder' (by (with_reducible repeat (first | apply Kd.V_alloc | apply Kd.V_drewN | apply Kd.V_drew)); exact HO252.out) (Kd.R_base ho0) hb)
                        have n6_ := Aside0.mk (Kd.V_elder' (by (with_reducible repeat (first | apply Kd.V_alloc | apply Kd.V_drewN | apply Kd.V_drew)); exact HO255.out) (Kd.R_base ho0) hb)
                        have n7_ := Aside0.mk (Kd.V_elder' (by (with_reducible repeat (first | apply Kd.V_alloc | apply Kd.V_drewN | apply Kd.V_drew)); exact HO262.out) (Kd.R_base ho0) hb)
                        have n8_ := Aside0.mk (Kd.V_elder' (by (with_reducible repeat (first | apply Kd.V_alloc | apply Kd.V_drewN | apply Kd.V_drew)); exact HO270.out) (Kd.R_base ho0) hb)
                        have n9_ := Aside0.mk (Kd.R_lower ho0 (below_size (by repeat (first | (with_reducible first | exact HB.out | apply below_alloc | apply pw_below_drewN | apply below_drew1 | refine below_set ?_ GE245.out | refine below_set ?_ GE257.out) | exact HB.out))))
                        have n10_ := Aside0.mk (blk_below (g := gb245) (o := .cells #[.int .i64 t237, .slice Ao38 t238.length co38, .slice Ao39 t241.length co39] 34 (0, 0)) (by (with_reducible repeat (first | refine blk_drewN ?_ _ | refine blk_drew ?_ | refine blk_alloc ?_ _)); exact BK245.out) hb)
                        have n11_ := Aside0.mk (blk_below (g := gb257) (o := .cells #[.int .i64 t249, .slice Ao48 t250.length co48, .slice Ao49 t253.length co49] 34 (0, 0)) (by (with_reducible repeat (first | refine blk_drewN ?_ _ | refine blk_drew ?_ | refine blk_alloc ?_ _)); exact BK257.out) hb)
                        have n12_ := Aside0.mk (below_step (by repeat (first | (with_reducible first | exact HB.out | apply below_alloc | apply pw_below_drewN | apply below_drew1 | refine below_set ?_ GE245.out | refine below_set ?_ GE257.out) | exact HB.out)) hb)
                        clear HO_9
                        clear HO236
                        clear HO240
                        clear HO243
                        clear HO248
                        clear HO252
                        clear HO255
                        clear HO262
                        clear HO270
                        clear BK245
                        clear BK257
                        clear HB
                        have HO_9 := n0_
                        have HO236 := n1_
                        have HO240 := n2_
                        have HO243 := n3_
                        have HO248 := n4_
                        have HO252 := n5_
                        have HO255 := n6_
                        have HO262 := n7_
                        have HO270 := n8_
                        have HO265 := n9_
                        have BK245 := n10_
                        have BK257 := n11_
                        have HB := n12_
                        clear n0_ n1_ n2_ n3_ n4_ n5_ n6_ n7_ n8_ n9_ n10_ n11_ n12_
                        (try clear hb)
                        (try clear hb2)
                        (try clear hk)
                        (try clear hi)
                        (try clear ho0)
                        obtain ⟨Ao55, co55, eo55⟩ := Kd.R_slice HO265.out
                        (first | subst eo55 | (injection eo55 with f1_ f2_ f3_; have f4_ := f1_.symm; have f5_ := f3_.symm; clear f1_ f2_ f3_; subst f4_; subst f5_))
                        refine hK.out _ _ trivial (fun hHeld => ?_)
                        clear hK K
                        refine norm_ (a' := ?_) ?_ ?_
                        rotate_left
                        · show Act.put _ (some 84) _ = _
                          simp only [Act.put, List.setIfInBounds_toArray, List.set_cons_zero, List.set_cons_succ, i64_w, i32_w]
                          rfl
                        refine one_ (i := 8) (N := some 88) #[true, true, true, true, true, true, true, true, true, false] rfl rfl (one_of HT_.out (by kernel_rfl)) (by decide) (fun K hK => ?_)
                        refine goes_ Try.func9 (by kernel_rfl) rfl #[.slice Ao55 t263.length co55, .slice A53 y266.length c53] (by rfl) rfl rfl (by (try simp only [List.map_toArray, List.map_cons, List.map_nil]); first | done | rfl | (simp only [List.length_drop, List.length_take]; rfl)) ?_
                        with_reducible refine (spec_Both.calls _ _ t263 _ _ y266 t271 _ ?side1 ?side2 ?side3 ?side4 A26.out).mono ?_
                        (case side1 => repeat (first | exact (Kd.R_reads' HO265.out).2.2 | (with_reducible refine Kd.C_alloc ?_ _) | (with_reducible refine Kd.C_drewN ?_ _) | (with_reducible refine Kd.C_drew ?_)))
                        (case side2 => exact (Kd.R_reads' HO265.out).2.1)
                        (case side3 => repeat (first | exact (Kd.V_reads' HO270.out).2.2 | (with_reducible refine Kd.C_alloc ?_ _) | (with_reducible refine Kd.C_drewN ?_ _) | (with_reducible refine Kd.C_drew ?_)))
                        (case side4 => exact (Kd.V_reads' HO270.out).2.1)
                        rintro e w56 ⟨v272, rfl, ho0, hb⟩
                        refine ⟨_, rfl, ?_⟩
                        have n0_ := Aside0.mk (Kd.V_elder' (by (with_reducible repeat (first | apply Kd.V_alloc | apply Kd.V_drewN | apply Kd.V_drew)); exact HO_9.out) (Kd.R_base ho0) hb)
                        have n1_ := Aside0.mk (Kd.N_elder' (by (with_reducible repeat (first | apply Kd.N_alloc | apply Kd.N_drewN | apply Kd.N_drew)); exact HO236.out) (Kd.R_base ho0) hb)
                        have n2_ := Aside0.mk (Kd.V_elder' (by (with_reducible repeat (first | apply Kd.V_alloc | apply Kd.V_drewN | apply Kd.V_drew)); exact HO240.out) (Kd.R_base ho0) hb)
                        have n3_ := Aside0.mk (Kd.V_elder' (by (with_reducible repeat (first | apply Kd.V_alloc | apply Kd.V_drewN | apply Kd.V_drew)); exact HO243.out) (Kd.R_base ho0) hb)
                        have n4_ := Aside0.mk (Kd.N_elder' (by (with_reducible repeat (first | apply Kd.N_alloc | apply Kd.N_drewN | apply Kd.N_drew)); exact HO248.out) (Kd.R_base ho0) hb)
                        have n5_ := Aside0.mk (Kd.V_elder' (by (with_reducible repeat (first | apply Kd.V_alloc | apply Kd.V_drewN | apply Kd.V_drew)); exact HO252.out) (Kd.R_base ho0) hb)
                        have n6_ := Aside0.mk (Kd.V_elder' (by (with_reducible repeat (first | apply Kd.V_alloc | apply Kd.V_drewN | apply Kd.V_drew)); exact HO255.out) (Kd.R_base ho0) hb)
                        have n7_ := Aside0.mk (Kd.V_elder' (by (with_reducible repeat (first | apply Kd.V_alloc | apply Kd.V_drewN | apply Kd.V_drew)); exact HO262.out) (Kd.R_base ho0) hb)
                        have n8_ := Aside0.mk (Kd.V_elder' (by (with_reducible repeat (first | apply Kd.V_alloc | apply Kd.V_drewN | apply Kd.V_drew)); exact HO270.out) (Kd.R_base ho0) hb)
                        have n9_ := Aside0.mk (Kd.R_elder' (by (with_reducible repeat (first | apply Kd.R_alloc | apply Kd.R_drewN | apply Kd.R_drew)); exact HO265.out) (Kd.R_base ho0) hb)
                        have n10_ := Aside0.mk (Kd.R_lower (Kd.R_new' ho0 (Kd.R_lt (by (with_reducible repeat (first | apply Kd.R_alloc | apply Kd.R_drewN | apply Kd.R_drew)); exact HO265.out))) (below_size (by repeat (first | (with_reducible first | exact HB.out | apply below_alloc | apply pw_below_drewN | apply below_drew1 | refine below_set ?_ GE245.out | refine below_set ?_ GE257.out) | exact HB.out))))
                        have n11_ := Aside0.mk (blk_below (g := gb245) (o := .cells #[.int .i64 t237, .slice Ao38 t238.length co38, .slice Ao39 t241.length co39] 34 (0, 0)) (by (with_reducible repeat (first | refine blk_drewN ?_ _ | refine blk_drew ?_ | refine blk_alloc ?_ _)); exact BK245.out) hb)
                        have n12_ := Aside0.mk (blk_below (g := gb257) (o := .cells #[.int .i64 t249, .slice Ao48 t250.length co48, .slice Ao49 t253.length co49] 34 (0, 0)) (by (with_reducible repeat (first | refine blk_drewN ?_ _ | refine blk_drew ?_ | refine blk_alloc ?_ _)); exact BK257.out) hb)
                        have n13_ := Aside0.mk (below_step (by repeat (first | (with_reducible first | exact HB.out | apply below_alloc | apply pw_below_drewN | apply below_drew1 | refine below_set ?_ GE245.out | refine below_set ?_ GE257.out) | exact HB.out)) hb)
                        clear HO_9
                        clear HO236
                        clear HO240
                        clear HO243
                        clear HO248
                        clear HO252
                        clear HO255
                        clear HO262
                        clear HO270
                        clear HO265
                        clear BK245
                        clear BK257
                        clear HB
                        have HO_9 := n0_
                        have HO236 := n1_
                        have HO240 := n2_
                        have HO243 := n3_
                        have HO248 := n4_
                        have HO252 := n5_
                        have HO255 := n6_
                        have HO262 := n7_
                        have HO270 := n8_
                        have HO265 := n9_
                        have HO273 := n10_
                        have BK245 := n11_
                        have BK257 := n12_
                        have HB := n13_
                        clear n0_ n1_ n2_ n3_ n4_ n5_ n6_ n7_ n8_ n9_ n10_ n11_ n12_ n13_
                        (try clear hb)
                        (try clear hb2)
                        (try clear hk)
                        (try clear hi)
                        (try clear ho0)
                        refine hK.out _ _ trivial (fun hHeld => ?_)
                        clear hK K
                        refine norm_ (a' := ?_) ?_ ?_
                        rotate_left
                        · show Act.put _ (some 88) _ = _
                          simp only [Act.put, List.setIfInBounds_toArray, List.set_cons_zero, List.set_cons_succ, i64_w, i32_w]
                          rfl
                        refine pure_ (i := 9) (N := some 16) (v := ?_) (a' := ?_) #[true, true, true, true, true, true, true, true, true, true] rfl rfl (any_of HT_.out (by kernel_rfl)) (fun _ _ _ h => h) (Or.inl ⟨by rfl, ?_⟩) ?_ ?_
                        rotate_left
                        · intro w'
                          go_simp
                          with_reducible rfl
                        rotate_left
                        · simp only [Act.put, List.setIfInBounds_toArray, List.set_cons_zero, List.set_cons_succ, i64_w, i32_w]
                          rfl
                        refine done_ (done_of HT_.out (by kernel_rfl)) ?_
                        have hcz57_0 : w56.cell? ⟨gb245, 0, none⟩ = some (.int .i64 t237) := (blk_cell BK245.out 0).trans rfl
                        have hcz57_1 : w56.cell? ⟨gb245, 1, none⟩ = some (.slice Ao38 t238.length co38) := (blk_cell BK245.out 1).trans rfl
                        have hcz57_2 : w56.cell? ⟨gb245, 2, none⟩ = some (.slice Ao39 t241.length co39) := (blk_cell BK245.out 2).trans rfl
                        have hfz57_0 := blk_frozen BK245.out 0
                        have hfz57_1 := blk_frozen BK245.out 1
                        have hfz57_2 := blk_frozen BK245.out 2
                        obtain ⟨Ao58, co58, eo58⟩ := Kd.R_slice HO273.out
                        subst eo58
                        try go_wp2_with (first | (go_at_call 10; (with_reducible refine (spec_Same.calls kj12 _ _ t238 _ _ t271 true _ ?side1 ?side2 ?side3 ?side4 A29.out).mono ?_); (case side1 => repeat (first | exact (Kd.V_reads' HO240.out).2.2 | (with_reducible refine Kd.C_alloc ?_ _) | (with_reducible refine Kd.C_drewN ?_ _) | (with_reducible refine Kd.C_drew ?_))); (case side2 => exact (Kd.V_reads' HO240.out).2.1); (case side3 => repeat (first | exact (Kd.R_reads' HO273.out).2.2 | (with_reducible refine Kd.C_alloc ?_ _) | (with_reducible refine Kd.C_drewN ?_ _) | (with_reducible refine Kd.C_drew ?_))); (case side4 => exact (Kd.R_reads' HO273.out).2.1); rintro e w' ⟨rfl, ⟨nd, rfl⟩⟩; have hcz59_0 : w56.cell? ⟨gb257, 0, none⟩ = some (.int .i64 t249) := (blk_cell BK257.out 0).trans rfl; have hcz59_1 : w56.cell? ⟨gb257, 1, none⟩ = some (.slice Ao48 t250.length co48) := (blk_cell BK257.out 1).trans rfl; have hcz59_2 : w56.cell? ⟨gb257, 2, none⟩ = some (.slice Ao49 t253.length co49) := (blk_cell BK257.out 2).trans rfl; have hfz59_0 := blk_frozen BK257.out 0; have hfz59_1 := blk_frozen BK257.out 1; have hfz59_2 := blk_frozen BK257.out 2) | (go_at_call 10; (with_reducible refine (spec_Same.calls kj12 _ _ t250 _ _ t271 t275 _ ?side1 ?side2 ?side3 ?side4 A31.out).mono ?_); (case side1 => repeat (first | exact (Kd.V_reads' HO252.out).2.2 | (with_reducible refine Kd.C_alloc ?_ _) | (with_reducible refine Kd.C_drewN ?_ _) | (with_reducible refine Kd.C_drew ?_))); (case side2 => exact (Kd.V_reads' HO252.out).2.1); (case side3 => repeat (first | exact (Kd.R_reads' HO273.out).2.2 | (with_reducible refine Kd.C_alloc ?_ _) | (with_reducible refine Kd.C_drewN ?_ _) | (with_reducible refine Kd.C_drew ?_))); (case side4 => exact (Kd.R_reads' HO273.out).2.1); rintro e w' ⟨rfl, ⟨nd, rfl⟩⟩))
                        go_ret
                        exact ⟨by first | rfl | (simp [errW_none, errW_some] <;> rfl) | (simp [*, errW_none, errW_some] <;> rfl), by repeat (first | (with_reducible first | exact HB.out | apply below_alloc | apply pw_below_drewN | apply below_drew1 | refine below_set ?_ GE245.out | refine below_set ?_ GE257.out) | exact HB.out)⟩
                      · rw [if_neg c30] at H
                        exact absurd H (by simp)
                    · rw [if_neg c28] at H
                      exact absurd H (by simp)
                  · rw [if_neg c27] at H
                    exact absurd H (by simp)
                · rw [if_neg c22] at H
                  exact absurd H (by simp)
              · rw [if_neg c21] at H
                exact absurd H (by simp)

end Go.Proofs.Ytdlnpmbnedmmnaa.QFnRopeInsertJoins
