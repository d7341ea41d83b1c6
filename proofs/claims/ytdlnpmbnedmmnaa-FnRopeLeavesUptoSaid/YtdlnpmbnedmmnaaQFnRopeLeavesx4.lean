/- The machine's side of a law, as the kit's print writes it; of the functions that the print doesn't cover this session's own contracts stand in it: no condition. -/
import Derived.Test.YtdlnpmbnedmmnaaQFnRopeLeavesx0
import Derived.Test.YtdlnpmbnedmmnaaQFnRopeLeavesx1
import Derived.Test.YtdlnpmbnedmmnaaQFnRopeLeavesx3
namespace Go.Proofs.Ytdlnpmbnedmmnaa.QFnRopeLeaves
open Go.RowKit Go.Proofs.YtdlnpmbnedmmnaaW.PrintWords Go.Proofs.YtdlnpmbnedmmnaaW.PrintLast Go.Proofs.YtdlnpmbnedmmnaaW.PrintMore
attribute [local go_sem] max2_int min2_int max_two min_two max_three min_three max_four min_four   -- for this text's walks alone
set_option linter.unusedVariables false
set_option linter.unusedSimpArgs false

/-! ### laws_FnRopeLeaves: function 7 -/
mutual
def laws_FnRopeLeaves.j0 : Nat → List Int → List (S38) → Bool → Option (Bool)
  | 0, _, _, _ => none
  | k + 1, x0, x1, x20 => if x20 = true then (some true) else ((spec_Rows.f k x0 x1).bind fun bt226 => (if bt226.2.2 = true then ((impl_RopeLimits.f).bind fun bt233 => ((laws_rowLast.f x0 x1 (([(⟨11, 0, 0, ([] : List Int)⟩ : S38)] : List (S38)))).bind fun bt238 => (if bt238.2.2.2 = true then (if bt233.1 < 1 then (laws_FnRopeLeaves.j1 k bt233.1 true bt238.1 bt238.2.1 bt238.2.2.1) else (if bt233.2 < 0 then (laws_FnRopeLeaves.j1 k bt233.1 true bt238.1 bt238.2.1 bt238.2.2.1) else (laws_FnRopeLeaves.j1 k bt233.1 (decide (bt233.2 > bt233.1)) bt238.1 bt238.2.1 bt238.2.2.1))) else (laws_FnRopeLeaves.j1 k bt233.1 true bt238.1 bt238.2.1 bt238.2.2.1)))) else (some true)))
def laws_FnRopeLeaves.j1 : Nat → Int → Bool → Int → List Int → List Int → Option (Bool)
  | 0, _, _, _, _, _ => none
  | k + 1, x8, x56, x247000, x247001, x247002 => if x56 = true then (some false) else (laws_FnRopeLeaves.l0 k x8 0 x247000 x247001 x247002)
def laws_FnRopeLeaves.l0 : Nat → Int → Int → Int → List Int → List Int → Option (Bool)
  | 0, _, _, _, _, _ => none
  | k + 1, x8, x12, x247000, x247001, x247002 => if x12 < (x247002.length : Int) then (if 0 ≤ x12 then (if (rd x247002 x12) < 0 then (some false) else (if (rd x247002 x12) > x8 then (some false) else (laws_FnRopeLeaves.l0 k x8 (wrap64 (x12 + 1)) x247000 x247001 x247002))) else (none)) else ((spec_Sum.f k x247002).bind fun t249 => (some (t249 == (x247001.length : Int))))
end
def laws_FnRopeLeaves.f (k : Nat) (l0 : List Int) (l1 : List (S38)) : Option (Bool) := if (l0.length : Int) > 2147483647 then (laws_FnRopeLeaves.j0 k l0 l1 true) else ((laws_zzFits3.f k l1).bind fun t225 => (laws_FnRopeLeaves.j0 k l0 l1 (!t225)))
theorem laws_FnRopeLeaves.mono_l : ∀ k, (∀ y0 y1 y2, LeO (laws_FnRopeLeaves.j0 k y0 y1 y2) (laws_FnRopeLeaves.j0 (k + 1) y0 y1 y2)) ∧ (∀ y0 y1 y2 y3 y4, LeO (laws_FnRopeLeaves.j1 k y0 y1 y2 y3 y4) (laws_FnRopeLeaves.j1 (k + 1) y0 y1 y2 y3 y4)) ∧ (∀ y0 y1 y2 y3 y4, LeO (laws_FnRopeLeaves.l0 k y0 y1 y2 y3 y4) (laws_FnRopeLeaves.l0 (k + 1) y0 y1 y2 y3 y4))
  | 0 => ⟨fun _ _ _ r h => by simp [laws_FnRopeLeaves.j0] at h, fun _ _ _ _ _ r h => by simp [laws_FnRopeLeaves.j1] at h, fun _ _ _ _ _ r h => by simp [laws_FnRopeLeaves.l0] at h⟩
  | k + 1 => by
    obtain ⟨ih0, ih1, ih2⟩ := laws_FnRopeLeaves.mono_l k
    refine ⟨?_, ?_, ?_⟩
    · intro y0 y1 y2
      unfold laws_FnRopeLeaves.j0
      repeat' first
      | (with_reducible exact ih0 _ _ _)
      | (with_reducible exact ih1 _ _ _ _ _)
      | (with_reducible exact ih2 _ _ _ _ _)
      | (with_reducible exact laws_zzFits3.mono _ _)
      | (with_reducible exact spec_Rows.mono _ _ _)
      | (with_reducible exact spec_Sum.mono _ _)
      | (with_reducible exact LeO.refl _)
      | (with_reducible exact LeO.none _)
      | (with_reducible refine LeO.ite ?_ ?_)
      | (with_reducible refine LeO.bind ?_ (fun _ => ?_))
      | exact ih0 _ _ _
      | exact ih1 _ _ _ _ _
      | exact ih2 _ _ _ _ _
      | exact laws_zzFits3.mono _ _
      | exact spec_Rows.mono _ _ _
      | exact spec_Sum.mono _ _
      | exact LeO.none _
      | refine LeO.ite ?_ ?_
      | refine LeO.bind ?_ (fun _ => ?_)
    · intro y0 y1 y2 y3 y4
      unfold laws_FnRopeLeaves.j1
      repeat' first
      | (with_reducible exact ih0 _ _ _)
      | (with_reducible exact ih1 _ _ _ _ _)
      | (with_reducible exact ih2 _ _ _ _ _)
      | (with_reducible exact laws_zzFits3.mono _ _)
      | (with_reducible exact spec_Rows.mono _ _ _)
      | (with_reducible exact spec_Sum.mono _ _)
      | (with_reducible exact LeO.refl _)
      | (with_reducible exact LeO.none _)
      | (with_reducible refine LeO.ite ?_ ?_)
      | (with_reducible refine LeO.bind ?_ (fun _ => ?_))
      | exact ih0 _ _ _
      | exact ih1 _ _ _ _ _
      | exact ih2 _ _ _ _ _
      | exact laws_zzFits3.mono _ _
      | exact spec_Rows.mono _ _ _
      | exact spec_Sum.mono _ _
      | exact LeO.none _
      | refine LeO.ite ?_ ?_
      | refine LeO.bind ?_ (fun _ => ?_)
    · intro y0 y1 y2 y3 y4
      unfold laws_FnRopeLeaves.l0
      repeat' first
      | (with_reducible exact ih0 _ _ _)
      | (with_reducible exact ih1 _ _ _ _ _)
      | (with_reducible exact ih2 _ _ _ _ _)
      | (with_reducible exact laws_zzFits3.mono _ _)
      | (with_reducible exact spec_Rows.mono _ _ _)
      | (with_reducible exact spec_Sum.mono _ _)
      | (with_reducible exact LeO.refl _)
      | (with_reducible exact LeO.none _)
      | (with_reducible refine LeO.ite ?_ ?_)
      | (with_reducible refine LeO.bind ?_ (fun _ => ?_))
      | exact ih0 _ _ _
      | exact ih1 _ _ _ _ _
      | exact ih2 _ _ _ _ _
      | exact laws_zzFits3.mono _ _
      | exact spec_Rows.mono _ _ _
      | exact spec_Sum.mono _ _
      | exact LeO.none _
      | refine LeO.ite ?_ ?_
      | refine LeO.bind ?_ (fun _ => ?_)
theorem laws_FnRopeLeaves.mono : ∀ a0 a1 k, LeO (laws_FnRopeLeaves.f k a0 a1) (laws_FnRopeLeaves.f (k + 1) a0 a1) := by
  intro a0 a1 k
  obtain ⟨ih0, ih1, ih2⟩ := laws_FnRopeLeaves.mono_l k
  unfold laws_FnRopeLeaves.f
  repeat' first
      | (with_reducible exact ih0 _ _ _)
      | (with_reducible exact ih1 _ _ _ _ _)
      | (with_reducible exact ih2 _ _ _ _ _)
      | (with_reducible exact laws_zzFits3.mono _ _)
      | (with_reducible exact spec_Rows.mono _ _ _)
      | (with_reducible exact spec_Sum.mono _ _)
      | (with_reducible exact LeO.refl _)
      | (with_reducible exact LeO.none _)
      | (with_reducible refine LeO.ite ?_ ?_)
      | (with_reducible refine LeO.bind ?_ (fun _ => ?_))
      | exact ih0 _ _ _
      | exact ih1 _ _ _ _ _
      | exact ih2 _ _ _ _ _
      | exact laws_zzFits3.mono _ _
      | exact spec_Rows.mono _ _ _
      | exact spec_Sum.mono _ _
      | exact LeO.none _
      | refine LeO.ite ?_ ?_
      | refine LeO.bind ?_ (fun _ => ?_)
set_option maxHeartbeats 8000000 in
set_option maxRecDepth 100000 in
theorem laws_FnRopeLeaves.calls (k : Nat) (A0 : Option Addr) (c0 : Nat) (l0 : List Int) (A1 : Option Addr) (c1 : Nat) (l1 : List (S38)) (r : Bool) (w : World) (hr0 : Kd.C (Kd.int .i64) w A0 l0.length l0) (hc0 : l0.length ≤ c0) (hr1 : Kd.C k38 w A1 l1.length l1) (hc1 : l1.length ≤ c1) (h : laws_FnRopeLeaves.f k l0 l1 = some r) :
    Calls Try.prog 7 #[.slice A0 l0.length c0, .slice A1 l1.length c1] w fun e w' => e = .returned (.bool r) ∧ Below w.heap.size w w' := by
  have hu38 := Try.underlying38
  have hu34 := Try.underlying34
  have HR0 := Aside0.mk hr0
  have HC0 := Aside0.mk hc0
  clear hr0 hc0
  have HR1 := Aside0.mk hr1
  have HC1 := Aside0.mk hc1
  clear hr1 hc1
  have HB := Aside0.mk (Below.refl w.heap.size w)
  have H : (if (l0.length : Int) > 2147483647 then (laws_FnRopeLeaves.j0 k l0 l1 true) else ((laws_zzFits3.f k l1).bind fun t225 => (laws_FnRopeLeaves.j0 k l0 l1 (!t225)))) = some r := h
  clear h
  have HC3 := Aside0.mk H
  clear H
  go_enter Try.func7, Try.ntmps7
  go_upto_region 1 with (fail)
  repeat (go_quiet (fail); go_upto_region 1 with (fail))
  go_cut [20] (fun v20 wc => ∃ (kq : Nat) (x20_2 : Bool), v20 = .bool x20_2 ∧ Aside0 (laws_FnRopeLeaves.j0 kq l0 l1 x20_2 = some r) ∧ Aside0 (kq ≤ k) ∧ Aside0 (Below w.heap.size w wc))
  case first =>
    have H := HC3.out
    clear HC3
    by_cases c4 : (l0.length : Int) > 2147483647
    · rw [if_pos c4] at H
      have c4b0 : decide (2147483647 < (l0.length : Int)) = true := decide_eq_true c4
      have c4b1 : decide (2147483647 < l0.length) = true := decide_eq_true (by omega)
      clear c4
      (first | rw [c4b0] | (simp only [i64_w, i32_w]; rw [c4b0]) | skip)
      have H' := Aside0.mk H
      clear H
      go_wp2
      repeat (go_quiet (fail); try go_wp2)
      go_meet
      case rel => exact ⟨_, (true), (by first | rfl | (simp; done) | (simp [*]; done)), H', ⟨by first | omega | exact Nat.le_refl _⟩, ⟨by repeat (first | (with_reducible first | exact HB.out | apply below_alloc | apply pw_below_drewN | apply below_drew1) | exact HB.out)⟩⟩
    · rw [if_neg c4] at H
      have c4b0 : decide (2147483647 < (l0.length : Int)) = false := decide_eq_false c4
      have c4b1 : decide (2147483647 < l0.length) = false := decide_eq_false (by omega)
      clear c4
      (first | rw [c4b0] | (simp only [i64_w, i32_w]; rw [c4b0]) | skip)
      replace H := Option.bind_eq_some_iff.mp H
      obtain ⟨t225, A50, H⟩ := H
      replace H : (laws_FnRopeLeaves.j0 k l0 l1 (!t225)) = some r := H
      have A5 := Aside0.mk A50
      clear A50
      have H' := Aside0.mk H
      clear H
      go_wp2_with (first | (go_at_call 12; (with_reducible refine (laws_zzFits3.calls k _ _ l1 t225 _ ?side1 ?side2 A5.out).mono ?_); (case side1 => repeat (first | exact (Kd.C_below HR1.out HB.out) | (with_reducible refine Kd.C_alloc ?_ _) | (with_reducible refine Kd.C_drewN ?_ _) | (with_reducible refine Kd.C_drew ?_))); (case side2 => exact HC1.out); rintro e w6 ⟨rfl, hb⟩; have n0_ := Aside0.mk (below_step (by repeat (first | (with_reducible first | exact HB.out | apply below_alloc | apply pw_below_drewN | apply below_drew1) | exact HB.out)) hb); clear HB; have HB := n0_; clear n0_; (try clear hb); (try clear hb2); (try clear hk); (try clear hi)))
      repeat (go_quiet (first | (go_at_call 12; (with_reducible refine (laws_zzFits3.calls k _ _ l1 t225 _ ?side1 ?side2 A5.out).mono ?_); (case side1 => repeat (first | exact (Kd.C_below HR1.out HB.out) | (with_reducible refine Kd.C_alloc ?_ _) | (with_reducible refine Kd.C_drewN ?_ _) | (with_reducible refine Kd.C_drew ?_))); (case side2 => exact HC1.out); rintro e w6 ⟨rfl, hb⟩; have n0_ := Aside0.mk (below_step (by repeat (first | (with_reducible first | exact HB.out | apply below_alloc | apply pw_below_drewN | apply below_drew1) | exact HB.out)) hb); clear HB; have HB := n0_; clear n0_; (try clear hb); (try clear hb2); (try clear hk); (try clear hi))); try go_wp2_with (first | (go_at_call 12; (with_reducible refine (laws_zzFits3.calls k _ _ l1 t225 _ ?side1 ?side2 A5.out).mono ?_); (case side1 => repeat (first | exact (Kd.C_below HR1.out HB.out) | (with_reducible refine Kd.C_alloc ?_ _) | (with_reducible refine Kd.C_drewN ?_ _) | (with_reducible refine Kd.C_drew ?_))); (case side2 => exact HC1.out); rintro e w6 ⟨rfl, hb⟩; have n0_ := Aside0.mk (below_step (by repeat (first | (with_reducible first | exact HB.out | apply below_alloc | apply pw_below_drewN | apply below_drew1) | exact HB.out)) hb); clear HB; have HB := n0_; clear n0_; (try clear hb); (try clear hb2); (try clear hk); (try clear hi))))
      go_meet
      case rel => exact ⟨_, (!t225), (by first | rfl | (simp; done) | (simp [*]; done)), H', ⟨by first | omega | exact Nat.le_refl _⟩, ⟨by repeat (first | (with_reducible first | exact HB.out | apply below_alloc | apply pw_below_drewN | apply below_drew1) | exact HB.out)⟩⟩
  case rest =>
    clear HC3
    try clear c1
    try clear p2
    try clear c4
    try clear c4b0
    try clear c4b1
    obtain ⟨kq, x20_2, rfl, HA, HJ2, HB⟩ := hcut
    cases kq with
    | zero => exact absurd HA.out (by simp [laws_FnRopeLeaves.j0])
    | succ kj2 =>
      have H := HA.out
      clear HA
      simp only [laws_FnRopeLeaves.j0] at H
      by_cases c7 : x20_2 = true
      · subst c7
        have H1 : (some true) = some r := by rw [if_pos rfl] at H; exact H
        clear H
        have H := H1
        clear H1
        obtain rfl := Option.some.inj H
        go_wp2
        repeat (go_quiet (fail); try go_wp2)
        go_ret
        exact ⟨by first | rfl | (simp [errW_none, errW_some] <;> rfl) | (simp [*, errW_none, errW_some] <;> rfl), by repeat (first | (with_reducible first | exact HB.out | apply below_alloc | apply pw_below_drewN | apply below_drew1) | exact HB.out)⟩
      · replace c7 := Bool.eq_false_iff.mpr c7
        subst c7
        have H1 : ((spec_Rows.f kj2 l0 l1).bind fun bt226 => (if bt226.2.2 = true then ((impl_RopeLimits.f).bind fun bt233 => ((laws_rowLast.f l0 l1 (([(⟨11, 0, 0, ([] : List Int)⟩ : S38)] : List (S38)))).bind fun bt238 => (if bt238.2.2.2 = true then (if bt233.1 < 1 then (laws_FnRopeLeaves.j1 kj2 bt233.1 true bt238.1 bt238.2.1 bt238.2.2.1) else (if bt233.2 < 0 then (laws_FnRopeLeaves.j1 kj2 bt233.1 true bt238.1 bt238.2.1 bt238.2.2.1) else (laws_FnRopeLeaves.j1 kj2 bt233.1 (decide (bt233.2 > bt233.1)) bt238.1 bt238.2.1 bt238.2.2.1))) else (laws_FnRopeLeaves.j1 kj2 bt233.1 true bt238.1 bt238.2.1 bt238.2.2.1)))) else (some true))) = some r := by rw [if_neg (show ¬ (false = true) by decide)] at H; exact H
        clear H
        have H := H1
        clear H1
        replace H := Option.bind_eq_some_iff.mp H
        obtain ⟨⟨t226, t229, t232⟩, A80, H⟩ := H
        replace H : (if t232 = true then ((impl_RopeLimits.f).bind fun bt233 => ((laws_rowLast.f l0 l1 (([(⟨11, 0, 0, ([] : List Int)⟩ : S38)] : List (S38)))).bind fun bt238 => (if bt238.2.2.2 = true then (if bt233.1 < 1 then (laws_FnRopeLeaves.j1 kj2 bt233.1 true bt238.1 bt238.2.1 bt238.2.2.1) else (if bt233.2 < 0 then (laws_FnRopeLeaves.j1 kj2 bt233.1 true bt238.1 bt238.2.1 bt238.2.2.1) else (laws_FnRopeLeaves.j1 kj2 bt233.1 (decide (bt233.2 > bt233.1)) bt238.1 bt238.2.1 bt238.2.2.1))) else (laws_FnRopeLeaves.j1 kj2 bt233.1 true bt238.1 bt238.2.1 bt238.2.2.1)))) else (some true)) = some r := H
        have A8 := Aside0.mk A80
        clear A80
        by_cases c9 : t232 = true
        · subst c9
          have H1 : ((impl_RopeLimits.f).bind fun bt233 => ((laws_rowLast.f l0 l1 (([(⟨11, 0, 0, ([] : List Int)⟩ : S38)] : List (S38)))).bind fun bt238 => (if bt238.2.2.2 = true then (if bt233.1 < 1 then (laws_FnRopeLeaves.j1 kj2 bt233.1 true bt238.1 bt238.2.1 bt238.2.2.1) else (if bt233.2 < 0 then (laws_FnRopeLeaves.j1 kj2 bt233.1 true bt238.1 bt238.2.1 bt238.2.2.1) else (laws_FnRopeLeaves.j1 kj2 bt233.1 (decide (bt233.2 > bt233.1)) bt238.1 bt238.2.1 bt238.2.2.1))) else (laws_FnRopeLeaves.j1 kj2 bt233.1 true bt238.1 bt238.2.1 bt238.2.2.1)))) = some r := by rw [if_pos rfl] at H; exact H
          clear H
          have H := H1
          clear H1
          replace H := Option.bind_eq_some_iff.mp H
          obtain ⟨⟨t233, t234⟩, A100, H⟩ := H
          replace H : ((laws_rowLast.f l0 l1 (([(⟨11, 0, 0, ([] : List Int)⟩ : S38)] : List (S38)))).bind fun bt238 => (if bt238.2.2.2 = true then (if t233 < 1 then (laws_FnRopeLeaves.j1 kj2 t233 true bt238.1 bt238.2.1 bt238.2.2.1) else (if t234 < 0 then (laws_FnRopeLeaves.j1 kj2 t233 true bt238.1 bt238.2.1 bt238.2.2.1) else (laws_FnRopeLeaves.j1 kj2 t233 (decide (t234 > t233)) bt238.1 bt238.2.1 bt238.2.2.1))) else (laws_FnRopeLeaves.j1 kj2 t233 true bt238.1 bt238.2.1 bt238.2.2.1))) = some r := H
          have A10 := Aside0.mk A100
          clear A100
          obtain ⟨y235, hy235⟩ : ∃ y_ : List (S38), y_ = (([(⟨11, 0, 0, ([] : List Int)⟩ : S38)] : List (S38))) := ⟨_, rfl⟩
          replace H : ((laws_rowLast.f l0 l1 y235).bind fun bt238 => (if bt238.2.2.2 = true then (if t233 < 1 then (laws_FnRopeLeaves.j1 kj2 t233 true bt238.1 bt238.2.1 bt238.2.2.1) else (if t234 < 0 then (laws_FnRopeLeaves.j1 kj2 t233 true bt238.1 bt238.2.1 bt238.2.2.1) else (laws_FnRopeLeaves.j1 kj2 t233 (decide (t234 > t233)) bt238.1 bt238.2.1 bt238.2.2.1))) else (laws_FnRopeLeaves.j1 kj2 t233 true bt238.1 bt238.2.1 bt238.2.2.1))) = some r := by first | (rw [hy235]; with_reducible exact H) | (have H2_ := (Option.bind_some _ _).symm.trans H; rw [hy235]; with_reducible exact H2_) | (have H2_ := (Option.bind_some _ _).symm.trans H; with_reducible exact H2_) | with_reducible exact H | (rw [hy235]; exact H) | exact H
          have Ny235 := Aside0.mk hy235
          clear hy235
          replace H := Option.bind_eq_some_iff.mp H
          obtain ⟨⟨t238, t239, t242, t245⟩, A110, H⟩ := H
          replace H : (if t245 = true then (if t233 < 1 then (laws_FnRopeLeaves.j1 kj2 t233 true t238 t239 t242) else (if t234 < 0 then (laws_FnRopeLeaves.j1 kj2 t233 true t238 t239 t242) else (laws_FnRopeLeaves.j1 kj2 t233 (decide (t234 > t233)) t238 t239 t242))) else (laws_FnRopeLeaves.j1 kj2 t233 true t238 t239 t242)) = some r := H
          have A11 := Aside0.mk A110
          clear A110
          have HC12 := Aside0.mk H
          clear H
          go_upto_region 8 with (first | (go_at_call 13; (with_reducible refine (spec_Rows.calls kj2 _ _ l0 _ _ l1 t226 t229 true _ ?side1 ?side2 ?side3 ?side4 A8.out).mono ?_); (case side1 => repeat (first | exact (Kd.C_below HR0.out HB.out) | (with_reducible refine Kd.C_alloc ?_ _) | (with_reducible refine Kd.C_drewN ?_ _) | (with_reducible refine Kd.C_drew ?_))); (case side2 => exact HC0.out); (case side3 => repeat (first | exact (Kd.C_below HR1.out HB.out) | (with_reducible refine Kd.C_alloc ?_ _) | (with_reducible refine Kd.C_drewN ?_ _) | (with_reducible refine Kd.C_drew ?_))); (case side4 => exact HC1.out); rintro e w13 ⟨v227, v230, rfl, ho0, ho1, hb⟩; have n0_ := Aside0.mk (Kd.V_lower (Kd.V_mono (ok' := fun k_ => some k_ ≠ (v230 : Value).ownBlock) ho0 (fun k_ hk_ => hk_.2)) (below_size (by repeat (first | (with_reducible first | exact HB.out | apply below_alloc | apply pw_below_drewN | apply below_drew1) | exact HB.out)))); have n1_ := Aside0.mk (Kd.N_lower (Kd.N_mono (ok' := fun k_ => True) ho1 (fun k_ hk_ => trivial)) (below_size (by repeat (first | (with_reducible first | exact HB.out | apply below_alloc | apply pw_below_drewN | apply below_drew1) | exact HB.out)))); have n2_ := Aside0.mk (below_step (by repeat (first | (with_reducible first | exact HB.out | apply below_alloc | apply pw_below_drewN | apply below_drew1) | exact HB.out)) hb); clear HB; have HO228 := n0_; have HO231 := n1_; have HB := n2_; clear n0_ n1_ n2_; (try clear hb); (try clear hb2); (try clear hk); (try clear hi); (try clear ho0); (try clear ho1)) | (go_at_call 18; (with_reducible refine (impl_RopeLimits.calls  t233 t234 _ A10.out).mono ?_); rintro e w' ⟨rfl, ⟨nd, rfl⟩⟩; (try first | exact ⟨rfl, _, World.drewN_drewN _ _ _⟩ | exact ⟨rfl, _, Eq.trans (World.drewN_drewN _ _ _) (congrArg (World.drewN _) (Nat.add_assoc _ _ _))⟩)) | ((with_reducible refine gate_dst (N := 38) rfl ?_); refine Kd.N_lit k38 _ 38 ?hg (N' := 38) ?hd (xs := ([(⟨11, 0, 0, ([] : List Int)⟩ : S38)] : List (S38))) (inner := [.int .i64 11, .int .i64 0, .int .i64 0, .slice none 0 0]) (ok := (fun k_ => some k_ ≠ (v230 : Value).ownBlock)) (okp := (fun k_ => some k_ ≠ (v230 : Value).ownBlock)) ?hr ?hp (fun _ hk => hk) ((show ∀ k_, w13.heap.size ≤ k_ → (fun k_ => some k_ ≠ (v230 : Value).ownBlock) k_ from fun k_ hk => Kd.fresh' (Kd.N_lt (by (with_reducible repeat (first | apply Kd.N_alloc | apply Kd.N_drewN | apply Kd.N_drew)); exact HO231.out)) k_ hk) _ (Nat.le_refl _)) (Below.refl _ _) (Nat.le_refl _) (by simp) ?_; (case hd => rfl); (case hg => rfl); (case hr => first | (go_simp; done) | (go_simp; rfl)); (case hp => exact (Reps.c4 (show Kd.FK k38 _ _ (⟨11, 0, 0, ([] : List Int)⟩ : S38) [.int .i64 11, .int .i64 0, .int .i64 0, .slice none 0 0] from (k38_mkF _ _ (⟨11, 0, 0, ([] : List Int)⟩ : S38) (Nat.le_refl _) (Kd.F_nil _ _ _))) (Reps.none _ _))); intro v236 w14 ho15 hb hg_ hnew_; clear hg_ hnew_; (first | rw [← Ny235.out] at ho15 | (simp only [Int.reduceToNat] at ho15; rw [← Ny235.out] at ho15)); have n0_ := Aside0.mk (Kd.V_elder' (by (with_reducible repeat (first | apply Kd.V_alloc | apply Kd.V_drewN | apply Kd.V_drew)); exact HO228.out) (Kd.N_base ho15) hb); have n1_ := Aside0.mk (Kd.N_elder' (by (with_reducible repeat (first | apply Kd.N_alloc | apply Kd.N_drewN | apply Kd.N_drew)); exact HO231.out) (Kd.N_base ho15) hb); have n2_ := Aside0.mk (Kd.N_lower ho15 (below_size (by repeat (first | (with_reducible first | exact HB.out | apply below_alloc | apply pw_below_drewN | apply below_drew1) | exact HB.out)))); have n3_ := Aside0.mk (below_step (by repeat (first | (with_reducible first | exact HB.out | apply below_alloc | apply pw_below_drewN | apply below_drew1) | exact HB.out)) hb); clear HO228; clear HO231; clear HB; have HO228 := n0_; have HO231 := n1_; have HO237 := n2_; have HB := n3_; clear n0_ n1_ n2_ n3_; clear hb ho15; obtain ⟨Ao16, co16, eo16⟩ := Kd.N_slice HO237.out; subst eo16) | (go_at_call 14; (with_reducible refine (laws_rowLast.calls _ _ l0 (fun k_ => k_ < w.heap.size) _ _ l1 (fun k_ => some k_ ≠ (v230 : Value).ownBlock) _ _ y235 t238 t239 t242 t245 _ ?side1 ?side2 ?side3 ?side4 A11.out).mono ?_); (case side1 => repeat (first | exact (Kd.C_below HR0.out HB.out) | (with_reducible refine Kd.C_alloc ?_ _) | (with_reducible refine Kd.C_drewN ?_ _) | (with_reducible refine Kd.C_drew ?_))); (case side2 => exact HC0.out); (case side3 => exact Kd.V_mk HC1.out (Kd.F_below (Kd.C_F k38_heap HR1.out) (by repeat (first | (with_reducible first | exact HB.out | apply below_alloc | apply pw_below_drewN | apply below_drew1) | exact HB.out)))); (case side4 => exact Kd.N_V (HO237.out)); rintro e w17 ⟨v240, v243, rfl, ho0, ho1, hb⟩; have n0_ := Aside0.mk (Kd.V_below (by (with_reducible repeat (first | apply Kd.V_alloc | apply Kd.V_drewN | apply Kd.V_drew)); exact HO228.out) hb); have n1_ := Aside0.mk (Kd.N_below (by (with_reducible repeat (first | apply Kd.N_alloc | apply Kd.N_drewN | apply Kd.N_drew)); exact HO231.out) hb); have n2_ := Aside0.mk (Kd.N_below (by (with_reducible repeat (first | apply Kd.N_alloc | apply Kd.N_drewN | apply Kd.N_drew)); exact HO237.out) hb); have n3_ := Aside0.mk (Kd.V_lower (Kd.V_mono (ok' := fun k_ => some k_ ≠ (v230 : Value).ownBlock) ho0 (fun k_ hk_ => Or.elim hk_ (fun hs_ => Or.elim hs_ (fun hs_ => fun e_ => Nat.not_le.2 hs_ (Kd.N_base HO231.out k_ e_.symm)) (fun hs_ => hs_)) (fun hn_ => (Kd.fresh' (Kd.N_lt (by (with_reducible repeat (first | apply Kd.N_alloc | apply Kd.N_drewN | apply Kd.N_drew)); exact HO231.out)) k_ hn_)))) (below_size (by repeat (first | (with_reducible first | exact HB.out | apply below_alloc | apply pw_below_drewN | apply below_drew1) | exact HB.out)))); have n4_ := Aside0.mk (Kd.V_lower (Kd.V_mono (ok' := fun k_ => some k_ ≠ (v230 : Value).ownBlock) ho1 (fun k_ hk_ => Or.elim hk_ (fun hs_ => Or.elim hs_ (fun hs_ => fun e_ => Nat.not_le.2 hs_ (Kd.N_base HO231.out k_ e_.symm)) (fun hs_ => hs_)) (fun hn_ => (Kd.fresh' (Kd.N_lt (by (with_reducible repeat (first | apply Kd.N_alloc | apply Kd.N_drewN | apply Kd.N_drew)); exact HO231.out)) k_ hn_)))) (below_size (by repeat (first | (with_reducible first | exact HB.out | apply below_alloc | apply pw_below_drewN | apply below_drew1) | exact HB.out)))); have n5_ := Aside0.mk (below_step (by repeat (first | (with_reducible first | exact HB.out | apply below_alloc | apply pw_below_drewN | apply below_drew1) | exact HB.out)) hb); clear HO228; clear HO231; clear HO237; clear HB; have HO228 := n0_; have HO231 := n1_; have HO237 := n2_; have HO241 := n3_; have HO244 := n4_; have HB := n5_; clear n0_ n1_ n2_ n3_ n4_ n5_; (try clear hb); (try clear hb2); (try clear hk); (try clear hi); (try clear ho0); (try clear ho1)) | ((with_reducible refine gate_dst (N := 10) rfl ?_); refine box_event ?hg (N := 10) ?hd (cs := #[.int .i64 0, .slice none 0 0, .slice none 0 0]) (t := 34) ?hr ?_; (case hd => rfl); (case hg => rfl); (case hr => first | (go_simp; done) | (go_simp; rfl)); intro gb246 hg w18 hbox hb; have n0_ := Aside0.mk (Kd.V_below (Kd.V_elderB (by (with_reducible repeat (first | apply Kd.V_alloc | apply Kd.V_drewN | apply Kd.V_drew)); exact HO228.out) gb246 (Nat.le_of_eq hg.symm)) hb); have n1_ := Aside0.mk (Kd.N_below (Kd.N_elderB (by (with_reducible repeat (first | apply Kd.N_alloc | apply Kd.N_drewN | apply Kd.N_drew)); exact HO231.out) gb246 (Nat.le_of_eq hg.symm)) hb); have n2_ := Aside0.mk (Kd.N_below (Kd.N_elderB (by (with_reducible repeat (first | apply Kd.N_alloc | apply Kd.N_drewN | apply Kd.N_drew)); exact HO237.out) gb246 (Nat.le_of_eq hg.symm)) hb); have n3_ := Aside0.mk (Kd.V_below (Kd.V_elderB (by (with_reducible repeat (first | apply Kd.V_alloc | apply Kd.V_drewN | apply Kd.V_drew)); exact HO241.out) gb246 (Nat.le_of_eq hg.symm)) hb); have n4_ := Aside0.mk (Kd.V_below (Kd.V_elderB (by (with_reducible repeat (first | apply Kd.V_alloc | apply Kd.V_drewN | apply Kd.V_drew)); exact HO244.out) gb246 (Nat.le_of_eq hg.symm)) hb); have n5_ := Aside0.mk (below_step (by repeat (first | (with_reducible first | exact HB.out | apply below_alloc | apply pw_below_drewN | apply below_drew1) | exact HB.out)) hb); have n6_ := Aside0.mk (hbox); have n7_ := Aside0.mk ((by rw [hg]; exact (below_size (by repeat (first | (with_reducible first | exact HB.out | apply below_alloc | apply pw_below_drewN | apply below_drew1) | exact HB.out))) : w.heap.size ≤ gb246)); have n8_ := Aside0.mk ((by rw [hg]; exact (below_size (by repeat (first | (with_reducible first | exact HB.out | apply below_alloc | apply pw_below_drewN | apply below_drew1) | exact HB.out))) : w.heap.size ≤ gb246)); clear HO228; clear HO231; clear HO237; clear HO241; clear HO244; clear HB; have HO228 := n0_; have HO231 := n1_; have HO237 := n2_; have HO241 := n3_; have HO244 := n4_; have HB := n5_; have BK246 := n6_; have GW246 := n7_; have GE246 := n8_; clear n0_ n1_ n2_ n3_ n4_ n5_ n6_ n7_ n8_; clear hb hbox hg; have hcz19_0 : w18.cell? ⟨gb246, 0, none⟩ = some (.int .i64 0) := (blk_cell BK246.out 0).trans rfl; have hcz19_1 : w18.cell? ⟨gb246, 1, none⟩ = some (.slice none 0 0) := (blk_cell BK246.out 1).trans rfl; have hcz19_2 : w18.cell? ⟨gb246, 2, none⟩ = some (.slice none 0 0) := (blk_cell BK246.out 2).trans rfl; have hfz19_0 := blk_frozen BK246.out 0; have hfz19_1 := blk_frozen BK246.out 1; have hfz19_2 := blk_frozen BK246.out 2; obtain ⟨Ao20, co20, eo20⟩ := Kd.V_slice HO241.out; subst eo20; obtain ⟨Ao21, co21, eo21⟩ := Kd.V_slice HO244.out; subst eo21))
          repeat (go_quiet (first | (go_at_call 13; (with_reducible refine (spec_Rows.calls kj2 _ _ l0 _ _ l1 t226 t229 true _ ?side1 ?side2 ?side3 ?side4 A8.out).mono ?_); (case side1 => repeat (first | exact (Kd.C_below HR0.out HB.out) | (with_reducible refine Kd.C_alloc ?_ _) | (with_reducible refine Kd.C_drewN ?_ _) | (with_reducible refine Kd.C_drew ?_))); (case side2 => exact HC0.out); (case side3 => repeat (first | exact (Kd.C_below HR1.out HB.out) | (with_reducible refine Kd.C_alloc ?_ _) | (with_reducible refine Kd.C_drewN ?_ _) | (with_reducible refine Kd.C_drew ?_))); (case side4 => exact HC1.out); rintro e w13 ⟨v227, v230, rfl, ho0, ho1, hb⟩; have n0_ := Aside0.mk (Kd.V_lower (Kd.V_mono (ok' := fun k_ => some k_ ≠ (v230 : Value).ownBlock) ho0 (fun k_ hk_ => hk_.2)) (below_size (by repeat (first | (with_reducible first | exact HB.out | apply below_alloc | apply pw_below_drewN | apply below_drew1) | exact HB.out)))); have n1_ := Aside0.mk (Kd.N_lower (Kd.N_mono (ok' := fun k_ => True) ho1 (fun k_ hk_ => trivial)) (below_size (by repeat (first | (with_reducible first | exact HB.out | apply below_alloc | apply pw_below_drewN | apply below_drew1) | exact HB.out)))); have n2_ := Aside0.mk (below_step (by repeat (first | (with_reducible first | exact HB.out | apply below_alloc | apply pw_below_drewN | apply below_drew1) | exact HB.out)) hb); clear HB; have HO228 := n0_; have HO231 := n1_; have HB := n2_; clear n0_ n1_ n2_; (try clear hb); (try clear hb2); (try clear hk); (try clear hi); (try clear ho0); (try clear ho1)) | (go_at_call 18; (with_reducible refine (impl_RopeLimits.calls  t233 t234 _ A10.out).mono ?_); rintro e w' ⟨rfl, ⟨nd, rfl⟩⟩; (try first | exact ⟨rfl, _, World.drewN_drewN _ _ _⟩ | exact ⟨rfl, _, Eq.trans (World.drewN_drewN _ _ _) (congrArg (World.drewN _) (Nat.add_assoc _ _ _))⟩)) | ((with_reducible refine gate_dst (N := 38) rfl ?_); refine Kd.N_lit k38 _ 38 ?hg (N' := 38) ?hd (xs := ([(⟨11, 0, 0, ([] : List Int)⟩ : S38)] : List (S38))) (inner := [.int .i64 11, .int .i64 0, .int .i64 0, .slice none 0 0]) (ok := (fun k_ => some k_ ≠ (v230 : Value).ownBlock)) (okp := (fun k_ => some k_ ≠ (v230 : Value).ownBlock)) ?hr ?hp (fun _ hk => hk) ((show ∀ k_, w13.heap.size ≤ k_ → (fun k_ => some k_ ≠ (v230 : Value).ownBlock) k_ from fun k_ hk => Kd.fresh' (Kd.N_lt (by (with_reducible repeat (first | apply Kd.N_alloc | apply Kd.N_drewN | apply Kd.N_drew)); exact HO231.out)) k_ hk) _ (Nat.le_refl _)) (Below.refl _ _) (Nat.le_refl _) (by simp) ?_; (case hd => rfl); (case hg => rfl); (case hr => first | (go_simp; done) | (go_simp; rfl)); (case hp => exact (Reps.c4 (show Kd.FK k38 _ _ (⟨11, 0, 0, ([] : List Int)⟩ : S38) [.int .i64 11, .int .i64 0, .int .i64 0, .slice none 0 0] from (k38_mkF _ _ (⟨11, 0, 0, ([] : List Int)⟩ : S38) (Nat.le_refl _) (Kd.F_nil _ _ _))) (Reps.none _ _))); intro v236 w14 ho15 hb hg_ hnew_; clear hg_ hnew_; (first | rw [← Ny235.out] at ho15 | (simp only [Int.reduceToNat] at ho15; rw [← Ny235.out] at ho15)); have n0_ := Aside0.mk (Kd.V_elder' (by (with_reducible repeat (first | apply Kd.V_alloc | apply Kd.V_drewN | apply Kd.V_drew)); exact HO228.out) (Kd.N_base ho15) hb); have n1_ := Aside0.mk (Kd.N_elder' (by (with_reducible repeat (first | apply Kd.N_alloc | apply Kd.N_drewN | apply Kd.N_drew)); exact HO231.out) (Kd.N_base ho15) hb); have n2_ := Aside0.mk (Kd.N_lower ho15 (below_size (by repeat (first | (with_reducible first | exact HB.out | apply below_alloc | apply pw_below_drewN | apply below_drew1) | exact HB.out)))); have n3_ := Aside0.mk (below_step (by repeat (first | (with_reducible first | exact HB.out | apply below_alloc | apply pw_below_drewN | apply below_drew1) | exact HB.out)) hb); clear HO228; clear HO231; clear HB; have HO228 := n0_; have HO231 := n1_; have HO237 := n2_; have HB := n3_; clear n0_ n1_ n2_ n3_; clear hb ho15; obtain ⟨Ao16, co16, eo16⟩ := Kd.N_slice HO237.out; subst eo16) | (go_at_call 14; (with_reducible refine (laws_rowLast.calls _ _ l0 (fun k_ => k_ < w.heap.size) _ _ l1 (fun k_ => some k_ ≠ (v230 : Value).ownBlock) _ _ y235 t238 t239 t242 t245 _ ?side1 ?side2 ?side3 ?side4 A11.out).mono ?_); (case side1 => repeat (first | exact (Kd.C_below HR0.out HB.out) | (with_reducible refine Kd.C_alloc ?_ _) | (with_reducible refine Kd.C_drewN ?_ _) | (with_reducible refine Kd.C_drew ?_))); (case side2 => exact HC0.out); (case side3 => exact Kd.V_mk HC1.out (Kd.F_below (Kd.C_F k38_heap HR1.out) (by repeat (first | (with_reducible first | exact HB.out | apply below_alloc | apply pw_below_drewN | apply below_drew1) | exact HB.out)))); (case side4 => exact Kd.N_V (HO237.out)); rintro e w17 ⟨v240, v243, rfl, ho0, ho1, hb⟩; have n0_ := Aside0.mk (Kd.V_below (by (with_reducible repeat (first | apply Kd.V_alloc | apply Kd.V_drewN | apply Kd.V_drew)); exact HO228.out) hb); have n1_ := Aside0.mk (Kd.N_below (by (with_reducible repeat (first | apply Kd.N_alloc | apply Kd.N_drewN | apply Kd.N_drew)); exact HO231.out) hb); have n2_ := Aside0.mk (Kd.N_below (by (with_reducible repeat (first | apply Kd.N_alloc | apply Kd.N_drewN | apply Kd.N_drew)); exact HO237.out) hb); have n3_ := Aside0.mk (Kd.V_lower (Kd.V_mono (ok' := fun k_ => some k_ ≠ (v230 : Value).ownBlock) ho0 (fun k_ hk_ => Or.elim hk_ (fun hs_ => Or.elim hs_ (fun hs_ => fun e_ => Nat.not_le.2 hs_ (Kd.N_base HO231.out k_ e_.symm)) (fun hs_ => hs_)) (fun hn_ => (Kd.fresh' (Kd.N_lt (by (with_reducible repeat (first | apply Kd.N_alloc | apply Kd.N_drewN | apply Kd.N_drew)); exact HO231.out)) k_ hn_)))) (below_size (by repeat (first | (with_reducible first | exact HB.out | apply below_alloc | apply pw_below_drewN | apply below_drew1) | exact HB.out)))); have n4_ := Aside0.mk (Kd.V_lower (Kd.V_mono (ok' := fun k_ => some k_ ≠ (v230 : Value).ownBlock) ho1 (fun k_ hk_ => Or.elim hk_ (fun hs_ => Or.elim hs_ (fun hs_ => fun e_ => Nat.not_le.2 hs_ (Kd.N_base HO231.out k_ e_.symm)) (fun hs_ => hs_)) (fun hn_ => (Kd.fresh' (Kd.N_lt (by (with_reducible repeat (first | apply Kd.N_alloc | apply Kd.N_drewN | apply Kd.N_drew)); exact HO231.out)) k_ hn_)))) (below_size (by repeat (first | (with_reducible first | exact HB.out | apply below_alloc | apply pw_below_drewN | apply below_drew1) | exact HB.out)))); have n5_ := Aside0.mk (below_step (by repeat (first | (with_reducible first | exact HB.out | apply below_alloc | apply pw_below_drewN | apply below_drew1) | exact HB.out)) hb); clear HO228; clear HO231; clear HO237; clear HB; have HO228 := n0_; have HO231 := n1_; have HO237 := n2_; have HO241 := n3_; have HO244 := n4_; have HB := n5_; clear n0_ n1_ n2_ n3_ n4_ n5_; (try clear hb); (try clear hb2); (try clear hk); (try clear hi); (try clear ho0); (try clear ho1)) | ((with_reducible refine gate_dst (N := 10) rfl ?_); refine box_event ?hg (N := 10) ?hd (cs := #[.int .i64 0, .slice none 0 0, .slice none 0 0]) (t := 34) ?hr ?_; (case hd => rfl); (case hg => rfl); (case hr => first | (go_simp; done) | (go_simp; rfl)); intro gb246 hg w18 hbox hb; have n0_ := Aside0.mk (Kd.V_below (Kd.V_elderB (by (with_reducible repeat (first | apply Kd.V_alloc | apply Kd.V_drewN | apply Kd.V_drew)); exact HO228.out) gb246 (Nat.le_of_eq hg.symm)) hb); have n1_ := Aside0.mk (Kd.N_below (Kd.N_elderB (by (with_reducible repeat (first | apply Kd.N_alloc | apply Kd.N_drewN | apply Kd.N_drew)); exact HO231.out) gb246 (Nat.le_of_eq hg.symm)) hb); have n2_ := Aside0.mk (Kd.N_below (Kd.N_elderB (by (with_reducible repeat (first | apply Kd.N_alloc | apply Kd.N_drewN | apply Kd.N_drew)); exact HO237.out) gb246 (Nat.le_of_eq hg.symm)) hb); have n3_ := Aside0.mk (Kd.V_below (Kd.V_elderB (by (with_reducible repeat (first | apply Kd.V_alloc | apply Kd.V_drewN | apply Kd.V_drew)); exact HO241.out) gb246 (Nat.le_of_eq hg.symm)) hb); have n4_ := Aside0.mk (Kd.V_below (Kd.V_elderB (by (with_reducible repeat (first | apply Kd.V_alloc | apply Kd.V_drewN | apply Kd.V_drew)); exact HO244.out) gb246 (Nat.le_of_eq hg.symm)) hb); have n5_ := Aside0.mk (below_step (by repeat (first | (with_reducible first | exact HB.out | apply below_alloc | apply pw_below_drewN | apply below_drew1) | exact HB.out)) hb); have n6_ := Aside0.mk (hbox); have n7_ := Aside0.mk ((by rw [hg]; exact (below_size (by repeat (first | (with_reducible first | exact HB.out | apply below_alloc | apply pw_below_drewN | apply below_drew1) | exact HB.out))) : w.heap.size ≤ gb246)); have n8_ := Aside0.mk ((by rw [hg]; exact (below_size (by repeat (first | (with_reducible first | exact HB.out | apply below_alloc | apply pw_below_drewN | apply below_drew1) | exact HB.out))) : w.heap.size ≤ gb246)); clear HO228; clear HO231; clear HO237; clear HO241; clear HO244; clear HB; have HO228 := n0_; have HO231 := n1_; have HO237 := n2_; have HO241 := n3_; have HO244 := n4_; have HB := n5_; have BK246 := n6_; have GW246 := n7_; have GE246 := n8_; clear n0_ n1_ n2_ n3_ n4_ n5_ n6_ n7_ n8_; clear hb hbox hg; have hcz19_0 : w18.cell? ⟨gb246, 0, none⟩ = some (.int .i64 0) := (blk_cell BK246.out 0).trans rfl; have hcz19_1 : w18.cell? ⟨gb246, 1, none⟩ = some (.slice none 0 0) := (blk_cell BK246.out 1).trans rfl; have hcz19_2 : w18.cell? ⟨gb246, 2, none⟩ = some (.slice none 0 0) := (blk_cell BK246.out 2).trans rfl; have hfz19_0 := blk_frozen BK246.out 0; have hfz19_1 := blk_frozen BK246.out 1; have hfz19_2 := blk_frozen BK246.out 2; obtain ⟨Ao20, co20, eo20⟩ := Kd.V_slice HO241.out; subst eo20; obtain ⟨Ao21, co21, eo21⟩ := Kd.V_slice HO244.out; subst eo21)); go_upto_region 8 with (first | (go_at_call 13; (with_reducible refine (spec_Rows.calls kj2 _ _ l0 _ _ l1 t226 t229 true _ ?side1 ?side2 ?side3 ?side4 A8.out).mono ?_); (case side1 => repeat (first | exact (Kd.C_below HR0.out HB.out) | (with_reducible refine Kd.C_alloc ?_ _) | (with_reducible refine Kd.C_drewN ?_ _) | (with_reducible refine Kd.C_drew ?_))); (case side2 => exact HC0.out); (case side3 => repeat (first | exact (Kd.C_below HR1.out HB.out) | (with_reducible refine Kd.C_alloc ?_ _) | (with_reducible refine Kd.C_drewN ?_ _) | (with_reducible refine Kd.C_drew ?_))); (case side4 => exact HC1.out); rintro e w13 ⟨v227, v230, rfl, ho0, ho1, hb⟩; have n0_ := Aside0.mk (Kd.V_lower (Kd.V_mono (ok' := fun k_ => some k_ ≠ (v230 : Value).ownBlock) ho0 (fun k_ hk_ => hk_.2)) (below_size (by repeat (first | (with_reducible first | exact HB.out | apply below_alloc | apply pw_below_drewN | apply below_drew1) | exact HB.out)))); have n1_ := Aside0.mk (Kd.N_lower (Kd.N_mono (ok' := fun k_ => True) ho1 (fun k_ hk_ => trivial)) (below_size (by repeat (first | (with_reducible first | exact HB.out | apply below_alloc | apply pw_below_drewN | apply below_drew1) | exact HB.out)))); have n2_ := Aside0.mk (below_step (by repeat (first | (with_reducible first | exact HB.out | apply below_alloc | apply pw_below_drewN | apply below_drew1) | exact HB.out)) hb); clear HB; have HO228 := n0_; have HO231 := n1_; have HB := n2_; clear n0_ n1_ n2_; (try clear hb); (try clear hb2); (try clear hk); (try clear hi); (try clear ho0); (try clear ho1)) | (go_at_call 18; (with_reducible refine (impl_RopeLimits.calls  t233 t234 _ A10.out).mono ?_); rintro e w' ⟨rfl, ⟨nd, rfl⟩⟩; (try first | exact ⟨rfl, _, World.drewN_drewN _ _ _⟩ | exact ⟨rfl, _, Eq.trans (World.drewN_drewN _ _ _) (congrArg (World.drewN _) (Nat.add_assoc _ _ _))⟩)) | ((with_reducible refine gate_dst (N := 38) rfl ?_); refine Kd.N_lit k38 _ 38 ?hg (N' := 38) ?hd (xs := ([(⟨11, 0, 0, ([] : List Int)⟩ : S38)] : List (S38))) (inner := [.int .i64 11, .int .i64 0, .int .i64 0, .slice none 0 0]) (ok := (fun k_ => some k_ ≠ (v230 : Value).ownBlock)) (okp := (fun k_ => some k_ ≠ (v230 : Value).ownBlock)) ?hr ?hp (fun _ hk => hk) ((show ∀ k_, w13.heap.size ≤ k_ → (fun k_ => some k_ ≠ (v230 : Value).ownBlock) k_ from fun k_ hk => Kd.fresh' (Kd.N_lt (by (with_reducible repeat (first | apply Kd.N_alloc | apply Kd.N_drewN | apply Kd.N_drew)); exact HO231.out)) k_ hk) _ (Nat.le_refl _)) (Below.refl _ _) (Nat.le_refl _) (by simp) ?_; (case hd => rfl); (case hg => rfl); (case hr => first | (go_simp; done) | (go_simp; rfl)); (case hp => exact (Reps.c4 (show Kd.FK k38 _ _ (⟨11, 0, 0, ([] : List Int)⟩ : S38) [.int .i64 11, .int .i64 0, .int .i64 0, .slice none 0 0] from (k38_mkF _ _ (⟨11, 0, 0, ([] : List Int)⟩ : S38) (Nat.le_refl _) (Kd.F_nil _ _ _))) (Reps.none _ _))); intro v236 w14 ho15 hb hg_ hnew_; clear hg_ hnew_; (first | rw [← Ny235.out] at ho15 | (simp only [Int.reduceToNat] at ho15; rw [← Ny235.out] at ho15)); have n0_ := Aside0.mk (Kd.V_elder' (by (with_reducible repeat (first | apply Kd.V_alloc | apply Kd.V_drewN | apply Kd.V_drew)); exact HO228.out) (Kd.N_base ho15) hb); have n1_ := Aside0.mk (Kd.N_elder' (by (with_reducible repeat (first | apply Kd.N_alloc | apply Kd.N_drewN | apply Kd.N_drew)); exact HO231.out) (Kd.N_base ho15) hb); have n2_ := Aside0.mk (Kd.N_lower ho15 (below_size (by repeat (first | (with_reducible first | exact HB.out | apply below_alloc | apply pw_below_drewN | apply below_drew1) | exact HB.out)))); have n3_ := Aside0.mk (below_step (by repeat (first | (with_reducible first | exact HB.out | apply below_alloc | apply pw_below_drewN | apply below_drew1) | exact HB.out)) hb); clear HO228; clear HO231; clear HB; have HO228 := n0_; have HO231 := n1_; have HO237 := n2_; have HB := n3_; clear n0_ n1_ n2_ n3_; clear hb ho15; obtain ⟨Ao16, co16, eo16⟩ := Kd.N_slice HO237.out; subst eo16) | (go_at_call 14; (with_reducible refine (laws_rowLast.calls _ _ l0 (fun k_ => k_ < w.heap.size) _ _ l1 (fun k_ => some k_ ≠ (v230 : Value).ownBlock) _ _ y235 t238 t239 t242 t245 _ ?side1 ?side2 ?side3 ?side4 A11.out).mono ?_); (case side1 => repeat (first | exact (Kd.C_below HR0.out HB.out) | (with_reducible refine Kd.C_alloc ?_ _) | (with_reducible refine Kd.C_drewN ?_ _) | (with_reducible refine Kd.C_drew ?_))); (case side2 => exact HC0.out); (case side3 => exact Kd.V_mk HC1.out (Kd.F_below (Kd.C_F k38_heap HR1.out) (by repeat (first | (with_reducible first | exact HB.out | apply below_alloc | apply pw_below_drewN | apply below_drew1) | exact HB.out)))); (case side4 => exact Kd.N_V (HO237.out)); rintro e w17 ⟨v240, v243, rfl, ho0, ho1, hb⟩; have n0_ := Aside0.mk (Kd.V_below (by (with_reducible repeat (first | apply Kd.V_alloc | apply Kd.V_drewN | apply Kd.V_drew)); exact HO228.out) hb); have n1_ := Aside0.mk (Kd.N_below (by (with_reducible repeat (first | apply Kd.N_alloc | apply Kd.N_drewN | apply Kd.N_drew)); exact HO231.out) hb); have n2_ := Aside0.mk (Kd.N_below (by (with_reducible repeat (first | apply Kd.N_alloc | apply Kd.N_drewN | apply Kd.N_drew)); exact HO237.out) hb); have n3_ := Aside0.mk (Kd.V_lower (Kd.V_mono (ok' := fun k_ => some k_ ≠ (v230 : Value).ownBlock) ho0 (fun k_ hk_ => Or.elim hk_ (fun hs_ => Or.elim hs_ (fun hs_ => fun e_ => Nat.not_le.2 hs_ (Kd.N_base HO231.out k_ e_.symm)) (fun hs_ => hs_)) (fun hn_ => (Kd.fresh' (Kd.N_lt (by (with_reducible repeat (first | apply Kd.N_alloc | apply Kd.N_drewN | apply Kd.N_drew)); exact HO231.out)) k_ hn_)))) (below_size (by repeat (first | (with_reducible first | exact HB.out | apply below_alloc | apply pw_below_drewN | apply below_drew1) | exact HB.out)))); have n4_ := Aside0.mk (Kd.V_lower (Kd.V_mono (ok' := fun k_ => some k_ ≠ (v230 : Value).ownBlock) ho1 (fun k_ hk_ => Or.elim hk_ (fun hs_ => Or.elim hs_ (fun hs_ => fun e_ => Nat.not_le.2 hs_ (Kd.N_base HO231.out k_ e_.symm)) (fun hs_ => hs_)) (fun hn_ => (Kd.fresh' (Kd.N_lt (by (with_reducible repeat (first | apply Kd.N_alloc | apply Kd.N_drewN | apply Kd.N_drew)); exact HO231.out)) k_ hn_)))) (below_size (by repeat (first | (with_reducible first | exact HB.out | apply below_alloc | apply pw_below_drewN | apply below_drew1) | exact HB.out)))); have n5_ := Aside0.mk (below_step (by repeat (first | (with_reducible first | exact HB.out | apply below_alloc | apply pw_below_drewN | apply below_drew1) | exact HB.out)) hb); clear HO228; clear HO231; clear HO237; clear HB; have HO228 := n0_; have HO231 := n1_; have HO237 := n2_; have HO241 := n3_; have HO244 := n4_; have HB := n5_; clear n0_ n1_ n2_ n3_ n4_ n5_; (try clear hb); (try clear hb2); (try clear hk); (try clear hi); (try clear ho0); (try clear ho1)) | ((with_reducible refine gate_dst (N := 10) rfl ?_); refine box_event ?hg (N := 10) ?hd (cs := #[.int .i64 0, .slice none 0 0, .slice none 0 0]) (t := 34) ?hr ?_; (case hd => rfl); (case hg => rfl); (case hr => first | (go_simp; done) | (go_simp; rfl)); intro gb246 hg w18 hbox hb; have n0_ := Aside0.mk (Kd.V_below (Kd.V_elderB (by (with_reducible repeat (first | apply Kd.V_alloc | apply Kd.V_drewN | apply Kd.V_drew)); exact HO228.out) gb246 (Nat.le_of_eq hg.symm)) hb); have n1_ := Aside0.mk (Kd.N_below (Kd.N_elderB (by (with_reducible repeat (first | apply Kd.N_alloc | apply Kd.N_drewN | apply Kd.N_drew)); exact HO231.out) gb246 (Nat.le_of_eq hg.symm)) hb); have n2_ := Aside0.mk (Kd.N_below (Kd.N_elderB (by (with_reducible repeat (first | apply Kd.N_alloc | apply Kd.N_drewN | apply Kd.N_drew)); exact HO237.out) gb246 (Nat.le_of_eq hg.symm)) hb); have n3_ := Aside0.mk (Kd.V_below (Kd.V_elderB (by (with_reducible repeat (first | apply Kd.V_alloc | apply Kd.V_drewN | apply Kd.V_drew)); exact HO241.out) gb246 (Nat.le_of_eq hg.symm)) hb); have n4_ := Aside0.mk (Kd.V_below (Kd.V_elderB (by (with_reducible repeat (first | apply Kd.V_alloc | apply Kd.V_drewN | apply Kd.V_drew)); exact HO244.out) gb246 (Nat.le_of_eq hg.symm)) hb); have n5_ := Aside0.mk (below_step (by repeat (first | (with_reducible first | exact HB.out | apply below_alloc | apply pw_below_drewN | apply below_drew1) | exact HB.out)) hb); have n6_ := Aside0.mk (hbox); have n7_ := Aside0.mk ((by rw [hg]; exact (below_size (by repeat (first | (with_reducible first | exact HB.out | apply below_alloc | apply pw_below_drewN | apply below_drew1) | exact HB.out))) : w.heap.size ≤ gb246)); have n8_ := Aside0.mk ((by rw [hg]; exact (below_size (by repeat (first | (with_reducible first | exact HB.out | apply below_alloc | apply pw_below_drewN | apply below_drew1) | exact HB.out))) : w.heap.size ≤ gb246)); clear HO228; clear HO231; clear HO237; clear HO241; clear HO244; clear HB; have HO228 := n0_; have HO231 := n1_; have HO237 := n2_; have HO241 := n3_; have HO244 := n4_; have HB := n5_; have BK246 := n6_; have GW246 := n7_; have GE246 := n8_; clear n0_ n1_ n2_ n3_ n4_ n5_ n6_ n7_ n8_; clear hb hbox hg; have hcz19_0 : w18.cell? ⟨gb246, 0, none⟩ = some (.int .i64 0) := (blk_cell BK246.out 0).trans rfl; have hcz19_1 : w18.cell? ⟨gb246, 1, none⟩ = some (.slice none 0 0) := (blk_cell BK246.out 1).trans rfl; have hcz19_2 : w18.cell? ⟨gb246, 2, none⟩ = some (.slice none 0 0) := (blk_cell BK246.out 2).trans rfl; have hfz19_0 := blk_frozen BK246.out 0; have hfz19_1 := blk_frozen BK246.out 1; have hfz19_2 := blk_frozen BK246.out 2; obtain ⟨Ao20, co20, eo20⟩ := Kd.V_slice HO241.out; subst eo20; obtain ⟨Ao21, co21, eo21⟩ := Kd.V_slice HO244.out; subst eo21)))
          (try simp only [Act.put, List.setIfInBounds_toArray, List.set_cons_zero, List.set_cons_succ])
          go_cut [56] (fun v56 wc => ∃ (kq : Nat) (x56_11 : Bool), v56 = .bool x56_11 ∧ Aside0 (laws_FnRopeLeaves.j1 kq t233 x56_11 t238 t239 t242 = some r) ∧ Aside0 (kq ≤ kj2) ∧ Aside0 (Kd.V (Kd.int .i64) 3 wc w.heap.size (fun k_ => k_ ≠ gb246) (.slice Ao20 t239.length co20) t239) ∧ Aside0 (Kd.V (Kd.int .i64) 3 wc w.heap.size (fun k_ => k_ ≠ gb246) (.slice Ao21 t242.length co21) t242) ∧ Aside0 (wc.heap[gb246]? = some (.cells #[.int .i64 t238, (.slice Ao20 t239.length co20), (.slice Ao21 t242.length co21)] 34 (0, 0))) ∧ Aside0 (Below w.heap.size w wc))
          case first =>
            have H := HC12.out
            clear HC12
            by_cases c22 : t245 = true
            · subst c22
              have H1 : (if t233 < 1 then (laws_FnRopeLeaves.j1 kj2 t233 true t238 t239 t242) else (if t234 < 0 then (laws_FnRopeLeaves.j1 kj2 t233 true t238 t239 t242) else (laws_FnRopeLeaves.j1 kj2 t233 (decide (t234 > t233)) t238 t239 t242))) = some r := by rw [if_pos rfl] at H; exact H
              clear H
              have H := H1
              clear H1
              by_cases c23 : t233 < 1
              · rw [if_pos c23] at H
                have c23b0 : decide (t233 < 1) = true := decide_eq_true c23
                clear c23
                (first | rw [c23b0] | (simp only [i64_w, i32_w]; rw [c23b0]) | skip)
                have H' := Aside0.mk H
                clear H
                go_wp2
                repeat (go_quiet (fail); try go_wp2)
                go_meet
                case rel => exact ⟨_, (true), (by first | rfl | (simp; done) | (simp [*]; done)), H', ⟨by have := HJ2.out; first | omega | exact Nat.le_refl _⟩, ⟨by (with_reducible repeat (first | apply Kd.V_alloc | apply Kd.V_drewN | apply Kd.V_drew)); exact Kd.V_mono (Kd.V_far (p := ⟨gb246, 2, none⟩) (Kd.V_far (p := ⟨gb246, 1, none⟩) (Kd.V_far (p := ⟨gb246, 0, none⟩) (Kd.V_mono HO241.out (fun k_ hk => (⟨hk, hk.2⟩ : _ ∧ k_ ≠ gb246))) (fun _ hk => hk.2) (.int .i64 t238)) (fun _ hk => hk.2) (.slice Ao20 t239.length co20)) (fun _ hk => hk.2) (.slice Ao21 t242.length co21)) (fun _ hk => hk.1.2)⟩, ⟨by (with_reducible repeat (first | apply Kd.V_alloc | apply Kd.V_drewN | apply Kd.V_drew)); exact Kd.V_mono (Kd.V_far (p := ⟨gb246, 2, none⟩) (Kd.V_far (p := ⟨gb246, 1, none⟩) (Kd.V_far (p := ⟨gb246, 0, none⟩) (Kd.V_mono HO244.out (fun k_ hk => (⟨hk, hk.2⟩ : _ ∧ k_ ≠ gb246))) (fun _ hk => hk.2) (.int .i64 t238)) (fun _ hk => hk.2) (.slice Ao20 t239.length co20)) (fun _ hk => hk.2) (.slice Ao21 t242.length co21)) (fun _ hk => hk.1.2)⟩, ⟨by (with_reducible repeat (first | refine blk_drewN ?_ _ | refine blk_drew ?_ | refine blk_alloc ?_ _)); refine blk_put (cs := #[.int .i64 t238, .slice Ao20 t239.length co20, .slice none 0 0]) ?_ 2 _ rfl; (with_reducible repeat (first | refine blk_drewN ?_ _ | refine blk_drew ?_ | refine blk_alloc ?_ _)); refine blk_put (cs := #[.int .i64 t238, .slice none 0 0, .slice none 0 0]) ?_ 1 _ rfl; (with_reducible repeat (first | refine blk_drewN ?_ _ | refine blk_drew ?_ | refine blk_alloc ?_ _)); refine blk_put (cs := #[.int .i64 0, .slice none 0 0, .slice none 0 0]) ?_ 0 _ rfl; (with_reducible repeat (first | refine blk_drewN ?_ _ | refine blk_drew ?_ | refine blk_alloc ?_ _)); exact BK246.out⟩, ⟨by repeat (first | (with_reducible first | exact HB.out | apply below_alloc | apply pw_below_drewN | apply below_drew1 | refine below_set ?_ GE246.out) | exact HB.out)⟩⟩
              · rw [if_neg c23] at H
                have c23b0 : decide (t233 < 1) = false := decide_eq_false c23
                clear c23
                (first | rw [c23b0] | (simp only [i64_w, i32_w]; rw [c23b0]) | skip)
                by_cases c24 : t234 < 0
                · rw [if_pos c24] at H
                  have c24b0 : decide (t234 < 0) = true := decide_eq_true c24
                  clear c24
                  have H' := Aside0.mk H
                  clear H
                  go_wp2
                  repeat (go_quiet (fail); try go_wp2)
                  go_meet
                  case rel => exact ⟨_, (true), (by first | rfl | (simp; done) | (simp [*]; done)), H', ⟨by have := HJ2.out; first | omega | exact Nat.le_refl _⟩, ⟨by (with_reducible repeat (first | apply Kd.V_alloc | apply Kd.V_drewN | apply Kd.V_drew)); exact Kd.V_mono (Kd.V_far (p := ⟨gb246, 2, none⟩) (Kd.V_far (p := ⟨gb246, 1, none⟩) (Kd.V_far (p := ⟨gb246, 0, none⟩) (Kd.V_mono HO241.out (fun k_ hk => (⟨hk, hk.2⟩ : _ ∧ k_ ≠ gb246))) (fun _ hk => hk.2) (.int .i64 t238)) (fun _ hk => hk.2) (.slice Ao20 t239.length co20)) (fun _ hk => hk.2) (.slice Ao21 t242.length co21)) (fun _ hk => hk.1.2)⟩, ⟨by (with_reducible repeat (first | apply Kd.V_alloc | apply Kd.V_drewN | apply Kd.V_drew)); exact Kd.V_mono (Kd.V_far (p := ⟨gb246, 2, none⟩) (Kd.V_far (p := ⟨gb246, 1, none⟩) (Kd.V_far (p := ⟨gb246, 0, none⟩) (Kd.V_mono HO244.out (fun k_ hk => (⟨hk, hk.2⟩ : _ ∧ k_ ≠ gb246))) (fun _ hk => hk.2) (.int .i64 t238)) (fun _ hk => hk.2) (.slice Ao20 t239.length co20)) (fun _ hk => hk.2) (.slice Ao21 t242.length co21)) (fun _ hk => hk.1.2)⟩, ⟨by (with_reducible repeat (first | refine blk_drewN ?_ _ | refine blk_drew ?_ | refine blk_alloc ?_ _)); refine blk_put (cs := #[.int .i64 t238, .slice Ao20 t239.length co20, .slice none 0 0]) ?_ 2 _ rfl; (with_reducible repeat (first | refine blk_drewN ?_ _ | refine blk_drew ?_ | refine blk_alloc ?_ _)); refine blk_put (cs := #[.int .i64 t238, .slice none 0 0, .slice none 0 0]) ?_ 1 _ rfl; (with_reducible repeat (first | refine blk_drewN ?_ _ | refine blk_drew ?_ | refine blk_alloc ?_ _)); refine blk_put (cs := #[.int .i64 0, .slice none 0 0, .slice none 0 0]) ?_ 0 _ rfl; (with_reducible repeat (first | refine blk_drewN ?_ _ | refine blk_drew ?_ | refine blk_alloc ?_ _)); exact BK246.out⟩, ⟨by repeat (first | (with_reducible first | exact HB.out | apply below_alloc | apply pw_below_drewN | apply below_drew1 | refine below_set ?_ GE246.out) | exact HB.out)⟩⟩
                · rw [if_neg c24] at H
                  have c24b0 : decide (t234 < 0) = false := decide_eq_false c24
                  clear c24
                  have H' := Aside0.mk H
                  clear H
                  go_wp2
                  repeat (go_quiet (fail); try go_wp2)
                  go_meet
                  case rel => exact ⟨_, (decide (t234 > t233)), (by first | rfl | (simp; done) | (simp [*]; done)), H', ⟨by have := HJ2.out; first | omega | exact Nat.le_refl _⟩, ⟨by (with_reducible repeat (first | apply Kd.V_alloc | apply Kd.V_drewN | apply Kd.V_drew)); exact Kd.V_mono (Kd.V_far (p := ⟨gb246, 2, none⟩) (Kd.V_far (p := ⟨gb246, 1, none⟩) (Kd.V_far (p := ⟨gb246, 0, none⟩) (Kd.V_mono HO241.out (fun k_ hk => (⟨hk, hk.2⟩ : _ ∧ k_ ≠ gb246))) (fun _ hk => hk.2) (.int .i64 t238)) (fun _ hk => hk.2) (.slice Ao20 t239.length co20)) (fun _ hk => hk.2) (.slice Ao21 t242.length co21)) (fun _ hk => hk.1.2)⟩, ⟨by (with_reducible repeat (first | apply Kd.V_alloc | apply Kd.V_drewN | apply Kd.V_drew)); exact Kd.V_mono (Kd.V_far (p := ⟨gb246, 2, none⟩) (Kd.V_far (p := ⟨gb246, 1, none⟩) (Kd.V_far (p := ⟨gb246, 0, none⟩) (Kd.V_mono HO244.out (fun k_ hk => (⟨hk, hk.2⟩ : _ ∧ k_ ≠ gb246))) (fun _ hk => hk.2) (.int .i64 t238)) (fun _ hk => hk.2) (.slice Ao20 t239.length co20)) (fun _ hk => hk.2) (.slice Ao21 t242.length co21)) (fun _ hk => hk.1.2)⟩, ⟨by (with_reducible repeat (first | refine blk_drewN ?_ _ | refine blk_drew ?_ | refine blk_alloc ?_ _)); refine blk_put (cs := #[.int .i64 t238, .slice Ao20 t239.length co20, .slice none 0 0]) ?_ 2 _ rfl; (with_reducible repeat (first | refine blk_drewN ?_ _ | refine blk_drew ?_ | refine blk_alloc ?_ _)); refine blk_put (cs := #[.int .i64 t238, .slice none 0 0, .slice none 0 0]) ?_ 1 _ rfl; (with_reducible repeat (first | refine blk_drewN ?_ _ | refine blk_drew ?_ | refine blk_alloc ?_ _)); refine blk_put (cs := #[.int .i64 0, .slice none 0 0, .slice none 0 0]) ?_ 0 _ rfl; (with_reducible repeat (first | refine blk_drewN ?_ _ | refine blk_drew ?_ | refine blk_alloc ?_ _)); exact BK246.out⟩, ⟨by repeat (first | (with_reducible first | exact HB.out | apply below_alloc | apply pw_below_drewN | apply below_drew1 | refine below_set ?_ GE246.out) | exact HB.out)⟩⟩
            · replace c22 := Bool.eq_false_iff.mpr c22
              subst c22
              have H1 : (laws_FnRopeLeaves.j1 kj2 t233 true t238 t239 t242) = some r := by rw [if_neg (show ¬ (false = true) by decide)] at H; exact H
              clear H
              have H := H1
              clear H1
              have H' := Aside0.mk H
              clear H
              go_wp2
              repeat (go_quiet (fail); try go_wp2)
              go_meet
              case rel => exact ⟨_, (true), (by first | rfl | (simp; done) | (simp [*]; done)), H', ⟨by have := HJ2.out; first | omega | exact Nat.le_refl _⟩, ⟨by (with_reducible repeat (first | apply Kd.V_alloc | apply Kd.V_drewN | apply Kd.V_drew)); exact Kd.V_mono (Kd.V_far (p := ⟨gb246, 2, none⟩) (Kd.V_far (p := ⟨gb246, 1, none⟩) (Kd.V_far (p := ⟨gb246, 0, none⟩) (Kd.V_mono HO241.out (fun k_ hk => (⟨hk, hk.2⟩ : _ ∧ k_ ≠ gb246))) (fun _ hk => hk.2) (.int .i64 t238)) (fun _ hk => hk.2) (.slice Ao20 t239.length co20)) (fun _ hk => hk.2) (.slice Ao21 t242.length co21)) (fun _ hk => hk.1.2)⟩, ⟨by (with_reducible repeat (first | apply Kd.V_alloc | apply Kd.V_drewN | apply Kd.V_drew)); exact Kd.V_mono (Kd.V_far (p := ⟨gb246, 2, none⟩) (Kd.V_far (p := ⟨gb246, 1, none⟩) (Kd.V_far (p := ⟨gb246, 0, none⟩) (Kd.V_mono HO244.out (fun k_ hk => (⟨hk, hk.2⟩ : _ ∧ k_ ≠ gb246))) (fun _ hk => hk.2) (.int .i64 t238)) (fun _ hk => hk.2) (.slice Ao20 t239.length co20)) (fun _ hk => hk.2) (.slice Ao21 t242.length co21)) (fun _ hk => hk.1.2)⟩, ⟨by (with_reducible repeat (first | refine blk_drewN ?_ _ | refine blk_drew ?_ | refine blk_alloc ?_ _)); refine blk_put (cs := #[.int .i64 t238, .slice Ao20 t239.length co20, .slice none 0 0]) ?_ 2 _ rfl; (with_reducible repeat (first | refine blk_drewN ?_ _ | refine blk_drew ?_ | refine blk_alloc ?_ _)); refine blk_put (cs := #[.int .i64 t238, .slice none 0 0, .slice none 0 0]) ?_ 1 _ rfl; (with_reducible repeat (first | refine blk_drewN ?_ _ | refine blk_drew ?_ | refine blk_alloc ?_ _)); refine blk_put (cs := #[.int .i64 0, .slice none 0 0, .slice none 0 0]) ?_ 0 _ rfl; (with_reducible repeat (first | refine blk_drewN ?_ _ | refine blk_drew ?_ | refine blk_alloc ?_ _)); exact BK246.out⟩, ⟨by repeat (first | (with_reducible first | exact HB.out | apply below_alloc | apply pw_below_drewN | apply below_drew1 | refine below_set ?_ GE246.out) | exact HB.out)⟩⟩
          case rest =>
            clear HC12
            try clear c1
            try clear c2
            try clear p2
            try clear c4
            try clear c4b0
            try clear c4b1
            try clear c7
            try clear c9
            try clear c22
            try clear c23
            try clear c23b0
            try clear c24
            try clear c24b0
            try clear hcz19_0
            try clear hcz19_1
            try clear hcz19_2
            try clear hfz19_0
            try clear hfz19_1
            try clear hfz19_2
            try clear p2
            obtain ⟨kq, x56_11, rfl, HA, HJ11, HO_247001, HO_247002, BK246, HB⟩ := hcut
            cases kq with
            | zero => exact absurd HA.out (by simp [laws_FnRopeLeaves.j1])
            | succ kj11 =>
              have H := HA.out
              clear HA
              simp only [laws_FnRopeLeaves.j1] at H
              by_cases c25 : x56_11 = true
              · subst c25
                have H1 : (some false) = some r := by rw [if_pos rfl] at H; exact H
                clear H
                have H := H1
                clear H1
                obtain rfl := Option.some.inj H
                go_wp2
                repeat (go_quiet (fail); try go_wp2)
                go_ret
                exact ⟨by first | rfl | (simp [errW_none, errW_some] <;> rfl) | (simp [*, errW_none, errW_some] <;> rfl), by repeat (first | (with_reducible first | exact HB.out | apply below_alloc | apply pw_below_drewN | apply below_drew1 | refine below_set ?_ GE246.out) | exact HB.out)⟩
              · replace c25 := Bool.eq_false_iff.mpr c25
                subst c25
                have H1 : (laws_FnRopeLeaves.l0 kj11 t233 0 t238 t239 t242) = some r := by rw [if_neg (show ¬ (false = true) by decide)] at H; exact H
                clear H
                have H := H1
                clear H1
                have H' := Aside0.mk H
                clear H
                go_wp2
                repeat (go_quiet (fail); try go_wp2)
                go_loopg [12] kj11 (fun kq v12 w' => ∃ (x12_3 : Int), v12 = .int .i64 x12_3 ∧ Aside0 (laws_FnRopeLeaves.l0 kq t233 x12_3 t238 t239 t242 = some r) ∧ Aside0 (kq ≤ kj11) ∧ Aside0 (Kd.V (Kd.int .i64) 3 w' w.heap.size (fun k_ => k_ ≠ gb246) (.slice Ao20 t239.length co20) t239) ∧ Aside0 (Kd.V (Kd.int .i64) 3 w' w.heap.size (fun k_ => k_ ≠ gb246) (.slice Ao21 t242.length co21) t242) ∧ Aside0 (w'.heap[gb246]? = some (.cells #[.int .i64 t238, (.slice Ao20 t239.length co20), (.slice Ao21 t242.length co21)] 34 (0, 0))) ∧ Aside0 (Below w.heap.size w w'))
                case atStart => exact ⟨(0), (by first | rfl | (simp; done) | (simp [*]; done)), H', ⟨Nat.le_refl _⟩, ⟨by (with_reducible repeat (first | apply Kd.V_alloc | apply Kd.V_drewN | apply Kd.V_drew)); exact HO_247001.out⟩, ⟨by (with_reducible repeat (first | apply Kd.V_alloc | apply Kd.V_drewN | apply Kd.V_drew)); exact HO_247002.out⟩, ⟨by (with_reducible repeat (first | refine blk_drewN ?_ _ | refine blk_drew ?_ | refine blk_alloc ?_ _)); exact BK246.out⟩, ⟨by repeat (first | (with_reducible first | exact HB.out | apply below_alloc | apply pw_below_drewN | apply below_drew1 | refine below_set ?_ GE246.out) | exact HB.out)⟩⟩
                case round =>
                  clear H'
                  try clear c1
                  try clear c2
                  try clear p2
                  try clear c4
                  try clear c4b0
                  try clear c4b1
                  try clear c7
                  try clear c9
                  try clear c22
                  try clear c23
                  try clear c23b0
                  try clear c24
                  try clear c24b0
                  try clear c25
                  try clear hcz19_0
                  try clear hcz19_1
                  try clear hcz19_2
                  try clear hfz19_0
                  try clear hfz19_1
                  try clear hfz19_2
                  try clear p2
                  obtain ⟨x12_3, rfl, HA, HK3, HO_247001, HO_247002, BK246, HB⟩ := hrel
                  cases gk with
                  | zero => exact absurd HA.out (by simp [laws_FnRopeLeaves.l0])
                  | succ k3 =>
                    have H := HA.out
                    clear HA
                    simp only [laws_FnRopeLeaves.l0] at H
                    by_cases c26 : x12_3 < (t242.length : Int)
                    · rw [if_pos c26] at H
                      have c26b0 : decide (x12_3 < (t242.length : Int)) = true := decide_eq_true c26
                      clear c26
                      by_cases c27 : 0 ≤ x12_3
                      · rw [if_pos c27] at H
                        have c27b0 : decide (0 ≤ x12_3) = true := decide_eq_true c27
                        clear c27
                        by_cases c28 : (rd t242 x12_3) < 0
                        · rw [if_pos c28] at H
                          have c28b0 : decide ((rd t242 x12_3) < 0) = true := decide_eq_true c28
                          clear c28
                          obtain rfl := Option.some.inj H
                          have hcz29_0 : wr.cell? ⟨gb246, 0, none⟩ = some (.int .i64 t238) := (blk_cell BK246.out 0).trans rfl
                          have hcz29_1 : wr.cell? ⟨gb246, 1, none⟩ = some (.slice Ao20 t239.length co20) := (blk_cell BK246.out 1).trans rfl
                          have hcz29_2 : wr.cell? ⟨gb246, 2, none⟩ = some (.slice Ao21 t242.length co21) := (blk_cell BK246.out 2).trans rfl
                          have hfz29_0 := blk_frozen BK246.out 0
                          have hfz29_1 := blk_frozen BK246.out 1
                          have hfz29_2 := blk_frozen BK246.out 2
                          have p247 : 0 ≤ (x12_3 : Int) := of_decide_eq_true (by first | (with_reducible assumption) | assumption)
                          have q247 : x12_3 < (t242.length : Int) := of_decide_eq_true (by first | (with_reducible assumption) | assumption)
                          obtain ⟨ad247, e247, hx247_0⟩ := Kd.at_int (Kd.V_reads' HO_247002.out).2.2 x12_3 p247 q247
                          cases e247
                          replace p247 := eq_true p247
                          replace q247 := eq_true q247
                          go_wp2
                          repeat (go_quiet (fail); try go_wp2)
                          go_ret
                          exact ⟨by first | rfl | (simp [errW_none, errW_some] <;> rfl) | (simp [*, errW_none, errW_some] <;> rfl), by repeat (first | (with_reducible first | exact HB.out | apply below_alloc | apply pw_below_drewN | apply below_drew1 | refine below_set ?_ GE246.out) | exact HB.out)⟩
                        · rw [if_neg c28] at H
                          have c28b0 : decide ((rd t242 x12_3) < 0) = false := decide_eq_false c28
                          clear c28
                          by_cases c30 : (rd t242 x12_3) > t233
                          · rw [if_pos c30] at H
                            have c30b0 : decide (t233 < (rd t242 x12_3)) = true := decide_eq_true c30
                            clear c30
                            obtain rfl := Option.some.inj H
                            have hcz31_0 : wr.cell? ⟨gb246, 0, none⟩ = some (.int .i64 t238) := (blk_cell BK246.out 0).trans rfl
                            have hcz31_1 : wr.cell? ⟨gb246, 1, none⟩ = some (.slice Ao20 t239.length co20) := (blk_cell BK246.out 1).trans rfl
                            have hcz31_2 : wr.cell? ⟨gb246, 2, none⟩ = some (.slice Ao21 t242.length co21) := (blk_cell BK246.out 2).trans rfl
                            have hfz31_0 := blk_frozen BK246.out 0
                            have hfz31_1 := blk_frozen BK246.out 1
                            have hfz31_2 := blk_frozen BK246.out 2
                            have p247 : 0 ≤ (x12_3 : Int) := of_decide_eq_true (by first | (with_reducible assumption) | assumption)
                            have q247 : x12_3 < (t242.length : Int) := of_decide_eq_true (by first | (with_reducible assumption) | assumption)
                            obtain ⟨ad247, e247, hx247_0⟩ := Kd.at_int (Kd.V_reads' HO_247002.out).2.2 x12_3 p247 q247
                            cases e247
                            replace p247 := eq_true p247
                            replace q247 := eq_true q247
                            have p248 : 0 ≤ (x12_3 : Int) := of_decide_eq_true (by first | (with_reducible assumption) | assumption)
                            have q248 : x12_3 < (t242.length : Int) := of_decide_eq_true (by first | (with_reducible assumption) | assumption)
                            obtain ⟨ad248, e248, hx248_0⟩ := Kd.at_int (Kd.V_reads' HO_247002.out).2.2 x12_3 p248 q248
                            obtain rfl : ad247 = ad248 := (by injection e248)
                            replace p248 := eq_true p248
                            replace q248 := eq_true q248
                            go_wp2
                            repeat (go_quiet (fail); try go_wp2)
                            go_ret
                            exact ⟨by first | rfl | (simp [errW_none, errW_some] <;> rfl) | (simp [*, errW_none, errW_some] <;> rfl), by repeat (first | (with_reducible first | exact HB.out | apply below_alloc | apply pw_below_drewN | apply below_drew1 | refine below_set ?_ GE246.out) | exact HB.out)⟩
                          · rw [if_neg c30] at H
                            have c30b0 : decide (t233 < (rd t242 x12_3)) = false := decide_eq_false c30
                            clear c30
                            have H' := Aside0.mk H
                            clear H
                            have hcz32_0 : wr.cell? ⟨gb246, 0, none⟩ = some (.int .i64 t238) := (blk_cell BK246.out 0).trans rfl
                            have hcz32_1 : wr.cell? ⟨gb246, 1, none⟩ = some (.slice Ao20 t239.length co20) := (blk_cell BK246.out 1).trans rfl
                            have hcz32_2 : wr.cell? ⟨gb246, 2, none⟩ = some (.slice Ao21 t242.length co21) := (blk_cell BK246.out 2).trans rfl
                            have hfz32_0 := blk_frozen BK246.out 0
                            have hfz32_1 := blk_frozen BK246.out 1
                            have hfz32_2 := blk_frozen BK246.out 2
                            have p247 : 0 ≤ (x12_3 : Int) := of_decide_eq_true (by first | (with_reducible assumption) | assumption)
                            have q247 : x12_3 < (t242.length : Int) := of_decide_eq_true (by first | (with_reducible assumption) | assumption)
                            obtain ⟨ad247, e247, hx247_0⟩ := Kd.at_int (Kd.V_reads' HO_247002.out).2.2 x12_3 p247 q247
                            cases e247
                            replace p247 := eq_true p247
                            replace q247 := eq_true q247
                            have p248 : 0 ≤ (x12_3 : Int) := of_decide_eq_true (by first | (with_reducible assumption) | assumption)
                            have q248 : x12_3 < (t242.length : Int) := of_decide_eq_true (by first | (with_reducible assumption) | assumption)
                            obtain ⟨ad248, e248, hx248_0⟩ := Kd.at_int (Kd.V_reads' HO_247002.out).2.2 x12_3 p248 q248
                            obtain rfl : ad247 = ad248 := (by injection e248)
                            replace p248 := eq_true p248
                            replace q248 := eq_true q248
                            go_wp2
                            repeat (go_quiet (fail); try go_wp2)
                            go_roundg k3
                            case measure => have := HJ2.out; have := HJ11.out; have := HK3.out; omega
                            case rel => exact ⟨(wrap64 (x12_3 + 1)), (by first | rfl | (simp; done) | (simp [*]; done)), H', ⟨by have := HJ2.out; have := HJ11.out; have := HK3.out; omega⟩, ⟨by (with_reducible repeat (first | apply Kd.V_alloc | apply Kd.V_drewN | apply Kd.V_drew)); exact HO_247001.out⟩, ⟨by (with_reducible repeat (first | apply Kd.V_alloc | apply Kd.V_drewN | apply Kd.V_drew)); exact HO_247002.out⟩, ⟨by (with_reducible repeat (first | refine blk_drewN ?_ _ | refine blk_drew ?_ | refine blk_alloc ?_ _)); exact BK246.out⟩, ⟨by repeat (first | (with_reducible first | exact HB.out | apply below_alloc | apply pw_below_drewN | apply below_drew1 | refine below_set ?_ GE246.out) | exact HB.out)⟩⟩
                      · rw [if_neg c27] at H
                        exact absurd H (by simp)
                    · rw [if_neg c26] at H
                      have c26b0 : decide (x12_3 < (t242.length : Int)) = false := decide_eq_false c26
                      clear c26
                      replace H := Option.bind_eq_some_iff.mp H
                      obtain ⟨t249, A330, H⟩ := H
                      replace H : (some (t249 == (t239.length : Int))) = some r := H
                      have A33 := Aside0.mk A330
                      clear A330
                      obtain rfl := Option.some.inj H
                      have hcz34_0 : wr.cell? ⟨gb246, 0, none⟩ = some (.int .i64 t238) := (blk_cell BK246.out 0).trans rfl
                      have hcz34_1 : wr.cell? ⟨gb246, 1, none⟩ = some (.slice Ao20 t239.length co20) := (blk_cell BK246.out 1).trans rfl
                      have hcz34_2 : wr.cell? ⟨gb246, 2, none⟩ = some (.slice Ao21 t242.length co21) := (blk_cell BK246.out 2).trans rfl
                      have hfz34_0 := blk_frozen BK246.out 0
                      have hfz34_1 := blk_frozen BK246.out 1
                      have hfz34_2 := blk_frozen BK246.out 2
                      go_wp2_with (first | (go_at_call 17; (with_reducible refine (spec_Sum.calls k3 _ _ t242 t249 _ ?side1 ?side2 A33.out).mono ?_); (case side1 => repeat (first | exact (Kd.V_reads' HO_247002.out).2.2 | (with_reducible refine Kd.C_alloc ?_ _) | (with_reducible refine Kd.C_drewN ?_ _) | (with_reducible refine Kd.C_drew ?_))); (case side2 => exact (Kd.V_reads' HO_247002.out).2.1); rintro e w' ⟨rfl, ⟨nd, rfl⟩⟩; (try first | exact ⟨rfl, _, World.drewN_drewN _ _ _⟩ | exact ⟨rfl, _, Eq.trans (World.drewN_drewN _ _ _) (congrArg (World.drewN _) (Nat.add_assoc _ _ _))⟩)))
                      repeat (go_quiet (first | (go_at_call 17; (with_reducible refine (spec_Sum.calls k3 _ _ t242 t249 _ ?side1 ?side2 A33.out).mono ?_); (case side1 => repeat (first | exact (Kd.V_reads' HO_247002.out).2.2 | (with_reducible refine Kd.C_alloc ?_ _) | (with_reducible refine Kd.C_drewN ?_ _) | (with_reducible refine Kd.C_drew ?_))); (case side2 => exact (Kd.V_reads' HO_247002.out).2.1); rintro e w' ⟨rfl, ⟨nd, rfl⟩⟩; (try first | exact ⟨rfl, _, World.drewN_drewN _ _ _⟩ | exact ⟨rfl, _, Eq.trans (World.drewN_drewN _ _ _) (congrArg (World.drewN _) (Nat.add_assoc _ _ _))⟩))); try go_wp2_with (first | (go_at_call 17; (with_reducible refine (spec_Sum.calls k3 _ _ t242 t249 _ ?side1 ?side2 A33.out).mono ?_); (case side1 => repeat (first | exact (Kd.V_reads' HO_247002.out).2.2 | (with_reducible refine Kd.C_alloc ?_ _) | (with_reducible refine Kd.C_drewN ?_ _) | (with_reducible refine Kd.C_drew ?_))); (case side2 => exact (Kd.V_reads' HO_247002.out).2.1); rintro e w' ⟨rfl, ⟨nd, rfl⟩⟩; (try first | exact ⟨rfl, _, World.drewN_drewN _ _ _⟩ | exact ⟨rfl, _, Eq.trans (World.drewN_drewN _ _ _) (congrArg (World.drewN _) (Nat.add_assoc _ _ _))⟩))))
                      go_ret
                      exact ⟨by first | rfl | (simp [errW_none, errW_some] <;> rfl) | (simp [*, errW_none, errW_some] <;> rfl), by repeat (first | (with_reducible first | exact HB.out | apply below_alloc | apply pw_below_drewN | apply below_drew1 | refine below_set ?_ GE246.out) | exact HB.out)⟩
        · replace c9 := Bool.eq_false_iff.mpr c9
          subst c9
          have H1 : (some true) = some r := by rw [if_neg (show ¬ (false = true) by decide)] at H; exact H
          clear H
          have H := H1
          clear H1
          obtain rfl := Option.some.inj H
          go_wp2_with (first | (go_at_call 13; (with_reducible refine (spec_Rows.calls kj2 _ _ l0 _ _ l1 t226 t229 false _ ?side1 ?side2 ?side3 ?side4 A8.out).mono ?_); (case side1 => repeat (first | exact (Kd.C_below HR0.out HB.out) | (with_reducible refine Kd.C_alloc ?_ _) | (with_reducible refine Kd.C_drewN ?_ _) | (with_reducible refine Kd.C_drew ?_))); (case side2 => exact HC0.out); (case side3 => repeat (first | exact (Kd.C_below HR1.out HB.out) | (with_reducible refine Kd.C_alloc ?_ _) | (with_reducible refine Kd.C_drewN ?_ _) | (with_reducible refine Kd.C_drew ?_))); (case side4 => exact HC1.out); rintro e w35 ⟨v227, v230, rfl, ho0, ho1, hb⟩; have n0_ := Aside0.mk (Kd.V_lower (Kd.V_mono (ok' := fun k_ => some k_ ≠ (v230 : Value).ownBlock) ho0 (fun k_ hk_ => hk_.2)) (below_size (by repeat (first | (with_reducible first | exact HB.out | apply below_alloc | apply pw_below_drewN | apply below_drew1) | exact HB.out)))); have n1_ := Aside0.mk (Kd.N_lower (Kd.N_mono (ok' := fun k_ => True) ho1 (fun k_ hk_ => trivial)) (below_size (by repeat (first | (with_reducible first | exact HB.out | apply below_alloc | apply pw_below_drewN | apply below_drew1) | exact HB.out)))); have n2_ := Aside0.mk (below_step (by repeat (first | (with_reducible first | exact HB.out | apply below_alloc | apply pw_below_drewN | apply below_drew1) | exact HB.out)) hb); clear HB; have HO228 := n0_; have HO231 := n1_; have HB := n2_; clear n0_ n1_ n2_; (try clear hb); (try clear hb2); (try clear hk); (try clear hi); (try clear ho0); (try clear ho1)))
          repeat (go_quiet (first | (go_at_call 13; (with_reducible refine (spec_Rows.calls kj2 _ _ l0 _ _ l1 t226 t229 false _ ?side1 ?side2 ?side3 ?side4 A8.out).mono ?_); (case side1 => repeat (first | exact (Kd.C_below HR0.out HB.out) | (with_reducible refine Kd.C_alloc ?_ _) | (with_reducible refine Kd.C_drewN ?_ _) | (with_reducible refine Kd.C_drew ?_))); (case side2 => exact HC0.out); (case side3 => repeat (first | exact (Kd.C_below HR1.out HB.out) | (with_reducible refine Kd.C_alloc ?_ _) | (with_reducible refine Kd.C_drewN ?_ _) | (with_reducible refine Kd.C_drew ?_))); (case side4 => exact HC1.out); rintro e w35 ⟨v227, v230, rfl, ho0, ho1, hb⟩; have n0_ := Aside0.mk (Kd.V_lower (Kd.V_mono (ok' := fun k_ => some k_ ≠ (v230 : Value).ownBlock) ho0 (fun k_ hk_ => hk_.2)) (below_size (by repeat (first | (with_reducible first | exact HB.out | apply below_alloc | apply pw_below_drewN | apply below_drew1) | exact HB.out)))); have n1_ := Aside0.mk (Kd.N_lower (Kd.N_mono (ok' := fun k_ => True) ho1 (fun k_ hk_ => trivial)) (below_size (by repeat (first | (with_reducible first | exact HB.out | apply below_alloc | apply pw_below_drewN | apply below_drew1) | exact HB.out)))); have n2_ := Aside0.mk (below_step (by repeat (first | (with_reducible first | exact HB.out | apply below_alloc | apply pw_below_drewN | apply below_drew1) | exact HB.out)) hb); clear HB; have HO228 := n0_; have HO231 := n1_; have HB := n2_; clear n0_ n1_ n2_; (try clear hb); (try clear hb2); (try clear hk); (try clear hi); (try clear ho0); (try clear ho1))); try go_wp2_with (first | (go_at_call 13; (with_reducible refine (spec_Rows.calls kj2 _ _ l0 _ _ l1 t226 t229 false _ ?side1 ?side2 ?side3 ?side4 A8.out).mono ?_); (case side1 => repeat (first | exact (Kd.C_below HR0.out HB.out) | (with_reducible refine Kd.C_alloc ?_ _) | (with_reducible refine Kd.C_drewN ?_ _) | (with_reducible refine Kd.C_drew ?_))); (case side2 => exact HC0.out); (case side3 => repeat (first | exact (Kd.C_below HR1.out HB.out) | (with_reducible refine Kd.C_alloc ?_ _) | (with_reducible refine Kd.C_drewN ?_ _) | (with_reducible refine Kd.C_drew ?_))); (case side4 => exact HC1.out); rintro e w35 ⟨v227, v230, rfl, ho0, ho1, hb⟩; have n0_ := Aside0.mk (Kd.V_lower (Kd.V_mono (ok' := fun k_ => some k_ ≠ (v230 : Value).ownBlock) ho0 (fun k_ hk_ => hk_.2)) (below_size (by repeat (first | (with_reducible first | exact HB.out | apply below_alloc | apply pw_below_drewN | apply below_drew1) | exact HB.out)))); have n1_ := Aside0.mk (Kd.N_lower (Kd.N_mono (ok' := fun k_ => True) ho1 (fun k_ hk_ => trivial)) (below_size (by repeat (first | (with_reducible first | exact HB.out | apply below_alloc | apply pw_below_drewN | apply below_drew1) | exact HB.out)))); have n2_ := Aside0.mk (below_step (by repeat (first | (with_reducible first | exact HB.out | apply below_alloc | apply pw_below_drewN | apply below_drew1) | exact HB.out)) hb); clear HB; have HO228 := n0_; have HO231 := n1_; have HB := n2_; clear n0_ n1_ n2_; (try clear hb); (try clear hb2); (try clear hk); (try clear hi); (try clear ho0); (try clear ho1))))
          go_ret
          exact ⟨by first | rfl | (simp [errW_none, errW_some] <;> rfl) | (simp [*, errW_none, errW_some] <;> rfl), by repeat (first | (with_reducible first | exact HB.out | apply below_alloc | apply pw_below_drewN | apply below_drew1) | exact HB.out)⟩

end Go.Proofs.Ytdlnpmbnedmmnaa.QFnRopeLeaves
