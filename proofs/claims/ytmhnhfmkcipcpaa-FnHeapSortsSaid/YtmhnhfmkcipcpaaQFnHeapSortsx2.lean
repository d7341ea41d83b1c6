/- The machine's side of a law, as the kit's print writes it; of the functions that the print doesn't cover this session's own contracts stand in it: no condition. -/
import Derived.Test.YtmhnhfmkcipcpaaQFnHeapSortsx0
import Derived.Test.YtmhnhfmkcipcpaaQFnHeapSortsx1
namespace Go.Proofs.Ytmhnhfmkcipcpaa.QFnHeapSorts
open Go.RowKit Go.Proofs.YtmhnhfmkcipcpaaW.PrintWords Go.Proofs.YtmhnhfmkcipcpaaW.PrintLast Go.Proofs.YtmhnhfmkcipcpaaW.PrintMore
attribute [local go_sem] max2_int min2_int max_two min_two max_three min_three max_four min_four   -- for this text's walks alone
set_option linter.unusedVariables false
set_option linter.unusedSimpArgs false

/-! ### laws_FnHeapSorts: function 5 -/
mutual
def laws_FnHeapSorts.j0 : Nat → List Int → Int → List Int → Bool → Option (Bool)
  | 0, _, _, _, _ => none
  | k + 1, x0, x1, x2, x17 => if x17 = true then (some true) else ((laws_heapPops.f k (x2.length : Int)).bind fun t125 => ((impl_HeapRun.f x0 x1 x2 t125).bind fun t128 => (if (t128.length : Int) = (wrap64 ((x2.length : Int) + 2)) then (if 0 ≤ (x2.length : Int) then (if (x2.length : Int) < (t128.length : Int) then (if (rd_T34 t128 (x2.length : Int)).f1 = true then (laws_FnHeapSorts.j1 k x0 x2 t128 true) else (if 0 ≤ (wrap64 ((x2.length : Int) + 1)) then (if (wrap64 ((x2.length : Int) + 1)) < (t128.length : Int) then (laws_FnHeapSorts.j1 k x0 x2 t128 ((rd_T34 t128 (wrap64 ((x2.length : Int) + 1))).f1)) else (none)) else (none))) else (none)) else (none)) else (laws_FnHeapSorts.j1 k x0 x2 t128 true))))
def laws_FnHeapSorts.j1 : Nat → List Int → List Int → List (S34) → Bool → Option (Bool)
  | 0, _, _, _, _ => none
  | k + 1, x0, x2, x7, x47 => if x47 = true then (some false) else (laws_FnHeapSorts.l0 k x0 x2 x7 ([] : List Int) 0)
def laws_FnHeapSorts.l0 : Nat → List Int → List Int → List (S34) → List Int → Int → Option (Bool)
  | 0, _, _, _, _, _ => none
  | k + 1, x0, x2, x7, x8, x9 => if x9 < (x2.length : Int) then (if 0 ≤ x9 then (if x9 < (x7.length : Int) then (if ((rd_T34 x7 x9).f1 = true) then (if x9 > 0 then ((spec_Rank.f x0 ((rd_T34 x7 x9).f0)).bind fun t136 => (if 0 ≤ (wrap64 (x9 - 1)) then (if (wrap64 (x9 - 1)) < (x8.length : Int) then ((spec_Rank.f x0 (rd x8 (wrap64 (x9 - 1)))).bind fun t138 => (if t136 < t138 then (some false) else (if x8.length < 17592186044416 then (laws_FnHeapSorts.l0 k x0 x2 x7 (x8 ++ [(rd_T34 x7 x9).f0]) (wrap64 (x9 + 1))) else (none)))) else (none)) else (none))) else (if x8.length < 17592186044416 then (laws_FnHeapSorts.l0 k x0 x2 x7 (x8 ++ [(rd_T34 x7 x9).f0]) (wrap64 (x9 + 1))) else (none))) else (some false)) else (none)) else (none)) else ((spec_BagRows.f k ([] : List Int) x8 x2).bind fun t133 => (some t133))
end
def laws_FnHeapSorts.f (k : Nat) (l0 : List Int) (a1 : Int) (l2 : List Int) : Option (Bool) := if (l0.length : Int) > 2147483647 then (laws_FnHeapSorts.j0 k l0 a1 l2 true) else (laws_FnHeapSorts.j0 k l0 a1 l2 (decide ((l2.length : Int) > 2147483647)))
theorem laws_FnHeapSorts.mono_l : ∀ k, (∀ y0 y1 y2 y3, LeO (laws_FnHeapSorts.j0 k y0 y1 y2 y3) (laws_FnHeapSorts.j0 (k + 1) y0 y1 y2 y3)) ∧ (∀ y0 y1 y2 y3, LeO (laws_FnHeapSorts.j1 k y0 y1 y2 y3) (laws_FnHeapSorts.j1 (k + 1) y0 y1 y2 y3)) ∧ (∀ y0 y1 y2 y3 y4, LeO (laws_FnHeapSorts.l0 k y0 y1 y2 y3 y4) (laws_FnHeapSorts.l0 (k + 1) y0 y1 y2 y3 y4))
  | 0 => ⟨fun _ _ _ _ r h => by simp [laws_FnHeapSorts.j0] at h, fun _ _ _ _ r h => by simp [laws_FnHeapSorts.j1] at h, fun _ _ _ _ _ r h => by simp [laws_FnHeapSorts.l0] at h⟩
  | k + 1 => by
    obtain ⟨ih0, ih1, ih2⟩ := laws_FnHeapSorts.mono_l k
    refine ⟨?_, ?_, ?_⟩
    · intro y0 y1 y2 y3
      unfold laws_FnHeapSorts.j0
      repeat' first
      | (with_reducible exact ih0 _ _ _ _)
      | (with_reducible exact ih1 _ _ _ _)
      | (with_reducible exact ih2 _ _ _ _ _)
      | (with_reducible exact laws_heapPops.mono _ _)
      | (with_reducible exact spec_BagRows.mono _ _ _ _)
      | (with_reducible exact LeO.refl _)
      | (with_reducible exact LeO.none _)
      | (with_reducible refine LeO.ite ?_ ?_)
      | (with_reducible refine LeO.bind ?_ (fun _ => ?_))
      | exact ih0 _ _ _ _
      | exact ih1 _ _ _ _
      | exact ih2 _ _ _ _ _
      | exact laws_heapPops.mono _ _
      | exact spec_BagRows.mono _ _ _ _
      | exact LeO.none _
      | refine LeO.ite ?_ ?_
      | refine LeO.bind ?_ (fun _ => ?_)
    · intro y0 y1 y2 y3
      unfold laws_FnHeapSorts.j1
      repeat' first
      | (with_reducible exact ih0 _ _ _ _)
      | (with_reducible exact ih1 _ _ _ _)
      | (with_reducible exact ih2 _ _ _ _ _)
      | (with_reducible exact laws_heapPops.mono _ _)
      | (with_reducible exact spec_BagRows.mono _ _ _ _)
      | (with_reducible exact LeO.refl _)
      | (with_reducible exact LeO.none _)
      | (with_reducible refine LeO.ite ?_ ?_)
      | (with_reducible refine LeO.bind ?_ (fun _ => ?_))
      | exact ih0 _ _ _ _
      | exact ih1 _ _ _ _
      | exact ih2 _ _ _ _ _
      | exact laws_heapPops.mono _ _
      | exact spec_BagRows.mono _ _ _ _
      | exact LeO.none _
      | refine LeO.ite ?_ ?_
      | refine LeO.bind ?_ (fun _ => ?_)
    · intro y0 y1 y2 y3 y4
      unfold laws_FnHeapSorts.l0
      repeat' first
      | (with_reducible exact ih0 _ _ _ _)
      | (with_reducible exact ih1 _ _ _ _)
      | (with_reducible exact ih2 _ _ _ _ _)
      | (with_reducible exact laws_heapPops.mono _ _)
      | (with_reducible exact spec_BagRows.mono _ _ _ _)
      | (with_reducible exact LeO.refl _)
      | (with_reducible exact LeO.none _)
      | (with_reducible refine LeO.ite ?_ ?_)
      | (with_reducible refine LeO.bind ?_ (fun _ => ?_))
      | exact ih0 _ _ _ _
      | exact ih1 _ _ _ _
      | exact ih2 _ _ _ _ _
      | exact laws_heapPops.mono _ _
      | exact spec_BagRows.mono _ _ _ _
      | exact LeO.none _
      | refine LeO.ite ?_ ?_
      | refine LeO.bind ?_ (fun _ => ?_)
theorem laws_FnHeapSorts.mono : ∀ a0 a1 a2 k, LeO (laws_FnHeapSorts.f k a0 a1 a2) (laws_FnHeapSorts.f (k + 1) a0 a1 a2) := by
  intro a0 a1 a2 k
  obtain ⟨ih0, ih1, ih2⟩ := laws_FnHeapSorts.mono_l k
  unfold laws_FnHeapSorts.f
  repeat' first
      | (with_reducible exact ih0 _ _ _ _)
      | (with_reducible exact ih1 _ _ _ _)
      | (with_reducible exact ih2 _ _ _ _ _)
      | (with_reducible exact laws_heapPops.mono _ _)
      | (with_reducible exact spec_BagRows.mono _ _ _ _)
      | (with_reducible exact LeO.refl _)
      | (with_reducible exact LeO.none _)
      | (with_reducible refine LeO.ite ?_ ?_)
      | (with_reducible refine LeO.bind ?_ (fun _ => ?_))
      | exact ih0 _ _ _ _
      | exact ih1 _ _ _ _
      | exact ih2 _ _ _ _ _
      | exact laws_heapPops.mono _ _
      | exact spec_BagRows.mono _ _ _ _
      | exact LeO.none _
      | refine LeO.ite ?_ ?_
      | refine LeO.bind ?_ (fun _ => ?_)
set_option maxHeartbeats 8000000 in
set_option maxRecDepth 100000 in
theorem laws_FnHeapSorts.calls (k : Nat) (A0 : Option Addr) (c0 : Nat) (l0 : List Int) (a1 : Int) (A2 : Option Addr) (c2 : Nat) (l2 : List Int) (r : Bool) (w : World) (hr0 : Kd.C (Kd.int .i64) w A0 l0.length l0) (hc0 : l0.length ≤ c0) (hr2 : Kd.C (Kd.int .i64) w A2 l2.length l2) (hc2 : l2.length ≤ c2) (h : laws_FnHeapSorts.f k l0 a1 l2 = some r) :
    Calls Try.prog 5 #[.slice A0 l0.length c0, .int .i64 a1, .slice A2 l2.length c2] w fun e w' => e = .returned (.bool r) ∧ Below w.heap.size w w' := by
  have HR0 := Aside0.mk hr0
  have HC0 := Aside0.mk hc0
  clear hr0 hc0
  have HR2 := Aside0.mk hr2
  have HC2 := Aside0.mk hc2
  clear hr2 hc2
  have HB := Aside0.mk (Below.refl w.heap.size w)
  have H : (if (l0.length : Int) > 2147483647 then (laws_FnHeapSorts.j0 k l0 a1 l2 true) else (laws_FnHeapSorts.j0 k l0 a1 l2 (decide ((l2.length : Int) > 2147483647)))) = some r := h
  clear h
  have HC4 := Aside0.mk H
  clear H
  go_enter Try.func5, Try.ntmps5
  go_upto_region 1 with (fail)
  repeat (go_quiet (fail); go_upto_region 1 with (fail))
  go_cut [17] (fun v17 wc => ∃ (kq : Nat) (x17_3 : Bool), v17 = .bool x17_3 ∧ Aside0 (laws_FnHeapSorts.j0 kq l0 a1 l2 x17_3 = some r) ∧ Aside0 (kq ≤ k) ∧ Aside0 (Below w.heap.size w wc))
  case first =>
    have H := HC4.out
    clear HC4
    by_cases c5 : (l0.length : Int) > 2147483647
    · rw [if_pos c5] at H
      have c5b0 : decide (2147483647 < (l0.length : Int)) = true := decide_eq_true c5
      have c5b1 : decide (2147483647 < l0.length) = true := decide_eq_true (by omega)
      clear c5
      (first | rw [c5b0] | (simp only [i64_w, i32_w]; rw [c5b0]) | skip)
      have H' := Aside0.mk H
      clear H
      go_wp2
      repeat (go_quiet (fail); try go_wp2)
      go_meet
      case rel => exact ⟨_, (true), (by first | rfl | (simp; done) | (simp [*]; done)), H', ⟨by first | omega | exact Nat.le_refl _⟩, ⟨by repeat (first | (with_reducible first | exact HB.out | apply below_alloc | apply pw_below_drewN | apply below_drew1) | exact HB.out)⟩⟩
    · rw [if_neg c5] at H
      have c5b0 : decide (2147483647 < (l0.length : Int)) = false := decide_eq_false c5
      have c5b1 : decide (2147483647 < l0.length) = false := decide_eq_false (by omega)
      clear c5
      (first | rw [c5b0] | (simp only [i64_w, i32_w]; rw [c5b0]) | skip)
      have H' := Aside0.mk H
      clear H
      go_wp2
      repeat (go_quiet (fail); try go_wp2)
      go_meet
      case rel => exact ⟨_, (decide ((l2.length : Int) > 2147483647)), (by first | rfl | (simp; done) | (simp [*]; done)), H', ⟨by first | omega | exact Nat.le_refl _⟩, ⟨by repeat (first | (with_reducible first | exact HB.out | apply below_alloc | apply pw_below_drewN | apply below_drew1) | exact HB.out)⟩⟩
  case rest =>
    clear HC4
    try clear c2
    try clear p2
    try clear c5
    try clear c5b0
    try clear c5b1
    obtain ⟨kq, x17_3, rfl, HA, HJ3, HB⟩ := hcut
    cases kq with
    | zero => exact absurd HA.out (by simp [laws_FnHeapSorts.j0])
    | succ kj3 =>
      have H := HA.out
      clear HA
      simp only [laws_FnHeapSorts.j0] at H
      by_cases c6 : x17_3 = true
      · subst c6
        have H1 : (some true) = some r := by rw [if_pos rfl] at H; exact H
        clear H
        have H := H1
        clear H1
        obtain rfl := Option.some.inj H
        go_wp2
        repeat (go_quiet (fail); try go_wp2)
        go_ret
        exact ⟨by first | rfl | (simp [errW_none, errW_some] <;> rfl) | (simp [*, errW_none, errW_some] <;> rfl), by repeat (first | (with_reducible first | exact HB.out | apply below_alloc | apply pw_below_drewN | apply below_drew1) | exact HB.out)⟩
      · replace c6 := Bool.eq_false_iff.mpr c6
        subst c6
        have H1 : ((laws_heapPops.f kj3 (l2.length : Int)).bind fun t125 => ((impl_HeapRun.f l0 a1 l2 t125).bind fun t128 => (if (t128.length : Int) = (wrap64 ((l2.length : Int) + 2)) then (if 0 ≤ (l2.length : Int) then (if (l2.length : Int) < (t128.length : Int) then (if (rd_T34 t128 (l2.length : Int)).f1 = true then (laws_FnHeapSorts.j1 kj3 l0 l2 t128 true) else (if 0 ≤ (wrap64 ((l2.length : Int) + 1)) then (if (wrap64 ((l2.length : Int) + 1)) < (t128.length : Int) then (laws_FnHeapSorts.j1 kj3 l0 l2 t128 ((rd_T34 t128 (wrap64 ((l2.length : Int) + 1))).f1)) else (none)) else (none))) else (none)) else (none)) else (laws_FnHeapSorts.j1 kj3 l0 l2 t128 true)))) = some r := by rw [if_neg (show ¬ (false = true) by decide)] at H; exact H
        clear H
        have H := H1
        clear H1
        replace H := Option.bind_eq_some_iff.mp H
        obtain ⟨t125, A70, H⟩ := H
        replace H : ((impl_HeapRun.f l0 a1 l2 t125).bind fun t128 => (if (t128.length : Int) = (wrap64 ((l2.length : Int) + 2)) then (if 0 ≤ (l2.length : Int) then (if (l2.length : Int) < (t128.length : Int) then (if (rd_T34 t128 (l2.length : Int)).f1 = true then (laws_FnHeapSorts.j1 kj3 l0 l2 t128 true) else (if 0 ≤ (wrap64 ((l2.length : Int) + 1)) then (if (wrap64 ((l2.length : Int) + 1)) < (t128.length : Int) then (laws_FnHeapSorts.j1 kj3 l0 l2 t128 ((rd_T34 t128 (wrap64 ((l2.length : Int) + 1))).f1)) else (none)) else (none))) else (none)) else (none)) else (laws_FnHeapSorts.j1 kj3 l0 l2 t128 true))) = some r := H
        have A7 := Aside0.mk A70
        clear A70
        replace H := Option.bind_eq_some_iff.mp H
        obtain ⟨t128, A80, H⟩ := H
        replace H : (if (t128.length : Int) = (wrap64 ((l2.length : Int) + 2)) then (if 0 ≤ (l2.length : Int) then (if (l2.length : Int) < (t128.length : Int) then (if (rd_T34 t128 (l2.length : Int)).f1 = true then (laws_FnHeapSorts.j1 kj3 l0 l2 t128 true) else (if 0 ≤ (wrap64 ((l2.length : Int) + 1)) then (if (wrap64 ((l2.length : Int) + 1)) < (t128.length : Int) then (laws_FnHeapSorts.j1 kj3 l0 l2 t128 ((rd_T34 t128 (wrap64 ((l2.length : Int) + 1))).f1)) else (none)) else (none))) else (none)) else (none)) else (laws_FnHeapSorts.j1 kj3 l0 l2 t128 true)) = some r := H
        have A8 := Aside0.mk A80
        clear A80
        have HC9 := Aside0.mk H
        clear H
        go_upto_region 4 with (first | (go_at_call 18; (with_reducible refine (laws_heapPops.calls kj3 (l2.length : Int) t125 _ A7.out).mono ?_); rintro e w10 ⟨v126, rfl, ho0, hb⟩; have n0_ := Aside0.mk (Kd.R_lower ho0 (below_size (by repeat (first | (with_reducible first | exact HB.out | apply below_alloc | apply pw_below_drewN | apply below_drew1) | exact HB.out)))); have n1_ := Aside0.mk (below_step (by repeat (first | (with_reducible first | exact HB.out | apply below_alloc | apply pw_below_drewN | apply below_drew1) | exact HB.out)) hb); clear HB; have HO127 := n0_; have HB := n1_; clear n0_ n1_; (try clear hb); (try clear hb2); (try clear hk); (try clear hi); (try clear ho0); obtain ⟨Ao11, co11, eo11⟩ := Kd.R_slice HO127.out; subst eo11) | (go_at_call 17; (with_reducible refine (impl_HeapRun.calls _ _ l0 a1 _ _ l2 _ _ t125 t128 _ ?side1 ?side2 ?side3 ?side4 ?side5 ?side6 A8.out).mono ?_); (case side1 => repeat (first | exact (Kd.C_below HR0.out HB.out) | (with_reducible refine Kd.C_alloc ?_ _) | (with_reducible refine Kd.C_drewN ?_ _) | (with_reducible refine Kd.C_drew ?_))); (case side2 => exact HC0.out); (case side3 => repeat (first | exact (Kd.C_below HR2.out HB.out) | (with_reducible refine Kd.C_alloc ?_ _) | (with_reducible refine Kd.C_drewN ?_ _) | (with_reducible refine Kd.C_drew ?_))); (case side4 => exact HC2.out); (case side5 => repeat (first | exact (Kd.R_reads' HO127.out).2.2 | (with_reducible refine Kd.C_alloc ?_ _) | (with_reducible refine Kd.C_drewN ?_ _) | (with_reducible refine Kd.C_drew ?_))); (case side6 => exact (Kd.R_reads' HO127.out).2.1); rintro e w12 ⟨v129, rfl, ho0, hb⟩; have n0_ := Aside0.mk (Kd.R_below (by (with_reducible repeat (first | apply Kd.R_alloc | apply Kd.R_drewN | apply Kd.R_drew)); exact HO127.out) hb); have n1_ := Aside0.mk (Kd.S_lower ho0 (below_size (by repeat (first | (with_reducible first | exact HB.out | apply below_alloc | apply pw_below_drewN | apply below_drew1) | exact HB.out)))); have n2_ := Aside0.mk (below_step (by repeat (first | (with_reducible first | exact HB.out | apply below_alloc | apply pw_below_drewN | apply below_drew1) | exact HB.out)) hb); clear HO127; clear HB; have HO127 := n0_; have HO130 := n1_; have HB := n2_; clear n0_ n1_ n2_; (try clear hb); (try clear hb2); (try clear hk); (try clear hi); (try clear ho0)))
        repeat (go_quiet (first | (go_at_call 18; (with_reducible refine (laws_heapPops.calls kj3 (l2.length : Int) t125 _ A7.out).mono ?_); rintro e w10 ⟨v126, rfl, ho0, hb⟩; have n0_ := Aside0.mk (Kd.R_lower ho0 (below_size (by repeat (first | (with_reducible first | exact HB.out | apply below_alloc | apply pw_below_drewN | apply below_drew1) | exact HB.out)))); have n1_ := Aside0.mk (below_step (by repeat (first | (with_reducible first | exact HB.out | apply below_alloc | apply pw_below_drewN | apply below_drew1) | exact HB.out)) hb); clear HB; have HO127 := n0_; have HB := n1_; clear n0_ n1_; (try clear hb); (try clear hb2); (try clear hk); (try clear hi); (try clear ho0); obtain ⟨Ao11, co11, eo11⟩ := Kd.R_slice HO127.out; subst eo11) | (go_at_call 17; (with_reducible refine (impl_HeapRun.calls _ _ l0 a1 _ _ l2 _ _ t125 t128 _ ?side1 ?side2 ?side3 ?side4 ?side5 ?side6 A8.out).mono ?_); (case side1 => repeat (first | exact (Kd.C_below HR0.out HB.out) | (with_reducible refine Kd.C_alloc ?_ _) | (with_reducible refine Kd.C_drewN ?_ _) | (with_reducible refine Kd.C_drew ?_))); (case side2 => exact HC0.out); (case side3 => repeat (first | exact (Kd.C_below HR2.out HB.out) | (with_reducible refine Kd.C_alloc ?_ _) | (with_reducible refine Kd.C_drewN ?_ _) | (with_reducible refine Kd.C_drew ?_))); (case side4 => exact HC2.out); (case side5 => repeat (first | exact (Kd.R_reads' HO127.out).2.2 | (with_reducible refine Kd.C_alloc ?_ _) | (with_reducible refine Kd.C_drewN ?_ _) | (with_reducible refine Kd.C_drew ?_))); (case side6 => exact (Kd.R_reads' HO127.out).2.1); rintro e w12 ⟨v129, rfl, ho0, hb⟩; have n0_ := Aside0.mk (Kd.R_below (by (with_reducible repeat (first | apply Kd.R_alloc | apply Kd.R_drewN | apply Kd.R_drew)); exact HO127.out) hb); have n1_ := Aside0.mk (Kd.S_lower ho0 (below_size (by repeat (first | (with_reducible first | exact HB.out | apply below_alloc | apply pw_below_drewN | apply below_drew1) | exact HB.out)))); have n2_ := Aside0.mk (below_step (by repeat (first | (with_reducible first | exact HB.out | apply below_alloc | apply pw_below_drewN | apply below_drew1) | exact HB.out)) hb); clear HO127; clear HB; have HO127 := n0_; have HO130 := n1_; have HB := n2_; clear n0_ n1_ n2_; (try clear hb); (try clear hb2); (try clear hk); (try clear hi); (try clear ho0))); go_upto_region 4 with (first | (go_at_call 18; (with_reducible refine (laws_heapPops.calls kj3 (l2.length : Int) t125 _ A7.out).mono ?_); rintro e w10 ⟨v126, rfl, ho0, hb⟩; have n0_ := Aside0.mk (Kd.R_lower ho0 (below_size (by repeat (first | (with_reducible first | exact HB.out | apply below_alloc | apply pw_below_drewN | apply below_drew1) | exact HB.out)))); have n1_ := Aside0.mk (below_step (by repeat (first | (with_reducible first | exact HB.out | apply below_alloc | apply pw_below_drewN | apply below_drew1) | exact HB.out)) hb); clear HB; have HO127 := n0_; have HB := n1_; clear n0_ n1_; (try clear hb); (try clear hb2); (try clear hk); (try clear hi); (try clear ho0); obtain ⟨Ao11, co11, eo11⟩ := Kd.R_slice HO127.out; subst eo11) | (go_at_call 17; (with_reducible refine (impl_HeapRun.calls _ _ l0 a1 _ _ l2 _ _ t125 t128 _ ?side1 ?side2 ?side3 ?side4 ?side5 ?side6 A8.out).mono ?_); (case side1 => repeat (first | exact (Kd.C_below HR0.out HB.out) | (with_reducible refine Kd.C_alloc ?_ _) | (with_reducible refine Kd.C_drewN ?_ _) | (with_reducible refine Kd.C_drew ?_))); (case side2 => exact HC0.out); (case side3 => repeat (first | exact (Kd.C_below HR2.out HB.out) | (with_reducible refine Kd.C_alloc ?_ _) | (with_reducible refine Kd.C_drewN ?_ _) | (with_reducible refine Kd.C_drew ?_))); (case side4 => exact HC2.out); (case side5 => repeat (first | exact (Kd.R_reads' HO127.out).2.2 | (with_reducible refine Kd.C_alloc ?_ _) | (with_reducible refine Kd.C_drewN ?_ _) | (with_reducible refine Kd.C_drew ?_))); (case side6 => exact (Kd.R_reads' HO127.out).2.1); rintro e w12 ⟨v129, rfl, ho0, hb⟩; have n0_ := Aside0.mk (Kd.R_below (by (with_reducible repeat (first | apply Kd.R_alloc | apply Kd.R_drewN | apply Kd.R_drew)); exact HO127.out) hb); have n1_ := Aside0.mk (Kd.S_lower ho0 (below_size (by repeat (first | (with_reducible first | exact HB.out | apply below_alloc | apply pw_below_drewN | apply below_drew1) | exact HB.out)))); have n2_ := Aside0.mk (below_step (by repeat (first | (with_reducible first | exact HB.out | apply below_alloc | apply pw_below_drewN | apply below_drew1) | exact HB.out)) hb); clear HO127; clear HB; have HO127 := n0_; have HO130 := n1_; have HB := n2_; clear n0_ n1_ n2_; (try clear hb); (try clear hb2); (try clear hk); (try clear hi); (try clear ho0))))
        (try simp only [Act.put, List.setIfInBounds_toArray, List.set_cons_zero, List.set_cons_succ])
        go_cut [47] (fun v47 wc => ∃ (kq : Nat) (x47_8 : Bool), v47 = .bool x47_8 ∧ Aside0 (laws_FnHeapSorts.j1 kq l0 l2 t128 x47_8 = some r) ∧ Aside0 (kq ≤ kj3) ∧ Aside0 (Kd.S k34 34 wc w.heap.size (fun _ => True) v129 t128) ∧ Aside0 (Below w.heap.size w wc))
        case first =>
          have H := HC9.out
          clear HC9
          by_cases c13 : (t128.length : Int) = (wrap64 ((l2.length : Int) + 2))
          · rw [if_pos c13] at H
            have c13b0 : ((t128.length : Int) == (wrap64 ((l2.length : Int) + 2))) = true := beq_iff_eq.mpr c13
            have c13b1 : ((t128.length : Int) != (wrap64 ((l2.length : Int) + 2))) = false := bne_eq_false_iff_eq.mpr c13
            clear c13
            (first | rw [c13b0] | (simp only [i64_w, i32_w]; rw [c13b0]) | skip)
            by_cases c14 : 0 ≤ (l2.length : Int)
            · rw [if_pos c14] at H
              have c14b0 : decide (0 ≤ (l2.length : Int)) = true := decide_eq_true c14
              have c14b1 : decide (0 ≤ l2.length) = true := decide_eq_true (by omega)
              clear c14
              by_cases c15 : (l2.length : Int) < (t128.length : Int)
              · rw [if_pos c15] at H
                have c15b0 : decide ((l2.length : Int) < (t128.length : Int)) = true := decide_eq_true c15
                have c15b1 : decide (l2.length < t128.length) = true := decide_eq_true (Int.ofNat_lt.mp c15)
                clear c15
                obtain ⟨bq16, hbq16⟩ : ∃ b_ : Bool, b_ = ((rd_T34 t128 (l2.length : Int)).f1) := ⟨_, rfl⟩
                replace H : (if bq16 = true then (laws_FnHeapSorts.j1 kj3 l0 l2 t128 true) else (if 0 ≤ (wrap64 ((l2.length : Int) + 1)) then (if (wrap64 ((l2.length : Int) + 1)) < (t128.length : Int) then (laws_FnHeapSorts.j1 kj3 l0 l2 t128 ((rd_T34 t128 (wrap64 ((l2.length : Int) + 1))).f1)) else (none)) else (none))) = some r := by rw [← hbq16] at H; exact H
                have Nbq16 := Aside0.mk hbq16
                clear hbq16
                by_cases c17 : bq16 = true
                · subst c17
                  have H1 : (laws_FnHeapSorts.j1 kj3 l0 l2 t128 true) = some r := by rw [if_pos rfl] at H; exact H
                  clear H
                  have H := H1
                  clear H1
                  have H' := Aside0.mk H
                  clear H
                  obtain ⟨Ao18, co18, eo18⟩ := Kd.S_slice HO130.out
                  subst eo18
                  have p131 : 0 ≤ ((l2.length : Int) : Int) := of_decide_eq_true (by first | (with_reducible assumption) | assumption)
                  have q131 : (l2.length : Int) < (t128.length : Int) := of_decide_eq_true (by first | (with_reducible assumption) | assumption)
                  obtain ⟨ad131, A131_2, c131_2, A131_3, c131_3, e131, hx131_0, hx131_1, hx131_2, hx131_3, hl131_2, hi131_2, hl131_3, hi131_3⟩ := at_T34 (Kd.S_reads' HO130.out).2.2 (l2.length : Int) p131 q131
                  (try rw [← Nbq16.out] at hx131_1)
                  cases e131
                  obtain ⟨ce131, hce131, hMe131, hcc131⟩ := Kd.S_get HO130.out z34 (l2.length : Int) p131 (by first | exact q131 | exact of_decide_eq_true (by first | (with_reducible assumption) | assumption) | (have e_ := (Kd.S_reads' HO130.out).1; omega))
                  obtain ⟨ve131_2, ve131_3, rfl, ge131_2, ge131_3⟩ := k34_openM hMe131
                  have hv131_2 := hcc131 2 _ rfl
                  rw [add_field _ _ 2 (by omega)] at hv131_2
                  replace hv131_2 := Option.some.inj (hv131_2.symm.trans hx131_2)
                  rw [hv131_2] at ge131_2
                  have HL131_2 := Aside0.mk (show Kd.R (Kd.int .i64) 3 _ _ _ _ ((rd_T34 t128 (l2.length : Int)).f2) from ge131_2)
                  clear hv131_2 ge131_2
                  have hv131_3 := hcc131 3 _ rfl
                  rw [add_field _ _ 3 (by omega)] at hv131_3
                  replace hv131_3 := Option.some.inj (hv131_3.symm.trans hx131_3)
                  rw [hv131_3] at ge131_3
                  have HL131_3 := Aside0.mk (show Kd.R (Kd.int .i64) 3 _ _ _ _ ((rd_T34 t128 (l2.length : Int)).f3) from ge131_3)
                  clear hv131_3 ge131_3
                  clear hcc131 hce131
                  have HR131_2 := Aside0.mk hi131_2
                  have HC131_2 := Aside0.mk hl131_2
                  clear hi131_2 hl131_2
                  have HR131_3 := Aside0.mk hi131_3
                  have HC131_3 := Aside0.mk hl131_3
                  clear hi131_3 hl131_3
                  (try simp only [Go.IntWalk.toNatUp] at hx131_0)
                  (try simp only [Go.IntWalk.toNatUp] at hx131_1)
                  (try simp only [Go.IntWalk.toNatUp] at hx131_2)
                  (try simp only [Go.IntWalk.toNatUp] at hx131_3)
                  replace p131 := eq_true p131
                  replace q131 := eq_true q131
                  go_wp2
                  repeat (go_quiet (fail); try go_wp2)
                  go_meet
                  case rel => exact ⟨_, (true), (by first | rfl | (simp; done) | (simp [*]; done)), H', ⟨by have := HJ3.out; first | omega | exact Nat.le_refl _⟩, ⟨by (with_reducible repeat (first | apply Kd.S_alloc | apply Kd.S_drewN | apply Kd.S_drew)); exact HO130.out⟩, ⟨by repeat (first | (with_reducible first | exact HB.out | apply below_alloc | apply pw_below_drewN | apply below_drew1) | exact HB.out)⟩⟩
                · replace c17 := Bool.eq_false_iff.mpr c17
                  subst c17
                  have H1 : (if 0 ≤ (wrap64 ((l2.length : Int) + 1)) then (if (wrap64 ((l2.length : Int) + 1)) < (t128.length : Int) then (laws_FnHeapSorts.j1 kj3 l0 l2 t128 ((rd_T34 t128 (wrap64 ((l2.length : Int) + 1))).f1)) else (none)) else (none)) = some r := by rw [if_neg (show ¬ (false = true) by decide)] at H; exact H
                  clear H
                  have H := H1
                  clear H1
                  obtain ⟨ji19, hji19⟩ : ∃ j_ : Int, (wrap64 ((l2.length : Int) + 1)) = j_ := ⟨_, rfl⟩
                  replace H : (if 0 ≤ (ji19) then (if (ji19) < (t128.length : Int) then (laws_FnHeapSorts.j1 kj3 l0 l2 t128 ((rd_T34 t128 (ji19)).f1)) else (none)) else (none)) = some r := by first | (rw [hji19] at H; exact H) | (simp only [hji19] at H ⊢; exact H)
                  have hji19w : (IntKind.i64.wrap ((l2.length : Int) + 1)) = ji19 := (i64_w _).trans hji19
                  by_cases c20 : 0 ≤ (ji19)
                  · rw [if_pos c20] at H
                    have c20b0 : decide (0 ≤ (ji19)) = true := decide_eq_true c20
                    clear c20
                    by_cases c21 : (ji19) < (t128.length : Int)
                    · rw [if_pos c21] at H
                      have c21b0 : decide ((ji19) < (t128.length : Int)) = true := decide_eq_true c21
                      clear c21
                      have H' := Aside0.mk H
                      clear H
                      obtain ⟨Ao22, co22, eo22⟩ := Kd.S_slice HO130.out
                      subst eo22
                      have p131 : 0 ≤ ((l2.length : Int) : Int) := of_decide_eq_true (by first | (with_reducible assumption) | assumption)
                      have q131 : (l2.length : Int) < (t128.length : Int) := of_decide_eq_true (by first | (with_reducible assumption) | assumption)
                      obtain ⟨ad131, A131_2, c131_2, A131_3, c131_3, e131, hx131_0, hx131_1, hx131_2, hx131_3, hl131_2, hi131_2, hl131_3, hi131_3⟩ := at_T34 (Kd.S_reads' HO130.out).2.2 (l2.length : Int) p131 q131
                      (try rw [← Nbq16.out] at hx131_1)
                      cases e131
                      obtain ⟨ce131, hce131, hMe131, hcc131⟩ := Kd.S_get HO130.out z34 (l2.length : Int) p131 (by first | exact q131 | exact of_decide_eq_true (by first | (with_reducible assumption) | assumption) | (have e_ := (Kd.S_reads' HO130.out).1; omega))
                      obtain ⟨ve131_2, ve131_3, rfl, ge131_2, ge131_3⟩ := k34_openM hMe131
                      have hv131_2 := hcc131 2 _ rfl
                      rw [add_field _ _ 2 (by omega)] at hv131_2
                      replace hv131_2 := Option.some.inj (hv131_2.symm.trans hx131_2)
                      rw [hv131_2] at ge131_2
                      have HL131_2 := Aside0.mk (show Kd.R (Kd.int .i64) 3 _ _ _ _ ((rd_T34 t128 (l2.length : Int)).f2) from ge131_2)
                      clear hv131_2 ge131_2
                      have hv131_3 := hcc131 3 _ rfl
                      rw [add_field _ _ 3 (by omega)] at hv131_3
                      replace hv131_3 := Option.some.inj (hv131_3.symm.trans hx131_3)
                      rw [hv131_3] at ge131_3
                      have HL131_3 := Aside0.mk (show Kd.R (Kd.int .i64) 3 _ _ _ _ ((rd_T34 t128 (l2.length : Int)).f3) from ge131_3)
                      clear hv131_3 ge131_3
                      clear hcc131 hce131
                      have HR131_2 := Aside0.mk hi131_2
                      have HC131_2 := Aside0.mk hl131_2
                      clear hi131_2 hl131_2
                      have HR131_3 := Aside0.mk hi131_3
                      have HC131_3 := Aside0.mk hl131_3
                      clear hi131_3 hl131_3
                      (try simp only [Go.IntWalk.toNatUp] at hx131_0)
                      (try simp only [Go.IntWalk.toNatUp] at hx131_1)
                      (try simp only [Go.IntWalk.toNatUp] at hx131_2)
                      (try simp only [Go.IntWalk.toNatUp] at hx131_3)
                      replace p131 := eq_true p131
                      replace q131 := eq_true q131
                      have p132 : 0 ≤ ((ji19) : Int) := of_decide_eq_true (by first | (with_reducible assumption) | assumption)
                      have q132 : (ji19) < (t128.length : Int) := of_decide_eq_true (by first | (with_reducible assumption) | assumption)
                      obtain ⟨ad132, A132_2, c132_2, A132_3, c132_3, e132, hx132_0, hx132_1, hx132_2, hx132_3, hl132_2, hi132_2, hl132_3, hi132_3⟩ := at_T34 (Kd.S_reads' HO130.out).2.2 (ji19) p132 q132
                      (try rw [← Nbq16.out] at hx132_1)
                      obtain rfl : ad131 = ad132 := (by injection e132)
                      obtain ⟨ce132, hce132, hMe132, hcc132⟩ := Kd.S_get HO130.out z34 (ji19) p132 (by first | exact q132 | exact of_decide_eq_true (by first | (with_reducible assumption) | assumption) | (have e_ := (Kd.S_reads' HO130.out).1; omega))
                      obtain ⟨ve132_2, ve132_3, rfl, ge132_2, ge132_3⟩ := k34_openM hMe132
                      have hv132_2 := hcc132 2 _ rfl
                      rw [add_field _ _ 2 (by omega)] at hv132_2
                      replace hv132_2 := Option.some.inj (hv132_2.symm.trans hx132_2)
                      rw [hv132_2] at ge132_2
                      have HL132_2 := Aside0.mk (show Kd.R (Kd.int .i64) 3 _ _ _ _ ((rd_T34 t128 (ji19)).f2) from ge132_2)
                      clear hv132_2 ge132_2
                      have hv132_3 := hcc132 3 _ rfl
                      rw [add_field _ _ 3 (by omega)] at hv132_3
                      replace hv132_3 := Option.some.inj (hv132_3.symm.trans hx132_3)
                      rw [hv132_3] at ge132_3
                      have HL132_3 := Aside0.mk (show Kd.R (Kd.int .i64) 3 _ _ _ _ ((rd_T34 t128 (ji19)).f3) from ge132_3)
                      clear hv132_3 ge132_3
                      clear hcc132 hce132
                      have HR132_2 := Aside0.mk hi132_2
                      have HC132_2 := Aside0.mk hl132_2
                      clear hi132_2 hl132_2
                      have HR132_3 := Aside0.mk hi132_3
                      have HC132_3 := Aside0.mk hl132_3
                      clear hi132_3 hl132_3
                      replace p132 := eq_true p132
                      replace q132 := eq_true q132
                      go_wp2
                      repeat (go_quiet (fail); try go_wp2)
                      go_meet
                      case rel => exact ⟨_, ((rd_T34 t128 (ji19)).f1), (by first | rfl | (simp; done) | (simp only [← hji19] <;> (first | rfl | simp)) | (simp [*]; done)), H', ⟨by have := HJ3.out; first | omega | exact Nat.le_refl _⟩, ⟨by (with_reducible repeat (first | apply Kd.S_alloc | apply Kd.S_drewN | apply Kd.S_drew)); exact HO130.out⟩, ⟨by repeat (first | (with_reducible first | exact HB.out | apply below_alloc | apply pw_below_drewN | apply below_drew1) | exact HB.out)⟩⟩
                    · rw [if_neg c21] at H
                      exact absurd H (by simp)
                  · rw [if_neg c20] at H
                    exact absurd H (by simp)
              · rw [if_neg c15] at H
                exact absurd H (by simp)
            · rw [if_neg c14] at H
              exact absurd H (by simp)
          · rw [if_neg c13] at H
            have c13b0 : ((t128.length : Int) == (wrap64 ((l2.length : Int) + 2))) = false := beq_eq_false_iff_ne.mpr c13
            have c13b1 : ((t128.length : Int) != (wrap64 ((l2.length : Int) + 2))) = true := bne_iff_ne.mpr c13
            (first | rw [c13b0] | (simp only [i64_w, i32_w]; rw [c13b0]) | skip)
            have H' := Aside0.mk H
            clear H
            obtain ⟨Ao23, co23, eo23⟩ := Kd.S_slice HO130.out
            subst eo23
            go_wp2
            repeat (go_quiet (fail); try go_wp2)
            go_meet
            case rel => exact ⟨_, (true), (by first | rfl | (simp; done) | (simp [*]; done)), H', ⟨by have := HJ3.out; first | omega | exact Nat.le_refl _⟩, ⟨by (with_reducible repeat (first | apply Kd.S_alloc | apply Kd.S_drewN | apply Kd.S_drew)); exact HO130.out⟩, ⟨by repeat (first | (with_reducible first | exact HB.out | apply below_alloc | apply pw_below_drewN | apply below_drew1) | exact HB.out)⟩⟩
        case rest =>
          clear HC9
          try clear c1
          try clear p1
          try clear q1
          try clear hx1
          try clear c2
          try clear p2
          try clear c5
          try clear c5b0
          try clear c5b1
          try clear c6
          try clear p6
          try clear c13
          try clear c13b0
          try clear c13b1
          try clear p13
          try clear q13
          try clear hx13
          try clear c14
          try clear c14b0
          try clear c14b1
          try clear c15
          try clear c15b0
          try clear c15b1
          try clear q16
          try clear c17
          try clear c20
          try clear c20b0
          try clear c21
          try clear c21b0
          try clear hx131_0
          try clear hx131_1
          try clear hx131_2
          try clear hx131_3
          try clear hx132_0
          try clear hx132_1
          try clear hx132_2
          try clear hx132_3
          try clear p131
          try clear p132
          try clear p2
          try clear q131
          try clear q132
          obtain ⟨kq, x47_8, rfl, HA, HJ8, HO_7, HB⟩ := hcut
          cases kq with
          | zero => exact absurd HA.out (by simp [laws_FnHeapSorts.j1])
          | succ kj8 =>
            have H := HA.out
            clear HA
            simp only [laws_FnHeapSorts.j1] at H
            by_cases c24 : x47_8 = true
            · subst c24
              have H1 : (some false) = some r := by rw [if_pos rfl] at H; exact H
              clear H
              have H := H1
              clear H1
              obtain rfl := Option.some.inj H
              go_wp2
              repeat (go_quiet (fail); try go_wp2)
              go_ret
              exact ⟨by first | rfl | (simp [errW_none, errW_some] <;> rfl) | (simp [*, errW_none, errW_some] <;> rfl), by repeat (first | (with_reducible first | exact HB.out | apply below_alloc | apply pw_below_drewN | apply below_drew1) | exact HB.out)⟩
            · replace c24 := Bool.eq_false_iff.mpr c24
              subst c24
              have H1 : (laws_FnHeapSorts.l0 kj8 l0 l2 t128 ([] : List Int) 0) = some r := by rw [if_neg (show ¬ (false = true) by decide)] at H; exact H
              clear H
              have H := H1
              clear H1
              have H' := Aside0.mk H
              clear H
              go_wp2
              repeat (go_quiet (fail); try go_wp2)
              go_loopg [8, 9] kj8 (fun kq v8 v9 w' => ∃ (x8_3 : List Int) (x9_3 : Int), v9 = .int .i64 x9_3 ∧ Aside0 (laws_FnHeapSorts.l0 kq l0 l2 t128 x8_3 x9_3 = some r) ∧ Aside0 (kq ≤ kj8) ∧ Aside0 (Kd.S k34 34 w' w.heap.size (fun k_ => some k_ ≠ (v8 : Value).ownBlock) v129 t128) ∧ Aside0 (Kd.R (Kd.int .i64) 3 w' w.heap.size (fun _ => True) v8 x8_3) ∧ Aside0 (Below w.heap.size w w'))
              case atStart => exact ⟨(([] : List Int)), (0), (by first | rfl | (simp; done) | (simp [*]; done)), H', ⟨Nat.le_refl _⟩, ⟨by (with_reducible repeat (first | apply Kd.S_alloc | apply Kd.S_drewN | apply Kd.S_drew)); exact Kd.S_mono HO_7.out (fun _ hk => (by simp [Value.ownBlock]))⟩, ⟨by first | exact Kd.R_nil _ _ _ _ _ | exact Kd.N_nil _ _ _ _ _ | exact Kd.V_nil _ _ _ _ _ | exact Kd.Q_nil _ _ _ _ _ | exact Kd.S_nil _ _ _ _ _⟩, ⟨by repeat (first | (with_reducible first | exact HB.out | apply below_alloc | apply pw_below_drewN | apply below_drew1) | exact HB.out)⟩⟩
              case round =>
                clear H'
                try clear c1
                try clear p1
                try clear q1
                try clear hx1
                try clear c2
                try clear p2
                try clear c5
                try clear c5b0
                try clear c5b1
                try clear c6
                try clear p6
                try clear c13
                try clear c13b0
                try clear c13b1
                try clear p13
                try clear q13
                try clear hx13
                try clear c14
                try clear c14b0
                try clear c14b1
                try clear c15
                try clear c15b0
                try clear c15b1
                try clear q16
                try clear c17
                try clear c20
                try clear c20b0
                try clear c21
                try clear c21b0
                try clear c24
                try clear hx131_0
                try clear hx131_1
                try clear hx131_2
                try clear hx131_3
                try clear hx132_0
                try clear hx132_1
                try clear hx132_2
                try clear hx132_3
                try clear p1
                try clear p13
                try clear p131
                try clear p132
                try clear p2
                try clear p6
                try clear q1
                try clear q13
                try clear q131
                try clear q132
                try clear q16
                obtain ⟨x8_3, x9_3, rfl, HA, HK3, HO_7, HO_8, HB⟩ := hrel
                cases gk with
                | zero => exact absurd HA.out (by simp [laws_FnHeapSorts.l0])
                | succ k3 =>
                  have H := HA.out
                  clear HA
                  simp only [laws_FnHeapSorts.l0] at H
                  by_cases c25 : x9_3 < (l2.length : Int)
                  · rw [if_pos c25] at H
                    have c25b0 : decide (x9_3 < (l2.length : Int)) = true := decide_eq_true c25
                    clear c25
                    by_cases c26 : 0 ≤ x9_3
                    · rw [if_pos c26] at H
                      have c26b0 : decide (0 ≤ x9_3) = true := decide_eq_true c26
                      clear c26
                      by_cases c27 : x9_3 < (t128.length : Int)
                      · rw [if_pos c27] at H
                        have c27b0 : decide (x9_3 < (t128.length : Int)) = true := decide_eq_true c27
                        clear c27
                        obtain ⟨bq28, hbq28⟩ : ∃ b_ : Bool, b_ = ((rd_T34 t128 x9_3).f1) := ⟨_, rfl⟩
                        replace H : (if (bq28 = true) then (if x9_3 > 0 then ((spec_Rank.f l0 ((rd_T34 t128 x9_3).f0)).bind fun t136 => (if 0 ≤ (wrap64 (x9_3 - 1)) then (if (wrap64 (x9_3 - 1)) < (x8_3.length : Int) then ((spec_Rank.f l0 (rd x8_3 (wrap64 (x9_3 - 1)))).bind fun t138 => (if t136 < t138 then (some false) else (if x8_3.length < 17592186044416 then (laws_FnHeapSorts.l0 k3 l0 l2 t128 (x8_3 ++ [(rd_T34 t128 x9_3).f0]) (wrap64 (x9_3 + 1))) else (none)))) else (none)) else (none))) else (if x8_3.length < 17592186044416 then (laws_FnHeapSorts.l0 k3 l0 l2 t128 (x8_3 ++ [(rd_T34 t128 x9_3).f0]) (wrap64 (x9_3 + 1))) else (none))) else (some false)) = some r := by rw [← hbq28] at H; exact H
                        have Nbq28 := Aside0.mk hbq28
                        clear hbq28
                        by_cases c29 : (bq28 = true)
                        · subst c29
                          have H1 : (if x9_3 > 0 then ((spec_Rank.f l0 ((rd_T34 t128 x9_3).f0)).bind fun t136 => (if 0 ≤ (wrap64 (x9_3 - 1)) then (if (wrap64 (x9_3 - 1)) < (x8_3.length : Int) then ((spec_Rank.f l0 (rd x8_3 (wrap64 (x9_3 - 1)))).bind fun t138 => (if t136 < t138 then (some false) else (if x8_3.length < 17592186044416 then (laws_FnHeapSorts.l0 k3 l0 l2 t128 (x8_3 ++ [(rd_T34 t128 x9_3).f0]) (wrap64 (x9_3 + 1))) else (none)))) else (none)) else (none))) else (if x8_3.length < 17592186044416 then (laws_FnHeapSorts.l0 k3 l0 l2 t128 (x8_3 ++ [(rd_T34 t128 x9_3).f0]) (wrap64 (x9_3 + 1))) else (none))) = some r := by rw [if_pos rfl] at H; exact H
                          clear H
                          have H := H1
                          clear H1
                          by_cases c30 : x9_3 > 0
                          · rw [if_pos c30] at H
                            have c30b0 : decide (0 < x9_3) = true := decide_eq_true c30
                            clear c30
                            replace H := Option.bind_eq_some_iff.mp H
                            obtain ⟨t136, A310, H⟩ := H
                            replace H : (if 0 ≤ (wrap64 (x9_3 - 1)) then (if (wrap64 (x9_3 - 1)) < (x8_3.length : Int) then ((spec_Rank.f l0 (rd x8_3 (wrap64 (x9_3 - 1)))).bind fun t138 => (if t136 < t138 then (some false) else (if x8_3.length < 17592186044416 then (laws_FnHeapSorts.l0 k3 l0 l2 t128 (x8_3 ++ [(rd_T34 t128 x9_3).f0]) (wrap64 (x9_3 + 1))) else (none)))) else (none)) else (none)) = some r := H
                            have A31 := Aside0.mk A310
                            clear A310
                            obtain ⟨ji32, hji32⟩ : ∃ j_ : Int, (wrap64 (x9_3 - 1)) = j_ := ⟨_, rfl⟩
                            replace H : (if 0 ≤ (ji32) then (if (ji32) < (x8_3.length : Int) then ((spec_Rank.f l0 (rd x8_3 (ji32))).bind fun t138 => (if t136 < t138 then (some false) else (if x8_3.length < 17592186044416 then (laws_FnHeapSorts.l0 k3 l0 l2 t128 (x8_3 ++ [(rd_T34 t128 x9_3).f0]) (wrap64 (x9_3 + 1))) else (none)))) else (none)) else (none)) = some r := by first | (rw [hji32] at H; exact H) | (simp only [hji32] at H ⊢; exact H)
                            (try rw [hji32] at A31)
                            have hji32w : (IntKind.i64.wrap (x9_3 - 1)) = ji32 := (i64_w _).trans hji32
                            by_cases c33 : 0 ≤ (ji32)
                            · rw [if_pos c33] at H
                              have c33b0 : decide (0 ≤ (ji32)) = true := decide_eq_true c33
                              clear c33
                              by_cases c34 : (ji32) < (x8_3.length : Int)
                              · rw [if_pos c34] at H
                                have c34b0 : decide ((ji32) < (x8_3.length : Int)) = true := decide_eq_true c34
                                clear c34
                                replace H := Option.bind_eq_some_iff.mp H
                                obtain ⟨t138, A350, H⟩ := H
                                replace H : (if t136 < t138 then (some false) else (if x8_3.length < 17592186044416 then (laws_FnHeapSorts.l0 k3 l0 l2 t128 (x8_3 ++ [(rd_T34 t128 x9_3).f0]) (wrap64 (x9_3 + 1))) else (none))) = some r := H
                                have A35 := Aside0.mk A350
                                clear A350
                                by_cases c36 : t136 < t138
                                · rw [if_pos c36] at H
                                  have c36b0 : decide (t136 < t138) = true := decide_eq_true c36
                                  clear c36
                                  obtain rfl := Option.some.inj H
                                  obtain ⟨Ao37, co37, eo37⟩ := Kd.S_slice HO_7.out
                                  subst eo37
                                  have p134 : 0 ≤ (x9_3 : Int) := of_decide_eq_true (by first | (with_reducible assumption) | assumption)
                                  have q134 : x9_3 < (t128.length : Int) := of_decide_eq_true (by first | (with_reducible assumption) | assumption)
                                  obtain ⟨ad134, A134_2, c134_2, A134_3, c134_3, e134, hx134_0, hx134_1, hx134_2, hx134_3, hl134_2, hi134_2, hl134_3, hi134_3⟩ := at_T34 (Kd.S_reads' HO_7.out).2.2 x9_3 p134 q134
                                  (try rw [← Nbq28.out] at hx134_1)
                                  cases e134
                                  obtain ⟨ce134, hce134, hMe134, hcc134⟩ := Kd.S_get HO_7.out z34 x9_3 p134 (by first | exact q134 | exact of_decide_eq_true (by first | (with_reducible assumption) | assumption) | (have e_ := (Kd.S_reads' HO_7.out).1; omega))
                                  obtain ⟨ve134_2, ve134_3, rfl, ge134_2, ge134_3⟩ := k34_openM hMe134
                                  have hv134_2 := hcc134 2 _ rfl
                                  rw [add_field _ _ 2 (by omega)] at hv134_2
                                  replace hv134_2 := Option.some.inj (hv134_2.symm.trans hx134_2)
                                  rw [hv134_2] at ge134_2
                                  have HL134_2 := Aside0.mk (show Kd.R (Kd.int .i64) 3 _ _ _ _ ((rd_T34 t128 x9_3).f2) from ge134_2)
                                  clear hv134_2 ge134_2
                                  have hv134_3 := hcc134 3 _ rfl
                                  rw [add_field _ _ 3 (by omega)] at hv134_3
                                  replace hv134_3 := Option.some.inj (hv134_3.symm.trans hx134_3)
                                  rw [hv134_3] at ge134_3
                                  have HL134_3 := Aside0.mk (show Kd.R (Kd.int .i64) 3 _ _ _ _ ((rd_T34 t128 x9_3).f3) from ge134_3)
                                  clear hv134_3 ge134_3
                                  clear hcc134 hce134
                                  have HR134_2 := Aside0.mk hi134_2
                                  have HC134_2 := Aside0.mk hl134_2
                                  clear hi134_2 hl134_2
                                  have HR134_3 := Aside0.mk hi134_3
                                  have HC134_3 := Aside0.mk hl134_3
                                  clear hi134_3 hl134_3
                                  replace p134 := eq_true p134
                                  replace q134 := eq_true q134
                                  have p135 : 0 ≤ (x9_3 : Int) := of_decide_eq_true (by first | (with_reducible assumption) | assumption)
                                  have q135 : x9_3 < (t128.length : Int) := of_decide_eq_true (by first | (with_reducible assumption) | assumption)
                                  obtain ⟨ad135, A135_2, c135_2, A135_3, c135_3, e135, hx135_0, hx135_1, hx135_2, hx135_3, hl135_2, hi135_2, hl135_3, hi135_3⟩ := at_T34 (Kd.S_reads' HO_7.out).2.2 x9_3 p135 q135
                                  (try rw [← Nbq28.out] at hx135_1)
                                  obtain rfl : ad134 = ad135 := (by injection e135)
                                  obtain ⟨ce135, hce135, hMe135, hcc135⟩ := Kd.S_get HO_7.out z34 x9_3 p135 (by first | exact q135 | exact of_decide_eq_true (by first | (with_reducible assumption) | assumption) | (have e_ := (Kd.S_reads' HO_7.out).1; omega))
                                  obtain ⟨ve135_2, ve135_3, rfl, ge135_2, ge135_3⟩ := k34_openM hMe135
                                  have hv135_2 := hcc135 2 _ rfl
                                  rw [add_field _ _ 2 (by omega)] at hv135_2
                                  replace hv135_2 := Option.some.inj (hv135_2.symm.trans hx135_2)
                                  rw [hv135_2] at ge135_2
                                  have HL135_2 := Aside0.mk (show Kd.R (Kd.int .i64) 3 _ _ _ _ ((rd_T34 t128 x9_3).f2) from ge135_2)
                                  clear hv135_2 ge135_2
                                  have hv135_3 := hcc135 3 _ rfl
                                  rw [add_field _ _ 3 (by omega)] at hv135_3
                                  replace hv135_3 := Option.some.inj (hv135_3.symm.trans hx135_3)
                                  rw [hv135_3] at ge135_3
                                  have HL135_3 := Aside0.mk (show Kd.R (Kd.int .i64) 3 _ _ _ _ ((rd_T34 t128 x9_3).f3) from ge135_3)
                                  clear hv135_3 ge135_3
                                  clear hcc135 hce135
                                  have HR135_2 := Aside0.mk hi135_2
                                  have HC135_2 := Aside0.mk hl135_2
                                  clear hi135_2 hl135_2
                                  have HR135_3 := Aside0.mk hi135_3
                                  have HC135_3 := Aside0.mk hl135_3
                                  clear hi135_3 hl135_3
                                  replace p135 := eq_true p135
                                  replace q135 := eq_true q135
                                  have ea_ := Option.some.inj (hx134_2.symm.trans hx135_2)
                                  injection ea_ with ea_ en_ ec_
                                  subst ea_
                                  subst ec_
                                  clear en_
                                  have ea_ := Option.some.inj (hx134_3.symm.trans hx135_3)
                                  injection ea_ with ea_ en_ ec_
                                  subst ea_
                                  subst ec_
                                  clear en_
                                  go_wp2_with (first | (go_at_call 19; (with_reducible refine (spec_Rank.calls _ _ l0 ((rd_T34 t128 x9_3).f0) t136 _ ?side1 ?side2 A31.out).mono ?_); (case side1 => repeat (first | exact (Kd.C_below HR0.out HB.out) | (with_reducible refine Kd.C_alloc ?_ _) | (with_reducible refine Kd.C_drewN ?_ _) | (with_reducible refine Kd.C_drew ?_))); (case side2 => exact HC0.out); rintro e w' ⟨rfl, ⟨nd, rfl⟩⟩; (try first | exact ⟨rfl, _, World.drewN_drewN _ _ _⟩ | exact ⟨rfl, _, Eq.trans (World.drewN_drewN _ _ _) (congrArg (World.drewN _) (Nat.add_assoc _ _ _))⟩); obtain ⟨Ao38, co38, eo38⟩ := Kd.R_slice HO_8.out; subst eo38; have p137 : 0 ≤ ((ji32) : Int) := of_decide_eq_true (by first | (with_reducible assumption) | assumption); have q137 : (ji32) < (x8_3.length : Int) := of_decide_eq_true (by first | (with_reducible assumption) | assumption); obtain ⟨ad137, e137, hx137_0⟩ := Kd.at_int (Kd.R_reads' HO_8.out).2.2 (ji32) p137 q137; cases e137; replace p137 := eq_true p137; replace q137 := eq_true q137) | (go_at_call 19; (with_reducible refine (spec_Rank.calls _ _ l0 (rd x8_3 (ji32)) t138 _ ?side1 ?side2 A35.out).mono ?_); (case side1 => repeat (first | exact (Kd.C_below HR0.out (by repeat (first | (with_reducible first | exact HB.out | apply below_alloc | apply pw_below_drewN | apply below_drew1) | exact HB.out))) | (with_reducible refine Kd.C_alloc ?_ _) | (with_reducible refine Kd.C_drewN ?_ _) | (with_reducible refine Kd.C_drew ?_))); (case side2 => exact HC0.out); rintro e w' ⟨rfl, ⟨nd, rfl⟩⟩; (try first | exact ⟨rfl, _, World.drewN_drewN _ _ _⟩ | exact ⟨rfl, _, Eq.trans (World.drewN_drewN _ _ _) (congrArg (World.drewN _) (Nat.add_assoc _ _ _))⟩)))
                                  repeat (go_quiet (first | (go_at_call 19; (with_reducible refine (spec_Rank.calls _ _ l0 ((rd_T34 t128 x9_3).f0) t136 _ ?side1 ?side2 A31.out).mono ?_); (case side1 => repeat (first | exact (Kd.C_below HR0.out HB.out) | (with_reducible refine Kd.C_alloc ?_ _) | (with_reducible refine Kd.C_drewN ?_ _) | (with_reducible refine Kd.C_drew ?_))); (case side2 => exact HC0.out); rintro e w' ⟨rfl, ⟨nd, rfl⟩⟩; (try first | exact ⟨rfl, _, World.drewN_drewN _ _ _⟩ | exact ⟨rfl, _, Eq.trans (World.drewN_drewN _ _ _) (congrArg (World.drewN _) (Nat.add_assoc _ _ _))⟩); obtain ⟨Ao38, co38, eo38⟩ := Kd.R_slice HO_8.out; subst eo38; have p137 : 0 ≤ ((ji32) : Int) := of_decide_eq_true (by first | (with_reducible assumption) | assumption); have q137 : (ji32) < (x8_3.length : Int) := of_decide_eq_true (by first | (with_reducible assumption) | assumption); obtain ⟨ad137, e137, hx137_0⟩ := Kd.at_int (Kd.R_reads' HO_8.out).2.2 (ji32) p137 q137; cases e137; replace p137 := eq_true p137; replace q137 := eq_true q137) | (go_at_call 19; (with_reducible refine (spec_Rank.calls _ _ l0 (rd x8_3 (ji32)) t138 _ ?side1 ?side2 A35.out).mono ?_); (case side1 => repeat (first | exact (Kd.C_below HR0.out (by repeat (first | (with_reducible first | exact HB.out | apply below_alloc | apply pw_below_drewN | apply below_drew1) | exact HB.out))) | (with_reducible refine Kd.C_alloc ?_ _) | (with_reducible refine Kd.C_drewN ?_ _) | (with_reducible refine Kd.C_drew ?_))); (case side2 => exact HC0.out); rintro e w' ⟨rfl, ⟨nd, rfl⟩⟩; (try first | exact ⟨rfl, _, World.drewN_drewN _ _ _⟩ | exact ⟨rfl, _, Eq.trans (World.drewN_drewN _ _ _) (congrArg (World.drewN _) (Nat.add_assoc _ _ _))⟩))); try go_wp2_with (first | (go_at_call 19; (with_reducible refine (spec_Rank.calls _ _ l0 ((rd_T34 t128 x9_3).f0) t136 _ ?side1 ?side2 A31.out).mono ?_); (case side1 => repeat (first | exact (Kd.C_below HR0.out HB.out) | (with_reducible refine Kd.C_alloc ?_ _) | (with_reducible refine Kd.C_drewN ?_ _) | (with_reducible refine Kd.C_drew ?_))); (case side2 => exact HC0.out); rintro e w' ⟨rfl, ⟨nd, rfl⟩⟩; (try first | exact ⟨rfl, _, World.drewN_drewN _ _ _⟩ | exact ⟨rfl, _, Eq.trans (World.drewN_drewN _ _ _) (congrArg (World.drewN _) (Nat.add_assoc _ _ _))⟩); obtain ⟨Ao38, co38, eo38⟩ := Kd.R_slice HO_8.out; subst eo38; have p137 : 0 ≤ ((ji32) : Int) := of_decide_eq_true (by first | (with_reducible assumption) | assumption); have q137 : (ji32) < (x8_3.length : Int) := of_decide_eq_true (by first | (with_reducible assumption) | assumption); obtain ⟨ad137, e137, hx137_0⟩ := Kd.at_int (Kd.R_reads' HO_8.out).2.2 (ji32) p137 q137; cases e137; replace p137 := eq_true p137; replace q137 := eq_true q137) | (go_at_call 19; (with_reducible refine (spec_Rank.calls _ _ l0 (rd x8_3 (ji32)) t138 _ ?side1 ?side2 A35.out).mono ?_); (case side1 => repeat (first | exact (Kd.C_below HR0.out (by repeat (first | (with_reducible first | exact HB.out | apply below_alloc | apply pw_below_drewN | apply below_drew1) | exact HB.out))) | (with_reducible refine Kd.C_alloc ?_ _) | (with_reducible refine Kd.C_drewN ?_ _) | (with_reducible refine Kd.C_drew ?_))); (case side2 => exact HC0.out); rintro e w' ⟨rfl, ⟨nd, rfl⟩⟩; (try first | exact ⟨rfl, _, World.drewN_drewN _ _ _⟩ | exact ⟨rfl, _, Eq.trans (World.drewN_drewN _ _ _) (congrArg (World.drewN _) (Nat.add_assoc _ _ _))⟩))))
                                  go_ret
                                  exact ⟨by first | rfl | (simp [errW_none, errW_some] <;> rfl) | (simp only [← hji32]; first | rfl | (simp [errW_none, errW_some] <;> rfl)) | (simp [*, errW_none, errW_some] <;> rfl), by repeat (first | (with_reducible first | exact HB.out | apply below_alloc | apply pw_below_drewN | apply below_drew1) | exact HB.out)⟩
                                · rw [if_neg c36] at H
                                  have c36b0 : decide (t136 < t138) = false := decide_eq_false c36
                                  clear c36
                                  by_cases c39 : x8_3.length < 17592186044416
                                  · rw [if_pos c39] at H
                                    have LMc39 := Aside0.mk c39
                                    clear c39
                                    obtain ⟨y140, hy140⟩ : ∃ y_ : List Int, y_ = (x8_3 ++ [(rd_T34 t128 x9_3).f0]) := ⟨_, rfl⟩
                                    replace H : (laws_FnHeapSorts.l0 k3 l0 l2 t128 y140 (wrap64 (x9_3 + 1))) = some r := by first | (rw [hy140]; with_reducible exact H) | (have H2_ := (Option.bind_some _ _).symm.trans H; rw [hy140]; with_reducible exact H2_) | (have H2_ := (Option.bind_some _ _).symm.trans H; with_reducible exact H2_) | with_reducible exact H | (rw [hy140]; exact H) | exact H
                                    have Ny140 := Aside0.mk hy140
                                    clear hy140
                                    have H' := Aside0.mk H
                                    clear H
                                    obtain ⟨Ao40, co40, eo40⟩ := Kd.S_slice HO_7.out
                                    subst eo40
                                    have p134 : 0 ≤ (x9_3 : Int) := of_decide_eq_true (by first | (with_reducible assumption) | assumption)
                                    have q134 : x9_3 < (t128.length : Int) := of_decide_eq_true (by first | (with_reducible assumption) | assumption)
                                    obtain ⟨ad134, A134_2, c134_2, A134_3, c134_3, e134, hx134_0, hx134_1, hx134_2, hx134_3, hl134_2, hi134_2, hl134_3, hi134_3⟩ := at_T34 (Kd.S_reads' HO_7.out).2.2 x9_3 p134 q134
                                    (try rw [← Nbq28.out] at hx134_1)
                                    cases e134
                                    obtain ⟨ce134, hce134, hMe134, hcc134⟩ := Kd.S_get HO_7.out z34 x9_3 p134 (by first | exact q134 | exact of_decide_eq_true (by first | (with_reducible assumption) | assumption) | (have e_ := (Kd.S_reads' HO_7.out).1; omega))
                                    obtain ⟨ve134_2, ve134_3, rfl, ge134_2, ge134_3⟩ := k34_openM hMe134
                                    have hv134_2 := hcc134 2 _ rfl
                                    rw [add_field _ _ 2 (by omega)] at hv134_2
                                    replace hv134_2 := Option.some.inj (hv134_2.symm.trans hx134_2)
                                    rw [hv134_2] at ge134_2
                                    have HL134_2 := Aside0.mk (show Kd.R (Kd.int .i64) 3 _ _ _ _ ((rd_T34 t128 x9_3).f2) from ge134_2)
                                    clear hv134_2 ge134_2
                                    have hv134_3 := hcc134 3 _ rfl
                                    rw [add_field _ _ 3 (by omega)] at hv134_3
                                    replace hv134_3 := Option.some.inj (hv134_3.symm.trans hx134_3)
                                    rw [hv134_3] at ge134_3
                                    have HL134_3 := Aside0.mk (show Kd.R (Kd.int .i64) 3 _ _ _ _ ((rd_T34 t128 x9_3).f3) from ge134_3)
                                    clear hv134_3 ge134_3
                                    clear hcc134 hce134
                                    have HR134_2 := Aside0.mk hi134_2
                                    have HC134_2 := Aside0.mk hl134_2
                                    clear hi134_2 hl134_2
                                    have HR134_3 := Aside0.mk hi134_3
                                    have HC134_3 := Aside0.mk hl134_3
                                    clear hi134_3 hl134_3
                                    replace p134 := eq_true p134
                                    replace q134 := eq_true q134
                                    have p135 : 0 ≤ (x9_3 : Int) := of_decide_eq_true (by first | (with_reducible assumption) | assumption)
                                    have q135 : x9_3 < (t128.length : Int) := of_decide_eq_true (by first | (with_reducible assumption) | assumption)
                                    obtain ⟨ad135, A135_2, c135_2, A135_3, c135_3, e135, hx135_0, hx135_1, hx135_2, hx135_3, hl135_2, hi135_2, hl135_3, hi135_3⟩ := at_T34 (Kd.S_reads' HO_7.out).2.2 x9_3 p135 q135
                                    (try rw [← Nbq28.out] at hx135_1)
                                    obtain rfl : ad134 = ad135 := (by injection e135)
                                    obtain ⟨ce135, hce135, hMe135, hcc135⟩ := Kd.S_get HO_7.out z34 x9_3 p135 (by first | exact q135 | exact of_decide_eq_true (by first | (with_reducible assumption) | assumption) | (have e_ := (Kd.S_reads' HO_7.out).1; omega))
                                    obtain ⟨ve135_2, ve135_3, rfl, ge135_2, ge135_3⟩ := k34_openM hMe135
                                    have hv135_2 := hcc135 2 _ rfl
                                    rw [add_field _ _ 2 (by omega)] at hv135_2
                                    replace hv135_2 := Option.some.inj (hv135_2.symm.trans hx135_2)
                                    rw [hv135_2] at ge135_2
                                    have HL135_2 := Aside0.mk (show Kd.R (Kd.int .i64) 3 _ _ _ _ ((rd_T34 t128 x9_3).f2) from ge135_2)
                                    clear hv135_2 ge135_2
                                    have hv135_3 := hcc135 3 _ rfl
                                    rw [add_field _ _ 3 (by omega)] at hv135_3
                                    replace hv135_3 := Option.some.inj (hv135_3.symm.trans hx135_3)
                                    rw [hv135_3] at ge135_3
                                    have HL135_3 := Aside0.mk (show Kd.R (Kd.int .i64) 3 _ _ _ _ ((rd_T34 t128 x9_3).f3) from ge135_3)
                                    clear hv135_3 ge135_3
                                    clear hcc135 hce135
                                    have HR135_2 := Aside0.mk hi135_2
                                    have HC135_2 := Aside0.mk hl135_2
                                    clear hi135_2 hl135_2
                                    have HR135_3 := Aside0.mk hi135_3
                                    have HC135_3 := Aside0.mk hl135_3
                                    clear hi135_3 hl135_3
                                    replace p135 := eq_true p135
                                    replace q135 := eq_true q135
                                    have ea_ := Option.some.inj (hx134_2.symm.trans hx135_2)
                                    injection ea_ with ea_ en_ ec_
                                    subst ea_
                                    subst ec_
                                    clear en_
                                    have ea_ := Option.some.inj (hx134_3.symm.trans hx135_3)
                                    injection ea_ with ea_ en_ ec_
                                    subst ea_
                                    subst ec_
                                    clear en_
                                    go_wp2_with (first | (go_at_call 19; (with_reducible refine (spec_Rank.calls _ _ l0 ((rd_T34 t128 x9_3).f0) t136 _ ?side1 ?side2 A31.out).mono ?_); (case side1 => repeat (first | exact (Kd.C_below HR0.out HB.out) | (with_reducible refine Kd.C_alloc ?_ _) | (with_reducible refine Kd.C_drewN ?_ _) | (with_reducible refine Kd.C_drew ?_))); (case side2 => exact HC0.out); rintro e w' ⟨rfl, ⟨nd, rfl⟩⟩; (try first | exact ⟨rfl, _, World.drewN_drewN _ _ _⟩ | exact ⟨rfl, _, Eq.trans (World.drewN_drewN _ _ _) (congrArg (World.drewN _) (Nat.add_assoc _ _ _))⟩); obtain ⟨Ao41, co41, eo41⟩ := Kd.R_slice HO_8.out; subst eo41; have p137 : 0 ≤ ((ji32) : Int) := of_decide_eq_true (by first | (with_reducible assumption) | assumption); have q137 : (ji32) < (x8_3.length : Int) := of_decide_eq_true (by first | (with_reducible assumption) | assumption); obtain ⟨ad137, e137, hx137_0⟩ := Kd.at_int (Kd.R_reads' HO_8.out).2.2 (ji32) p137 q137; cases e137; replace p137 := eq_true p137; replace q137 := eq_true q137) | (go_at_call 19; (with_reducible refine (spec_Rank.calls _ _ l0 (rd x8_3 (ji32)) t138 _ ?side1 ?side2 A35.out).mono ?_); (case side1 => repeat (first | exact (Kd.C_below HR0.out (by repeat (first | (with_reducible first | exact HB.out | apply below_alloc | apply pw_below_drewN | apply below_drew1) | exact HB.out))) | (with_reducible refine Kd.C_alloc ?_ _) | (with_reducible refine Kd.C_drewN ?_ _) | (with_reducible refine Kd.C_drew ?_))); (case side2 => exact HC0.out); rintro e w' ⟨rfl, ⟨nd, rfl⟩⟩; (try first | exact ⟨rfl, _, World.drewN_drewN _ _ _⟩ | exact ⟨rfl, _, Eq.trans (World.drewN_drewN _ _ _) (congrArg (World.drewN _) (Nat.add_assoc _ _ _))⟩); have p139 : 0 ≤ (x9_3 : Int) := of_decide_eq_true (by first | (with_reducible assumption) | assumption); have q139 : x9_3 < (t128.length : Int) := of_decide_eq_true (by first | (with_reducible assumption) | assumption); obtain ⟨ad139, A139_2, c139_2, A139_3, c139_3, e139, hx139_0, hx139_1, hx139_2, hx139_3, hl139_2, hi139_2, hl139_3, hi139_3⟩ := at_T34 (Kd.S_reads' HO_7.out).2.2 x9_3 p139 q139; (try rw [← Nbq28.out] at hx139_1); obtain rfl : ad134 = ad139 := (by injection e139); obtain ⟨ce139, hce139, hMe139, hcc139⟩ := Kd.S_get HO_7.out z34 x9_3 p139 (by first | exact q139 | exact of_decide_eq_true (by first | (with_reducible assumption) | assumption) | (have e_ := (Kd.S_reads' HO_7.out).1; omega)); obtain ⟨ve139_2, ve139_3, rfl, ge139_2, ge139_3⟩ := k34_openM hMe139; have hv139_2 := hcc139 2 _ rfl; rw [add_field _ _ 2 (by omega)] at hv139_2; replace hv139_2 := Option.some.inj (hv139_2.symm.trans hx139_2); rw [hv139_2] at ge139_2; have HL139_2 := Aside0.mk (show Kd.R (Kd.int .i64) 3 _ _ _ _ ((rd_T34 t128 x9_3).f2) from ge139_2); clear hv139_2 ge139_2; have hv139_3 := hcc139 3 _ rfl; rw [add_field _ _ 3 (by omega)] at hv139_3; replace hv139_3 := Option.some.inj (hv139_3.symm.trans hx139_3); rw [hv139_3] at ge139_3; have HL139_3 := Aside0.mk (show Kd.R (Kd.int .i64) 3 _ _ _ _ ((rd_T34 t128 x9_3).f3) from ge139_3); clear hv139_3 ge139_3; clear hcc139 hce139; have HR139_2 := Aside0.mk hi139_2; have HC139_2 := Aside0.mk hl139_2; clear hi139_2 hl139_2; have HR139_3 := Aside0.mk hi139_3; have HC139_3 := Aside0.mk hl139_3; clear hi139_3 hl139_3; replace p139 := eq_true p139; replace q139 := eq_true q139; have ea_ := Option.some.inj (hx134_2.symm.trans hx139_2); injection ea_ with ea_ en_ ec_; subst ea_; subst ec_; clear en_; have ea_ := Option.some.inj (hx134_3.symm.trans hx139_3); injection ea_ with ea_ en_ ec_; subst ea_; subst ec_; clear en_) | ((with_reducible refine gate_builtin (b := .append) (xs := #[.tmp 81, .tmp 87]) rfl ?_); (try (refine gate_guard (by rfl) ?_; dsimp only)); at_builtin; refine Kd.R_append (Kd.int .i64) (w0 := w) w.heap.size rfl (.tmp 81) (.tmp 87) 30 3 (.int .i64 0) 8 rfl Try.underlying30 info3 rfl (by decide) (by omega) (.slice (some ad137) x8_3.length co41) x8_3 ((rd_T34 t128 x9_3).f0) [.int .i64 ((rd_T34 t128 x9_3).f0)] (fun _ => True) (fun _ => False) rfl rfl ?aP (fun _ hk => hk.elim) ?aF ?aO ?aB ?aS ?aL ?_; (case aP => exact rfl); (case aB => exact (by repeat (first | (with_reducible first | exact HB.out | apply below_alloc | apply pw_below_drewN | apply below_drew1) | exact HB.out))); (case aF => exact (fun _ _ => trivial)); (case aO => exact (by (with_reducible repeat (first | apply Kd.R_alloc | apply Kd.R_drewN | apply Kd.R_drew)); exact HO_8.out)); (case aS => exact (below_size (by repeat (first | (with_reducible first | exact HB.out | apply below_alloc | apply pw_below_drewN | apply below_drew1) | exact HB.out)))); (case aL => have := LMc39.out; omega); intro v141 w42 ho hb hg hat; rw [← Ny140.out] at ho; have n0_ := Aside0.mk (Kd.S_after (ok := (fun _ => True)) (by (with_reducible repeat (first | apply Kd.S_alloc | apply Kd.S_drewN | apply Kd.S_drew)); exact Kd.S_mono HO_7.out (fun _ hk => ⟨trivial, hk⟩)) hg hat); have n1_ := Aside0.mk (Kd.R_after (ok := (fun k_ => some k_ ≠ (.slice (some ad134) t128.length co40 : Value).ownBlock)) (by (with_reducible repeat (first | apply Kd.R_alloc | apply Kd.R_drewN | apply Kd.R_drew)); exact Kd.R_mono HL134_2.out (fun _ hk => ⟨hk.2, hk.1⟩)) hg hat); have n2_ := Aside0.mk (Kd.R_after (ok := (fun k_ => some k_ ≠ (.slice (some ad134) t128.length co40 : Value).ownBlock)) (by (with_reducible repeat (first | apply Kd.R_alloc | apply Kd.R_drewN | apply Kd.R_drew)); exact Kd.R_mono HL134_3.out (fun _ hk => ⟨hk.2, hk.1⟩)) hg hat); have n3_ := Aside0.mk (Kd.R_after (ok := (fun k_ => some k_ ≠ (.slice (some ad134) t128.length co40 : Value).ownBlock)) (by (with_reducible repeat (first | apply Kd.R_alloc | apply Kd.R_drewN | apply Kd.R_drew)); exact Kd.R_mono HL135_2.out (fun _ hk => ⟨hk.2, hk.1⟩)) hg hat); have n4_ := Aside0.mk (Kd.R_after (ok := (fun k_ => some k_ ≠ (.slice (some ad134) t128.length co40 : Value).ownBlock)) (by (with_reducible repeat (first | apply Kd.R_alloc | apply Kd.R_drewN | apply Kd.R_drew)); exact Kd.R_mono HL135_3.out (fun _ hk => ⟨hk.2, hk.1⟩)) hg hat); have n5_ := Aside0.mk (Kd.R_after (ok := (fun k_ => some k_ ≠ (.slice (some ad134) t128.length co40 : Value).ownBlock)) (by (with_reducible repeat (first | apply Kd.R_alloc | apply Kd.R_drewN | apply Kd.R_drew)); exact Kd.R_mono HL139_2.out (fun _ hk => ⟨hk.2, hk.1⟩)) hg hat); have n6_ := Aside0.mk (Kd.R_after (ok := (fun k_ => some k_ ≠ (.slice (some ad134) t128.length co40 : Value).ownBlock)) (by (with_reducible repeat (first | apply Kd.R_alloc | apply Kd.R_drewN | apply Kd.R_drew)); exact Kd.R_mono HL139_3.out (fun _ hk => ⟨hk.2, hk.1⟩)) hg hat); have n7_ := Aside0.mk (hb); have n8_ := Aside0.mk (ho); clear HO_7; clear HL134_2; clear HL134_3; clear HL135_2; clear HL135_3; clear HL139_2; clear HL139_3; clear HB; clear HO_8; have HO_7 := n0_; have HL134_2 := n1_; have HL134_3 := n2_; have HL135_2 := n3_; have HL135_3 := n4_; have HL139_2 := n5_; have HL139_3 := n6_; have HB := n7_; have HO142 := n8_; clear n0_ n1_ n2_ n3_ n4_ n5_ n6_ n7_ n8_; clear ho hb hg hat))
                                    repeat (go_quiet (first | (go_at_call 19; (with_reducible refine (spec_Rank.calls _ _ l0 ((rd_T34 t128 x9_3).f0) t136 _ ?side1 ?side2 A31.out).mono ?_); (case side1 => repeat (first | exact (Kd.C_below HR0.out HB.out) | (with_reducible refine Kd.C_alloc ?_ _) | (with_reducible refine Kd.C_drewN ?_ _) | (with_reducible refine Kd.C_drew ?_))); (case side2 => exact HC0.out); rintro e w' ⟨rfl, ⟨nd, rfl⟩⟩; (try first | exact ⟨rfl, _, World.drewN_drewN _ _ _⟩ | exact ⟨rfl, _, Eq.trans (World.drewN_drewN _ _ _) (congrArg (World.drewN _) (Nat.add_assoc _ _ _))⟩); obtain ⟨Ao41, co41, eo41⟩ := Kd.R_slice HO_8.out; subst eo41; have p137 : 0 ≤ ((ji32) : Int) := of_decide_eq_true (by first | (with_reducible assumption) | assumption); have q137 : (ji32) < (x8_3.length : Int) := of_decide_eq_true (by first | (with_reducible assumption) | assumption); obtain ⟨ad137, e137, hx137_0⟩ := Kd.at_int (Kd.R_reads' HO_8.out).2.2 (ji32) p137 q137; cases e137; replace p137 := eq_true p137; replace q137 := eq_true q137) | (go_at_call 19; (with_reducible refine (spec_Rank.calls _ _ l0 (rd x8_3 (ji32)) t138 _ ?side1 ?side2 A35.out).mono ?_); (case side1 => repeat (first | exact (Kd.C_below HR0.out (by repeat (first | (with_reducible first | exact HB.out | apply below_alloc | apply pw_below_drewN | apply below_drew1) | exact HB.out))) | (with_reducible refine Kd.C_alloc ?_ _) | (with_reducible refine Kd.C_drewN ?_ _) | (with_reducible refine Kd.C_drew ?_))); (case side2 => exact HC0.out); rintro e w' ⟨rfl, ⟨nd, rfl⟩⟩; (try first | exact ⟨rfl, _, World.drewN_drewN _ _ _⟩ | exact ⟨rfl, _, Eq.trans (World.drewN_drewN _ _ _) (congrArg (World.drewN _) (Nat.add_assoc _ _ _))⟩); have p139 : 0 ≤ (x9_3 : Int) := of_decide_eq_true (by first | (with_reducible assumption) | assumption); have q139 : x9_3 < (t128.length : Int) := of_decide_eq_true (by first | (with_reducible assumption) | assumption); obtain ⟨ad139, A139_2, c139_2, A139_3, c139_3, e139, hx139_0, hx139_1, hx139_2, hx139_3, hl139_2, hi139_2, hl139_3, hi139_3⟩ := at_T34 (Kd.S_reads' HO_7.out).2.2 x9_3 p139 q139; (try rw [← Nbq28.out] at hx139_1); obtain rfl : ad134 = ad139 := (by injection e139); obtain ⟨ce139, hce139, hMe139, hcc139⟩ := Kd.S_get HO_7.out z34 x9_3 p139 (by first | exact q139 | exact of_decide_eq_true (by first | (with_reducible assumption) | assumption) | (have e_ := (Kd.S_reads' HO_7.out).1; omega)); obtain ⟨ve139_2, ve139_3, rfl, ge139_2, ge139_3⟩ := k34_openM hMe139; have hv139_2 := hcc139 2 _ rfl; rw [add_field _ _ 2 (by omega)] at hv139_2; replace hv139_2 := Option.some.inj (hv139_2.symm.trans hx139_2); rw [hv139_2] at ge139_2; have HL139_2 := Aside0.mk (show Kd.R (Kd.int .i64) 3 _ _ _ _ ((rd_T34 t128 x9_3).f2) from ge139_2); clear hv139_2 ge139_2; have hv139_3 := hcc139 3 _ rfl; rw [add_field _ _ 3 (by omega)] at hv139_3; replace hv139_3 := Option.some.inj (hv139_3.symm.trans hx139_3); rw [hv139_3] at ge139_3; have HL139_3 := Aside0.mk (show Kd.R (Kd.int .i64) 3 _ _ _ _ ((rd_T34 t128 x9_3).f3) from ge139_3); clear hv139_3 ge139_3; clear hcc139 hce139; have HR139_2 := Aside0.mk hi139_2; have HC139_2 := Aside0.mk hl139_2; clear hi139_2 hl139_2; have HR139_3 := Aside0.mk hi139_3; have HC139_3 := Aside0.mk hl139_3; clear hi139_3 hl139_3; replace p139 := eq_true p139; replace q139 := eq_true q139; have ea_ := Option.some.inj (hx134_2.symm.trans hx139_2); injection ea_ with ea_ en_ ec_; subst ea_; subst ec_; clear en_; have ea_ := Option.some.inj (hx134_3.symm.trans hx139_3); injection ea_ with ea_ en_ ec_; subst ea_; subst ec_; clear en_) | ((with_reducible refine gate_builtin (b := .append) (xs := #[.tmp 81, .tmp 87]) rfl ?_); (try (refine gate_guard (by rfl) ?_; dsimp only)); at_builtin; refine Kd.R_append (Kd.int .i64) (w0 := w) w.heap.size rfl (.tmp 81) (.tmp 87) 30 3 (.int .i64 0) 8 rfl Try.underlying30 info3 rfl (by decide) (by omega) (.slice (some ad137) x8_3.length co41) x8_3 ((rd_T34 t128 x9_3).f0) [.int .i64 ((rd_T34 t128 x9_3).f0)] (fun _ => True) (fun _ => False) rfl rfl ?aP (fun _ hk => hk.elim) ?aF ?aO ?aB ?aS ?aL ?_; (case aP => exact rfl); (case aB => exact (by repeat (first | (with_reducible first | exact HB.out | apply below_alloc | apply pw_below_drewN | apply below_drew1) | exact HB.out))); (case aF => exact (fun _ _ => trivial)); (case aO => exact (by (with_reducible repeat (first | apply Kd.R_alloc | apply Kd.R_drewN | apply Kd.R_drew)); exact HO_8.out)); (case aS => exact (below_size (by repeat (first | (with_reducible first | exact HB.out | apply below_alloc | apply pw_below_drewN | apply below_drew1) | exact HB.out)))); (case aL => have := LMc39.out; omega); intro v141 w42 ho hb hg hat; rw [← Ny140.out] at ho; have n0_ := Aside0.mk (Kd.S_after (ok := (fun _ => True)) (by (with_reducible repeat (first | apply Kd.S_alloc | apply Kd.S_drewN | apply Kd.S_drew)); exact Kd.S_mono HO_7.out (fun _ hk => ⟨trivial, hk⟩)) hg hat); have n1_ := Aside0.mk (Kd.R_after (ok := (fun k_ => some k_ ≠ (.slice (some ad134) t128.length co40 : Value).ownBlock)) (by (with_reducible repeat (first | apply Kd.R_alloc | apply Kd.R_drewN | apply Kd.R_drew)); exact Kd.R_mono HL134_2.out (fun _ hk => ⟨hk.2, hk.1⟩)) hg hat); have n2_ := Aside0.mk (Kd.R_after (ok := (fun k_ => some k_ ≠ (.slice (some ad134) t128.length co40 : Value).ownBlock)) (by (with_reducible repeat (first | apply Kd.R_alloc | apply Kd.R_drewN | apply Kd.R_drew)); exact Kd.R_mono HL134_3.out (fun _ hk => ⟨hk.2, hk.1⟩)) hg hat); have n3_ := Aside0.mk (Kd.R_after (ok := (fun k_ => some k_ ≠ (.slice (some ad134) t128.length co40 : Value).ownBlock)) (by (with_reducible repeat (first | apply Kd.R_alloc | apply Kd.R_drewN | apply Kd.R_drew)); exact Kd.R_mono HL135_2.out (fun _ hk => ⟨hk.2, hk.1⟩)) hg hat); have n4_ := Aside0.mk (Kd.R_after (ok := (fun k_ => some k_ ≠ (.slice (some ad134) t128.length co40 : Value).ownBlock)) (by (with_reducible repeat (first | apply Kd.R_alloc | apply Kd.R_drewN | apply Kd.R_drew)); exact Kd.R_mono HL135_3.out (fun _ hk => ⟨hk.2, hk.1⟩)) hg hat); have n5_ := Aside0.mk (Kd.R_after (ok := (fun k_ => some k_ ≠ (.slice (some ad134) t128.length co40 : Value).ownBlock)) (by (with_reducible repeat (first | apply Kd.R_alloc | apply Kd.R_drewN | apply Kd.R_drew)); exact Kd.R_mono HL139_2.out (fun _ hk => ⟨hk.2, hk.1⟩)) hg hat); have n6_ := Aside0.mk (Kd.R_after (ok := (fun k_ => some k_ ≠ (.slice (some ad134) t128.length co40 : Value).ownBlock)) (by (with_reducible repeat (first | apply Kd.R_alloc | apply Kd.R_drewN | apply Kd.R_drew)); exact Kd.R_mono HL139_3.out (fun _ hk => ⟨hk.2, hk.1⟩)) hg hat); have n7_ := Aside0.mk (hb); have n8_ := Aside0.mk (ho); clear HO_7; clear HL134_2; clear HL134_3; clear HL135_2; clear HL135_3; clear HL139_2; clear HL139_3; clear HB; clear HO_8; have HO_7 := n0_; have HL134_2 := n1_; have HL134_3 := n2_; have HL135_2 := n3_; have HL135_3 := n4_; have HL139_2 := n5_; have HL139_3 := n6_; have HB := n7_; have HO142 := n8_; clear n0_ n1_ n2_ n3_ n4_ n5_ n6_ n7_ n8_; clear ho hb hg hat)); try go_wp2_with (first | (go_at_call 19; (with_reducible refine (spec_Rank.calls _ _ l0 ((rd_T34 t128 x9_3).f0) t136 _ ?side1 ?side2 A31.out).mono ?_); (case side1 => repeat (first | exact (Kd.C_below HR0.out HB.out) | (with_reducible refine Kd.C_alloc ?_ _) | (with_reducible refine Kd.C_drewN ?_ _) | (with_reducible refine Kd.C_drew ?_))); (case side2 => exact HC0.out); rintro e w' ⟨rfl, ⟨nd, rfl⟩⟩; (try first | exact ⟨rfl, _, World.drewN_drewN _ _ _⟩ | exact ⟨rfl, _, Eq.trans (World.drewN_drewN _ _ _) (congrArg (World.drewN _) (Nat.add_assoc _ _ _))⟩); obtain ⟨Ao41, co41, eo41⟩ := Kd.R_slice HO_8.out; subst eo41; have p137 : 0 ≤ ((ji32) : Int) := of_decide_eq_true (by first | (with_reducible assumption) | assumption); have q137 : (ji32) < (x8_3.length : Int) := of_decide_eq_true (by first | (with_reducible assumption) | assumption); obtain ⟨ad137, e137, hx137_0⟩ := Kd.at_int (Kd.R_reads' HO_8.out).2.2 (ji32) p137 q137; cases e137; replace p137 := eq_true p137; replace q137 := eq_true q137) | (go_at_call 19; (with_reducible refine (spec_Rank.calls _ _ l0 (rd x8_3 (ji32)) t138 _ ?side1 ?side2 A35.out).mono ?_); (case side1 => repeat (first | exact (Kd.C_below HR0.out (by repeat (first | (with_reducible first | exact HB.out | apply below_alloc | apply pw_below_drewN | apply below_drew1) | exact HB.out))) | (with_reducible refine Kd.C_alloc ?_ _) | (with_reducible refine Kd.C_drewN ?_ _) | (with_reducible refine Kd.C_drew ?_))); (case side2 => exact HC0.out); rintro e w' ⟨rfl, ⟨nd, rfl⟩⟩; (try first | exact ⟨rfl, _, World.drewN_drewN _ _ _⟩ | exact ⟨rfl, _, Eq.trans (World.drewN_drewN _ _ _) (congrArg (World.drewN _) (Nat.add_assoc _ _ _))⟩); have p139 : 0 ≤ (x9_3 : Int) := of_decide_eq_true (by first | (with_reducible assumption) | assumption); have q139 : x9_3 < (t128.length : Int) := of_decide_eq_true (by first | (with_reducible assumption) | assumption); obtain ⟨ad139, A139_2, c139_2, A139_3, c139_3, e139, hx139_0, hx139_1, hx139_2, hx139_3, hl139_2, hi139_2, hl139_3, hi139_3⟩ := at_T34 (Kd.S_reads' HO_7.out).2.2 x9_3 p139 q139; (try rw [← Nbq28.out] at hx139_1); obtain rfl : ad134 = ad139 := (by injection e139); obtain ⟨ce139, hce139, hMe139, hcc139⟩ := Kd.S_get HO_7.out z34 x9_3 p139 (by first | exact q139 | exact of_decide_eq_true (by first | (with_reducible assumption) | assumption) | (have e_ := (Kd.S_reads' HO_7.out).1; omega)); obtain ⟨ve139_2, ve139_3, rfl, ge139_2, ge139_3⟩ := k34_openM hMe139; have hv139_2 := hcc139 2 _ rfl; rw [add_field _ _ 2 (by omega)] at hv139_2; replace hv139_2 := Option.some.inj (hv139_2.symm.trans hx139_2); rw [hv139_2] at ge139_2; have HL139_2 := Aside0.mk (show Kd.R (Kd.int .i64) 3 _ _ _ _ ((rd_T34 t128 x9_3).f2) from ge139_2); clear hv139_2 ge139_2; have hv139_3 := hcc139 3 _ rfl; rw [add_field _ _ 3 (by omega)] at hv139_3; replace hv139_3 := Option.some.inj (hv139_3.symm.trans hx139_3); rw [hv139_3] at ge139_3; have HL139_3 := Aside0.mk (show Kd.R (Kd.int .i64) 3 _ _ _ _ ((rd_T34 t128 x9_3).f3) from ge139_3); clear hv139_3 ge139_3; clear hcc139 hce139; have HR139_2 := Aside0.mk hi139_2; have HC139_2 := Aside0.mk hl139_2; clear hi139_2 hl139_2; have HR139_3 := Aside0.mk hi139_3; have HC139_3 := Aside0.mk hl139_3; clear hi139_3 hl139_3; replace p139 := eq_true p139; replace q139 := eq_true q139; have ea_ := Option.some.inj (hx134_2.symm.trans hx139_2); injection ea_ with ea_ en_ ec_; subst ea_; subst ec_; clear en_; have ea_ := Option.some.inj (hx134_3.symm.trans hx139_3); injection ea_ with ea_ en_ ec_; subst ea_; subst ec_; clear en_) | ((with_reducible refine gate_builtin (b := .append) (xs := #[.tmp 81, .tmp 87]) rfl ?_); (try (refine gate_guard (by rfl) ?_; dsimp only)); at_builtin; refine Kd.R_append (Kd.int .i64) (w0 := w) w.heap.size rfl (.tmp 81) (.tmp 87) 30 3 (.int .i64 0) 8 rfl Try.underlying30 info3 rfl (by decide) (by omega) (.slice (some ad137) x8_3.length co41) x8_3 ((rd_T34 t128 x9_3).f0) [.int .i64 ((rd_T34 t128 x9_3).f0)] (fun _ => True) (fun _ => False) rfl rfl ?aP (fun _ hk => hk.elim) ?aF ?aO ?aB ?aS ?aL ?_; (case aP => exact rfl); (case aB => exact (by repeat (first | (with_reducible first | exact HB.out | apply below_alloc | apply pw_below_drewN | apply below_drew1) | exact HB.out))); (case aF => exact (fun _ _ => trivial)); (case aO => exact (by (with_reducible repeat (first | apply Kd.R_alloc | apply Kd.R_drewN | apply Kd.R_drew)); exact HO_8.out)); (case aS => exact (below_size (by repeat (first | (with_reducible first | exact HB.out | apply below_alloc | apply pw_below_drewN | apply below_drew1) | exact HB.out)))); (case aL => have := LMc39.out; omega); intro v141 w42 ho hb hg hat; rw [← Ny140.out] at ho; have n0_ := Aside0.mk (Kd.S_after (ok := (fun _ => True)) (by (with_reducible repeat (first | apply Kd.S_alloc | apply Kd.S_drewN | apply Kd.S_drew)); exact Kd.S_mono HO_7.out (fun _ hk => ⟨trivial, hk⟩)) hg hat); have n1_ := Aside0.mk (Kd.R_after (ok := (fun k_ => some k_ ≠ (.slice (some ad134) t128.length co40 : Value).ownBlock)) (by (with_reducible repeat (first | apply Kd.R_alloc | apply Kd.R_drewN | apply Kd.R_drew)); exact Kd.R_mono HL134_2.out (fun _ hk => ⟨hk.2, hk.1⟩)) hg hat); have n2_ := Aside0.mk (Kd.R_after (ok := (fun k_ => some k_ ≠ (.slice (some ad134) t128.length co40 : Value).ownBlock)) (by (with_reducible repeat (first | apply Kd.R_alloc | apply Kd.R_drewN | apply Kd.R_drew)); exact Kd.R_mono HL134_3.out (fun _ hk => ⟨hk.2, hk.1⟩)) hg hat); have n3_ := Aside0.mk (Kd.R_after (ok := (fun k_ => some k_ ≠ (.slice (some ad134) t128.length co40 : Value).ownBlock)) (by (with_reducible repeat (first | apply Kd.R_alloc | apply Kd.R_drewN | apply Kd.R_drew)); exact Kd.R_mono HL135_2.out (fun _ hk => ⟨hk.2, hk.1⟩)) hg hat); have n4_ := Aside0.mk (Kd.R_after (ok := (fun k_ => some k_ ≠ (.slice (some ad134) t128.length co40 : Value).ownBlock)) (by (with_reducible repeat (first | apply Kd.R_alloc | apply Kd.R_drewN | apply Kd.R_drew)); exact Kd.R_mono HL135_3.out (fun _ hk => ⟨hk.2, hk.1⟩)) hg hat); have n5_ := Aside0.mk (Kd.R_after (ok := (fun k_ => some k_ ≠ (.slice (some ad134) t128.length co40 : Value).ownBlock)) (by (with_reducible repeat (first | apply Kd.R_alloc | apply Kd.R_drewN | apply Kd.R_drew)); exact Kd.R_mono HL139_2.out (fun _ hk => ⟨hk.2, hk.1⟩)) hg hat); have n6_ := Aside0.mk (Kd.R_after (ok := (fun k_ => some k_ ≠ (.slice (some ad134) t128.length co40 : Value).ownBlock)) (by (with_reducible repeat (first | apply Kd.R_alloc | apply Kd.R_drewN | apply Kd.R_drew)); exact Kd.R_mono HL139_3.out (fun _ hk => ⟨hk.2, hk.1⟩)) hg hat); have n7_ := Aside0.mk (hb); have n8_ := Aside0.mk (ho); clear HO_7; clear HL134_2; clear HL134_3; clear HL135_2; clear HL135_3; clear HL139_2; clear HL139_3; clear HB; clear HO_8; have HO_7 := n0_; have HL134_2 := n1_; have HL134_3 := n2_; have HL135_2 := n3_; have HL135_3 := n4_; have HL139_2 := n5_; have HL139_3 := n6_; have HB := n7_; have HO142 := n8_; clear n0_ n1_ n2_ n3_ n4_ n5_ n6_ n7_ n8_; clear ho hb hg hat)))
                                    go_roundg k3
                                    case measure => have := HJ3.out; have := HJ8.out; have := HK3.out; omega
                                    case rel => exact ⟨(y140), (wrap64 (x9_3 + 1)), (by first | rfl | (simp; done) | (simp [*]; done)), H', ⟨by have := HJ3.out; have := HJ8.out; have := HK3.out; omega⟩, ⟨by (with_reducible repeat (first | apply Kd.S_alloc | apply Kd.S_drewN | apply Kd.S_drew)); exact Kd.S_mono HO_7.out (fun _ hk => hk.2)⟩, ⟨by (with_reducible repeat (first | apply Kd.R_alloc | apply Kd.R_drewN | apply Kd.R_drew)); exact HO142.out⟩, ⟨by repeat (first | (with_reducible first | exact HB.out | apply below_alloc | apply pw_below_drewN | apply below_drew1) | exact HB.out)⟩⟩
                                  · rw [if_neg c39] at H
                                    exact absurd H (by simp)
                              · rw [if_neg c34] at H
                                exact absurd H (by simp)
                            · rw [if_neg c33] at H
                              exact absurd H (by simp)
                          · rw [if_neg c30] at H
                            have c30b0 : decide (0 < x9_3) = false := decide_eq_false c30
                            clear c30
                            by_cases c43 : x8_3.length < 17592186044416
                            · rw [if_pos c43] at H
                              have LMc43 := Aside0.mk c43
                              clear c43
                              obtain ⟨y144, hy144⟩ : ∃ y_ : List Int, y_ = (x8_3 ++ [(rd_T34 t128 x9_3).f0]) := ⟨_, rfl⟩
                              replace H : (laws_FnHeapSorts.l0 k3 l0 l2 t128 y144 (wrap64 (x9_3 + 1))) = some r := by first | (rw [hy144]; with_reducible exact H) | (have H2_ := (Option.bind_some _ _).symm.trans H; rw [hy144]; with_reducible exact H2_) | (have H2_ := (Option.bind_some _ _).symm.trans H; with_reducible exact H2_) | with_reducible exact H | (rw [hy144]; exact H) | exact H
                              have Ny144 := Aside0.mk hy144
                              clear hy144
                              have H' := Aside0.mk H
                              clear H
                              obtain ⟨Ao44, co44, eo44⟩ := Kd.S_slice HO_7.out
                              subst eo44
                              have p134 : 0 ≤ (x9_3 : Int) := of_decide_eq_true (by first | (with_reducible assumption) | assumption)
                              have q134 : x9_3 < (t128.length : Int) := of_decide_eq_true (by first | (with_reducible assumption) | assumption)
                              obtain ⟨ad134, A134_2, c134_2, A134_3, c134_3, e134, hx134_0, hx134_1, hx134_2, hx134_3, hl134_2, hi134_2, hl134_3, hi134_3⟩ := at_T34 (Kd.S_reads' HO_7.out).2.2 x9_3 p134 q134
                              (try rw [← Nbq28.out] at hx134_1)
                              cases e134
                              obtain ⟨ce134, hce134, hMe134, hcc134⟩ := Kd.S_get HO_7.out z34 x9_3 p134 (by first | exact q134 | exact of_decide_eq_true (by first | (with_reducible assumption) | assumption) | (have e_ := (Kd.S_reads' HO_7.out).1; omega))
                              obtain ⟨ve134_2, ve134_3, rfl, ge134_2, ge134_3⟩ := k34_openM hMe134
                              have hv134_2 := hcc134 2 _ rfl
                              rw [add_field _ _ 2 (by omega)] at hv134_2
                              replace hv134_2 := Option.some.inj (hv134_2.symm.trans hx134_2)
                              rw [hv134_2] at ge134_2
                              have HL134_2 := Aside0.mk (show Kd.R (Kd.int .i64) 3 _ _ _ _ ((rd_T34 t128 x9_3).f2) from ge134_2)
                              clear hv134_2 ge134_2
                              have hv134_3 := hcc134 3 _ rfl
                              rw [add_field _ _ 3 (by omega)] at hv134_3
                              replace hv134_3 := Option.some.inj (hv134_3.symm.trans hx134_3)
                              rw [hv134_3] at ge134_3
                              have HL134_3 := Aside0.mk (show Kd.R (Kd.int .i64) 3 _ _ _ _ ((rd_T34 t128 x9_3).f3) from ge134_3)
                              clear hv134_3 ge134_3
                              clear hcc134 hce134
                              have HR134_2 := Aside0.mk hi134_2
                              have HC134_2 := Aside0.mk hl134_2
                              clear hi134_2 hl134_2
                              have HR134_3 := Aside0.mk hi134_3
                              have HC134_3 := Aside0.mk hl134_3
                              clear hi134_3 hl134_3
                              replace p134 := eq_true p134
                              replace q134 := eq_true q134
                              have p143 : 0 ≤ (x9_3 : Int) := of_decide_eq_true (by first | (with_reducible assumption) | assumption)
                              have q143 : x9_3 < (t128.length : Int) := of_decide_eq_true (by first | (with_reducible assumption) | assumption)
                              obtain ⟨ad143, A143_2, c143_2, A143_3, c143_3, e143, hx143_0, hx143_1, hx143_2, hx143_3, hl143_2, hi143_2, hl143_3, hi143_3⟩ := at_T34 (Kd.S_reads' HO_7.out).2.2 x9_3 p143 q143
                              (try rw [← Nbq28.out] at hx143_1)
                              obtain rfl : ad134 = ad143 := (by injection e143)
                              obtain ⟨ce143, hce143, hMe143, hcc143⟩ := Kd.S_get HO_7.out z34 x9_3 p143 (by first | exact q143 | exact of_decide_eq_true (by first | (with_reducible assumption) | assumption) | (have e_ := (Kd.S_reads' HO_7.out).1; omega))
                              obtain ⟨ve143_2, ve143_3, rfl, ge143_2, ge143_3⟩ := k34_openM hMe143
                              have hv143_2 := hcc143 2 _ rfl
                              rw [add_field _ _ 2 (by omega)] at hv143_2
                              replace hv143_2 := Option.some.inj (hv143_2.symm.trans hx143_2)
                              rw [hv143_2] at ge143_2
                              have HL143_2 := Aside0.mk (show Kd.R (Kd.int .i64) 3 _ _ _ _ ((rd_T34 t128 x9_3).f2) from ge143_2)
                              clear hv143_2 ge143_2
                              have hv143_3 := hcc143 3 _ rfl
                              rw [add_field _ _ 3 (by omega)] at hv143_3
                              replace hv143_3 := Option.some.inj (hv143_3.symm.trans hx143_3)
                              rw [hv143_3] at ge143_3
                              have HL143_3 := Aside0.mk (show Kd.R (Kd.int .i64) 3 _ _ _ _ ((rd_T34 t128 x9_3).f3) from ge143_3)
                              clear hv143_3 ge143_3
                              clear hcc143 hce143
                              have HR143_2 := Aside0.mk hi143_2
                              have HC143_2 := Aside0.mk hl143_2
                              clear hi143_2 hl143_2
                              have HR143_3 := Aside0.mk hi143_3
                              have HC143_3 := Aside0.mk hl143_3
                              clear hi143_3 hl143_3
                              replace p143 := eq_true p143
                              replace q143 := eq_true q143
                              have ea_ := Option.some.inj (hx134_2.symm.trans hx143_2)
                              injection ea_ with ea_ en_ ec_
                              subst ea_
                              subst ec_
                              clear en_
                              have ea_ := Option.some.inj (hx134_3.symm.trans hx143_3)
                              injection ea_ with ea_ en_ ec_
                              subst ea_
                              subst ec_
                              clear en_
                              go_wp2_with (first | ((with_reducible refine gate_builtin (b := .append) (xs := #[.tmp 81, .tmp 87]) rfl ?_); (try (refine gate_guard (by rfl) ?_; dsimp only)); at_builtin; refine Kd.R_append (Kd.int .i64) (w0 := w) w.heap.size rfl (.tmp 81) (.tmp 87) 30 3 (.int .i64 0) 8 rfl Try.underlying30 info3 rfl (by decide) (by omega) u8 x8_3 ((rd_T34 t128 x9_3).f0) [.int .i64 ((rd_T34 t128 x9_3).f0)] (fun _ => True) (fun _ => False) rfl rfl ?aP (fun _ hk => hk.elim) ?aF ?aO ?aB ?aS ?aL ?_; (case aP => exact rfl); (case aB => exact (by repeat (first | (with_reducible first | exact HB.out | apply below_alloc | apply pw_below_drewN | apply below_drew1) | exact HB.out))); (case aF => exact (fun _ _ => trivial)); (case aO => exact (by (with_reducible repeat (first | apply Kd.R_alloc | apply Kd.R_drewN | apply Kd.R_drew)); exact HO_8.out)); (case aS => exact (below_size (by repeat (first | (with_reducible first | exact HB.out | apply below_alloc | apply pw_below_drewN | apply below_drew1) | exact HB.out)))); (case aL => have := LMc43.out; omega); intro v145 w45 ho hb hg hat; rw [← Ny144.out] at ho; have n0_ := Aside0.mk (Kd.S_after (ok := (fun _ => True)) (by (with_reducible repeat (first | apply Kd.S_alloc | apply Kd.S_drewN | apply Kd.S_drew)); exact Kd.S_mono HO_7.out (fun _ hk => ⟨trivial, hk⟩)) hg hat); have n1_ := Aside0.mk (Kd.R_after (ok := (fun k_ => some k_ ≠ (.slice (some ad134) t128.length co44 : Value).ownBlock)) (by (with_reducible repeat (first | apply Kd.R_alloc | apply Kd.R_drewN | apply Kd.R_drew)); exact Kd.R_mono HL134_2.out (fun _ hk => ⟨hk.2, hk.1⟩)) hg hat); have n2_ := Aside0.mk (Kd.R_after (ok := (fun k_ => some k_ ≠ (.slice (some ad134) t128.length co44 : Value).ownBlock)) (by (with_reducible repeat (first | apply Kd.R_alloc | apply Kd.R_drewN | apply Kd.R_drew)); exact Kd.R_mono HL134_3.out (fun _ hk => ⟨hk.2, hk.1⟩)) hg hat); have n3_ := Aside0.mk (Kd.R_after (ok := (fun k_ => some k_ ≠ (.slice (some ad134) t128.length co44 : Value).ownBlock)) (by (with_reducible repeat (first | apply Kd.R_alloc | apply Kd.R_drewN | apply Kd.R_drew)); exact Kd.R_mono HL143_2.out (fun _ hk => ⟨hk.2, hk.1⟩)) hg hat); have n4_ := Aside0.mk (Kd.R_after (ok := (fun k_ => some k_ ≠ (.slice (some ad134) t128.length co44 : Value).ownBlock)) (by (with_reducible repeat (first | apply Kd.R_alloc | apply Kd.R_drewN | apply Kd.R_drew)); exact Kd.R_mono HL143_3.out (fun _ hk => ⟨hk.2, hk.1⟩)) hg hat); have n5_ := Aside0.mk (hb); have n6_ := Aside0.mk (ho); clear HO_7; clear HL134_2; clear HL134_3; clear HL143_2; clear HL143_3; clear HB; clear HO_8; have HO_7 := n0_; have HL134_2 := n1_; have HL134_3 := n2_; have HL143_2 := n3_; have HL143_3 := n4_; have HB := n5_; have HO146 := n6_; clear n0_ n1_ n2_ n3_ n4_ n5_ n6_; clear ho hb hg hat))
                              repeat (go_quiet (first | ((with_reducible refine gate_builtin (b := .append) (xs := #[.tmp 81, .tmp 87]) rfl ?_); (try (refine gate_guard (by rfl) ?_; dsimp only)); at_builtin; refine Kd.R_append (Kd.int .i64) (w0 := w) w.heap.size rfl (.tmp 81) (.tmp 87) 30 3 (.int .i64 0) 8 rfl Try.underlying30 info3 rfl (by decide) (by omega) u8 x8_3 ((rd_T34 t128 x9_3).f0) [.int .i64 ((rd_T34 t128 x9_3).f0)] (fun _ => True) (fun _ => False) rfl rfl ?aP (fun _ hk => hk.elim) ?aF ?aO ?aB ?aS ?aL ?_; (case aP => exact rfl); (case aB => exact (by repeat (first | (with_reducible first | exact HB.out | apply below_alloc | apply pw_below_drewN | apply below_drew1) | exact HB.out))); (case aF => exact (fun _ _ => trivial)); (case aO => exact (by (with_reducible repeat (first | apply Kd.R_alloc | apply Kd.R_drewN | apply Kd.R_drew)); exact HO_8.out)); (case aS => exact (below_size (by repeat (first | (with_reducible first | exact HB.out | apply below_alloc | apply pw_below_drewN | apply below_drew1) | exact HB.out)))); (case aL => have := LMc43.out; omega); intro v145 w45 ho hb hg hat; rw [← Ny144.out] at ho; have n0_ := Aside0.mk (Kd.S_after (ok := (fun _ => True)) (by (with_reducible repeat (first | apply Kd.S_alloc | apply Kd.S_drewN | apply Kd.S_drew)); exact Kd.S_mono HO_7.out (fun _ hk => ⟨trivial, hk⟩)) hg hat); have n1_ := Aside0.mk (Kd.R_after (ok := (fun k_ => some k_ ≠ (.slice (some ad134) t128.length co44 : Value).ownBlock)) (by (with_reducible repeat (first | apply Kd.R_alloc | apply Kd.R_drewN | apply Kd.R_drew)); exact Kd.R_mono HL134_2.out (fun _ hk => ⟨hk.2, hk.1⟩)) hg hat); have n2_ := Aside0.mk (Kd.R_after (ok := (fun k_ => some k_ ≠ (.slice (some ad134) t128.length co44 : Value).ownBlock)) (by (with_reducible repeat (first | apply Kd.R_alloc | apply Kd.R_drewN | apply Kd.R_drew)); exact Kd.R_mono HL134_3.out (fun _ hk => ⟨hk.2, hk.1⟩)) hg hat); have n3_ := Aside0.mk (Kd.R_after (ok := (fun k_ => some k_ ≠ (.slice (some ad134) t128.length co44 : Value).ownBlock)) (by (with_reducible repeat (first | apply Kd.R_alloc | apply Kd.R_drewN | apply Kd.R_drew)); exact Kd.R_mono HL143_2.out (fun _ hk => ⟨hk.2, hk.1⟩)) hg hat); have n4_ := Aside0.mk (Kd.R_after (ok := (fun k_ => some k_ ≠ (.slice (some ad134) t128.length co44 : Value).ownBlock)) (by (with_reducible repeat (first | apply Kd.R_alloc | apply Kd.R_drewN | apply Kd.R_drew)); exact Kd.R_mono HL143_3.out (fun _ hk => ⟨hk.2, hk.1⟩)) hg hat); have n5_ := Aside0.mk (hb); have n6_ := Aside0.mk (ho); clear HO_7; clear HL134_2; clear HL134_3; clear HL143_2; clear HL143_3; clear HB; clear HO_8; have HO_7 := n0_; have HL134_2 := n1_; have HL134_3 := n2_; have HL143_2 := n3_; have HL143_3 := n4_; have HB := n5_; have HO146 := n6_; clear n0_ n1_ n2_ n3_ n4_ n5_ n6_; clear ho hb hg hat)); try go_wp2_with (first | ((with_reducible refine gate_builtin (b := .append) (xs := #[.tmp 81, .tmp 87]) rfl ?_); (try (refine gate_guard (by rfl) ?_; dsimp only)); at_builtin; refine Kd.R_append (Kd.int .i64) (w0 := w) w.heap.size rfl (.tmp 81) (.tmp 87) 30 3 (.int .i64 0) 8 rfl Try.underlying30 info3 rfl (by decide) (by omega) u8 x8_3 ((rd_T34 t128 x9_3).f0) [.int .i64 ((rd_T34 t128 x9_3).f0)] (fun _ => True) (fun _ => False) rfl rfl ?aP (fun _ hk => hk.elim) ?aF ?aO ?aB ?aS ?aL ?_; (case aP => exact rfl); (case aB => exact (by repeat (first | (with_reducible first | exact HB.out | apply below_alloc | apply pw_below_drewN | apply below_drew1) | exact HB.out))); (case aF => exact (fun _ _ => trivial)); (case aO => exact (by (with_reducible repeat (first | apply Kd.R_alloc | apply Kd.R_drewN | apply Kd.R_drew)); exact HO_8.out)); (case aS => exact (below_size (by repeat (first | (with_reducible first | exact HB.out | apply below_alloc | apply pw_below_drewN | apply below_drew1) | exact HB.out)))); (case aL => have := LMc43.out; omega); intro v145 w45 ho hb hg hat; rw [← Ny144.out] at ho; have n0_ := Aside0.mk (Kd.S_after (ok := (fun _ => True)) (by (with_reducible repeat (first | apply Kd.S_alloc | apply Kd.S_drewN | apply Kd.S_drew)); exact Kd.S_mono HO_7.out (fun _ hk => ⟨trivial, hk⟩)) hg hat); have n1_ := Aside0.mk (Kd.R_after (ok := (fun k_ => some k_ ≠ (.slice (some ad134) t128.length co44 : Value).ownBlock)) (by (with_reducible repeat (first | apply Kd.R_alloc | apply Kd.R_drewN | apply Kd.R_drew)); exact Kd.R_mono HL134_2.out (fun _ hk => ⟨hk.2, hk.1⟩)) hg hat); have n2_ := Aside0.mk (Kd.R_after (ok := (fun k_ => some k_ ≠ (.slice (some ad134) t128.length co44 : Value).ownBlock)) (by (with_reducible repeat (first | apply Kd.R_alloc | apply Kd.R_drewN | apply Kd.R_drew)); exact Kd.R_mono HL134_3.out (fun _ hk => ⟨hk.2, hk.1⟩)) hg hat); have n3_ := Aside0.mk (Kd.R_after (ok := (fun k_ => some k_ ≠ (.slice (some ad134) t128.length co44 : Value).ownBlock)) (by (with_reducible repeat (first | apply Kd.R_alloc | apply Kd.R_drewN | apply Kd.R_drew)); exact Kd.R_mono HL143_2.out (fun _ hk => ⟨hk.2, hk.1⟩)) hg hat); have n4_ := Aside0.mk (Kd.R_after (ok := (fun k_ => some k_ ≠ (.slice (some ad134) t128.length co44 : Value).ownBlock)) (by (with_reducible repeat (first | apply Kd.R_alloc | apply Kd.R_drewN | apply Kd.R_drew)); exact Kd.R_mono HL143_3.out (fun _ hk => ⟨hk.2, hk.1⟩)) hg hat); have n5_ := Aside0.mk (hb); have n6_ := Aside0.mk (ho); clear HO_7; clear HL134_2; clear HL134_3; clear HL143_2; clear HL143_3; clear HB; clear HO_8; have HO_7 := n0_; have HL134_2 := n1_; have HL134_3 := n2_; have HL143_2 := n3_; have HL143_3 := n4_; have HB := n5_; have HO146 := n6_; clear n0_ n1_ n2_ n3_ n4_ n5_ n6_; clear ho hb hg hat)))
                              go_roundg k3
                              case measure => have := HJ3.out; have := HJ8.out; have := HK3.out; omega
                              case rel => exact ⟨(y144), (wrap64 (x9_3 + 1)), (by first | rfl | (simp; done) | (simp [*]; done)), H', ⟨by have := HJ3.out; have := HJ8.out; have := HK3.out; omega⟩, ⟨by (with_reducible repeat (first | apply Kd.S_alloc | apply Kd.S_drewN | apply Kd.S_drew)); exact Kd.S_mono HO_7.out (fun _ hk => hk.2)⟩, ⟨by (with_reducible repeat (first | apply Kd.R_alloc | apply Kd.R_drewN | apply Kd.R_drew)); exact HO146.out⟩, ⟨by repeat (first | (with_reducible first | exact HB.out | apply below_alloc | apply pw_below_drewN | apply below_drew1) | exact HB.out)⟩⟩
                            · rw [if_neg c43] at H
                              exact absurd H (by simp)
                        · replace c29 := Bool.eq_false_iff.mpr c29
                          subst c29
                          have H1 : (some false) = some r := by rw [if_neg (show ¬ (false = true) by decide)] at H; exact H
                          clear H
                          have H := H1
                          clear H1
                          obtain rfl := Option.some.inj H
                          obtain ⟨Ao46, co46, eo46⟩ := Kd.S_slice HO_7.out
                          subst eo46
                          have p134 : 0 ≤ (x9_3 : Int) := of_decide_eq_true (by first | (with_reducible assumption) | assumption)
                          have q134 : x9_3 < (t128.length : Int) := of_decide_eq_true (by first | (with_reducible assumption) | assumption)
                          obtain ⟨ad134, A134_2, c134_2, A134_3, c134_3, e134, hx134_0, hx134_1, hx134_2, hx134_3, hl134_2, hi134_2, hl134_3, hi134_3⟩ := at_T34 (Kd.S_reads' HO_7.out).2.2 x9_3 p134 q134
                          (try rw [← Nbq28.out] at hx134_1)
                          cases e134
                          obtain ⟨ce134, hce134, hMe134, hcc134⟩ := Kd.S_get HO_7.out z34 x9_3 p134 (by first | exact q134 | exact of_decide_eq_true (by first | (with_reducible assumption) | assumption) | (have e_ := (Kd.S_reads' HO_7.out).1; omega))
                          obtain ⟨ve134_2, ve134_3, rfl, ge134_2, ge134_3⟩ := k34_openM hMe134
                          have hv134_2 := hcc134 2 _ rfl
                          rw [add_field _ _ 2 (by omega)] at hv134_2
                          replace hv134_2 := Option.some.inj (hv134_2.symm.trans hx134_2)
                          rw [hv134_2] at ge134_2
                          have HL134_2 := Aside0.mk (show Kd.R (Kd.int .i64) 3 _ _ _ _ ((rd_T34 t128 x9_3).f2) from ge134_2)
                          clear hv134_2 ge134_2
                          have hv134_3 := hcc134 3 _ rfl
                          rw [add_field _ _ 3 (by omega)] at hv134_3
                          replace hv134_3 := Option.some.inj (hv134_3.symm.trans hx134_3)
                          rw [hv134_3] at ge134_3
                          have HL134_3 := Aside0.mk (show Kd.R (Kd.int .i64) 3 _ _ _ _ ((rd_T34 t128 x9_3).f3) from ge134_3)
                          clear hv134_3 ge134_3
                          clear hcc134 hce134
                          have HR134_2 := Aside0.mk hi134_2
                          have HC134_2 := Aside0.mk hl134_2
                          clear hi134_2 hl134_2
                          have HR134_3 := Aside0.mk hi134_3
                          have HC134_3 := Aside0.mk hl134_3
                          clear hi134_3 hl134_3
                          replace p134 := eq_true p134
                          replace q134 := eq_true q134
                          go_wp2
                          repeat (go_quiet (fail); try go_wp2)
                          go_ret
                          exact ⟨by first | rfl | (simp [errW_none, errW_some] <;> rfl) | (simp [*, errW_none, errW_some] <;> rfl), by repeat (first | (with_reducible first | exact HB.out | apply below_alloc | apply pw_below_drewN | apply below_drew1) | exact HB.out)⟩
                      · rw [if_neg c27] at H
                        exact absurd H (by simp)
                    · rw [if_neg c26] at H
                      exact absurd H (by simp)
                  · rw [if_neg c25] at H
                    have c25b0 : decide (x9_3 < (l2.length : Int)) = false := decide_eq_false c25
                    clear c25
                    replace H := Option.bind_eq_some_iff.mp H
                    obtain ⟨t133, A470, H⟩ := H
                    replace H : (some t133) = some r := H
                    have A47 := Aside0.mk A470
                    clear A470
                    obtain rfl := Option.some.inj H
                    obtain ⟨Ao48, co48, eo48⟩ := Kd.R_slice HO_8.out
                    subst eo48
                    go_wp2_with (first | (go_at_call 20; (refine (spec_BagRows.calls k3 _ _ ([] : List Int) _ _ x8_3 _ _ l2 t133 _ ?side1 ?side2 ?side3 ?side4 ?side5 ?side6 A47.out).mono ?_); (case side1 => exact Kd.C_nil _ _); (case side2 => exact Nat.le_refl _); (case side3 => repeat (first | exact (Kd.R_reads' HO_8.out).2.2 | (with_reducible refine Kd.C_alloc ?_ _) | (with_reducible refine Kd.C_drewN ?_ _) | (with_reducible refine Kd.C_drew ?_))); (case side4 => exact (Kd.R_reads' HO_8.out).2.1); (case side5 => repeat (first | exact (Kd.C_below HR2.out HB.out) | (with_reducible refine Kd.C_alloc ?_ _) | (with_reducible refine Kd.C_drewN ?_ _) | (with_reducible refine Kd.C_drew ?_))); (case side6 => exact HC2.out); rintro e w' ⟨rfl, ⟨nd, rfl⟩⟩; (try first | exact ⟨rfl, _, World.drewN_drewN _ _ _⟩ | exact ⟨rfl, _, Eq.trans (World.drewN_drewN _ _ _) (congrArg (World.drewN _) (Nat.add_assoc _ _ _))⟩)))
                    repeat (go_quiet (first | (go_at_call 20; (refine (spec_BagRows.calls k3 _ _ ([] : List Int) _ _ x8_3 _ _ l2 t133 _ ?side1 ?side2 ?side3 ?side4 ?side5 ?side6 A47.out).mono ?_); (case side1 => exact Kd.C_nil _ _); (case side2 => exact Nat.le_refl _); (case side3 => repeat (first | exact (Kd.R_reads' HO_8.out).2.2 | (with_reducible refine Kd.C_alloc ?_ _) | (with_reducible refine Kd.C_drewN ?_ _) | (with_reducible refine Kd.C_drew ?_))); (case side4 => exact (Kd.R_reads' HO_8.out).2.1); (case side5 => repeat (first | exact (Kd.C_below HR2.out HB.out) | (with_reducible refine Kd.C_alloc ?_ _) | (with_reducible refine Kd.C_drewN ?_ _) | (with_reducible refine Kd.C_drew ?_))); (case side6 => exact HC2.out); rintro e w' ⟨rfl, ⟨nd, rfl⟩⟩; (try first | exact ⟨rfl, _, World.drewN_drewN _ _ _⟩ | exact ⟨rfl, _, Eq.trans (World.drewN_drewN _ _ _) (congrArg (World.drewN _) (Nat.add_assoc _ _ _))⟩))); try go_wp2_with (first | (go_at_call 20; (refine (spec_BagRows.calls k3 _ _ ([] : List Int) _ _ x8_3 _ _ l2 t133 _ ?side1 ?side2 ?side3 ?side4 ?side5 ?side6 A47.out).mono ?_); (case side1 => exact Kd.C_nil _ _); (case side2 => exact Nat.le_refl _); (case side3 => repeat (first | exact (Kd.R_reads' HO_8.out).2.2 | (with_reducible refine Kd.C_alloc ?_ _) | (with_reducible refine Kd.C_drewN ?_ _) | (with_reducible refine Kd.C_drew ?_))); (case side4 => exact (Kd.R_reads' HO_8.out).2.1); (case side5 => repeat (first | exact (Kd.C_below HR2.out HB.out) | (with_reducible refine Kd.C_alloc ?_ _) | (with_reducible refine Kd.C_drewN ?_ _) | (with_reducible refine Kd.C_drew ?_))); (case side6 => exact HC2.out); rintro e w' ⟨rfl, ⟨nd, rfl⟩⟩; (try first | exact ⟨rfl, _, World.drewN_drewN _ _ _⟩ | exact ⟨rfl, _, Eq.trans (World.drewN_drewN _ _ _) (congrArg (World.drewN _) (Nat.add_assoc _ _ _))⟩))))
                    go_ret
                    exact ⟨by first | rfl | (simp [errW_none, errW_some] <;> rfl) | (simp [*, errW_none, errW_some] <;> rfl), by repeat (first | (with_reducible first | exact HB.out | apply below_alloc | apply pw_below_drewN | apply below_drew1) | exact HB.out)⟩

/-- THE ONE PURE STATEMENT of laws_FnHeapSorts: yours. -/
def laws_FnHeapSorts.Pure : Prop := ∀ (l0 : List Int) (a1 : Int) (l2 : List Int), l0.length ≤ maxLen → l0.length * 8 ≤ 140737488351232 → (∀ x ∈ l0, (Lit.int .i64 x).wf = true) → (Lit.int .i64 a1).wf = true → l2.length ≤ maxLen → l2.length * 8 ≤ 140737488351232 → (∀ x ∈ l2, (Lit.int .i64 x).wf = true) → ∃ k, laws_FnHeapSorts.f k l0 a1 l2 = some true
theorem laws_FnHeapSorts.walk (P : laws_FnHeapSorts.Pure) (a0 : Option Addr) (len0 cap0 : Nat) (z0 : List Int) (a1 : Int) (a2 : Option Addr) (len2 cap2 : Nat) (z2 : List Int) (w : World) (w0 : (a0 = none ∧ len0 = 0 ∧ cap0 = 0 ∧ z0 = []) ∨ ∃ x, a0 = some x ∧ len0 ≤ cap0 ∧ cap0 ≤ maxLen ∧ z0.length = cap0 ∧ (∀ i, i < z0.length → w.cell? (x.add i) = some (.int .i64 (z0.getD i 0))) ∧ ∀ n ∈ z0, (Lit.int .i64 n).wf = true) (y0 : len0 * 8 ≤ 140737488351232) (w1 : (Lit.int .i64 a1).wf = true) (w2 : (a2 = none ∧ len2 = 0 ∧ cap2 = 0 ∧ z2 = []) ∨ ∃ x, a2 = some x ∧ len2 ≤ cap2 ∧ cap2 ≤ maxLen ∧ z2.length = cap2 ∧ (∀ i, i < z2.length → w.cell? (x.add i) = some (.int .i64 (z2.getD i 0))) ∧ ∀ n ∈ z2, (Lit.int .i64 n).wf = true) (y2 : len2 * 8 ≤ 140737488351232) :
    Calls Try.prog 5 #[.slice a0 len0 cap0, .int .i64 a1, .slice a2 len2 cap2] w fun e w' => e = .returned (.bool true) ∧ Below w.heap.size w w' := by
  obtain ⟨l0, rfl, hr0, hm0, hw0, hc0⟩ := ReadsInt.ofRowC w0
  obtain ⟨l2, rfl, hr2, hm2, hw2, hc2⟩ := ReadsInt.ofRowC w2
  obtain ⟨k, h⟩ := P l0 a1 l2 hm0 y0 hw0 w1 hm2 y2 hw2
  refine (laws_FnHeapSorts.calls k _ _ l0 a1 _ _ l2 true w (Kd.C_of_reads (d := (0 : Int)) (h1 := fun _ => rfl) hr0) hc0 (Kd.C_of_reads (d := (0 : Int)) (h1 := fun _ => rfl) hr2) hc2 h).mono ?_
  rintro e w' ⟨rfl, hd⟩
  exact ⟨rfl, hd⟩

end Go.Proofs.Ytmhnhfmkcipcpaa.QFnHeapSorts
