/- The machine's side of a law, as the kit's print writes it; of the functions that the print doesn't cover this session's own contracts stand in it: no condition. -/
import Derived.Test.YtmhnhfmkcipcpaaHeapI
import Derived.Test.YtmhnhfmkcipcpaaQFnHeapTreex0
namespace Go.Proofs.Ytmhnhfmkcipcpaa.QFnHeapTree
open Go.RowKit Go.Proofs.YtmhnhfmkcipcpaaW.PrintWords Go.Proofs.YtmhnhfmkcipcpaaW.PrintLast Go.Proofs.YtmhnhfmkcipcpaaW.PrintMore
attribute [local go_sem] max2_int min2_int max_two min_two max_three min_three max_four min_four   -- for this text's walks alone
set_option linter.unusedVariables false
set_option linter.unusedSimpArgs false

/-! ### impl_copied: function 46 -/
def impl_copied.f (l0 : List Int) : Option (List Int) := (some (([] : List Int) : List Int)).bind fun y101 => (if y101.length + l0.length < 17592186044416 then (some (y101 ++ l0)) else (none))
set_option maxHeartbeats 8000000 in
set_option maxRecDepth 100000 in
theorem impl_copied.calls (A0 : Option Addr) (c0 : Nat) (l0 : List Int) (r : List Int) (w : World) (hr0 : Kd.C (Kd.int .i64) w A0 l0.length l0) (hc0 : l0.length ≤ c0) (h : impl_copied.f l0 = some r) :
    Calls Try.prog 46 #[.slice A0 l0.length c0] w fun e w' => ∃ v0_ : Value, e = .returned (v0_) ∧ Kd.R (Kd.int .i64) 3 w' w.heap.size (fun _ => True) v0_ r ∧ Below w.heap.size w w' := by
  have HR0 := Aside0.mk hr0
  have HC0 := Aside0.mk hc0
  clear hr0 hc0
  have HB := Aside0.mk (Below.refl w.heap.size w)
  have H : ((some (([] : List Int) : List Int)).bind fun y101 => (if y101.length + l0.length < 17592186044416 then (some (y101 ++ l0)) else (none))) = some r := h
  clear h
  obtain ⟨y101, hy101⟩ : ∃ y_ : List Int, y_ = (([] : List Int)) := ⟨_, rfl⟩
  replace H : (if y101.length + l0.length < 17592186044416 then (some (y101 ++ l0)) else (none)) = some r := by first | (rw [hy101]; with_reducible exact H) | (have H2_ := (Option.bind_some _ _).symm.trans H; rw [hy101]; with_reducible exact H2_) | (have H2_ := (Option.bind_some _ _).symm.trans H; with_reducible exact H2_) | with_reducible exact H | (rw [hy101]; exact H) | exact H
  have Ny101 := Aside0.mk hy101
  clear hy101
  by_cases c2 : y101.length + l0.length < 17592186044416
  · rw [if_pos c2] at H
    have LMc2 := Aside0.mk c2
    clear c2
    obtain ⟨y104, hy104⟩ : ∃ y_ : List Int, y_ = (y101 ++ l0) := ⟨_, rfl⟩
    replace H : (some y104) = some r := by first | (rw [hy104]; with_reducible exact H) | (have H2_ := (Option.bind_some _ _).symm.trans H; rw [hy104]; with_reducible exact H2_) | (have H2_ := (Option.bind_some _ _).symm.trans H; with_reducible exact H2_) | with_reducible exact H | (rw [hy104]; exact H) | exact H
    have Ny104 := Aside0.mk hy104
    clear hy104
    obtain rfl := Option.some.inj H
    go_enter Try.func46, Try.ntmps46
    go_wp2_with (first | ((with_reducible refine gate_dst (N := 3) rfl ?_); refine Kd.R_lit (Kd.int .i64) _ 3 ?hg (N := 3) ?hd (xs := ([] : List Int)) (inner := []) (ok := fun _ => True) (okp := fun _ => True) ?hr ?hp (fun _ hk => hk) trivial (Below.refl _ _) (Nat.le_refl _) (by simp) ?_; (case hd => rfl); (case hg => rfl); (case hr => first | (go_simp; done) | (go_simp; rfl)); (case hp => exact (Reps.none _ _)); intro v102 w3 ho4 hb hg_ hnew_; clear hg_ hnew_; (first | rw [← Ny101.out] at ho4 | (simp only [Int.reduceToNat] at ho4; rw [← Ny101.out] at ho4)); have n0_ := Aside0.mk (Kd.R_lower ho4 (below_size (by repeat (first | (with_reducible first | exact HB.out | apply below_alloc | apply pw_below_drewN | apply below_drew1) | exact HB.out)))); have n1_ := Aside0.mk (below_step (by repeat (first | (with_reducible first | exact HB.out | apply below_alloc | apply pw_below_drewN | apply below_drew1) | exact HB.out)) hb); clear HB; have HO103 := n0_; have HB := n1_; clear n0_ n1_; clear hb ho4) | ((with_reducible refine gate_builtin (b := .append) (xs := #[.tmp 3, .tmp 4]) rfl ?_); at_builtin; refine Kd.R_append_rows (Kd.int .i64) (w0 := w) w.heap.size rfl (.tmp 3) (.tmp 4) 30 3 (.int .i64 0) 8 rfl Try.underlying30 info3 rfl (by decide) (by omega) v102 y101 l0 _ _ _ (fun _ => True) (fun _ => False) rfl rfl ?aO ?aR (fun _ _ h => h) (fun _ h => h.elim) ?aF ?aB ?aS ?aL ?_; (case aR => repeat (first | exact (Kd.C_below HR0.out HB.out) | (with_reducible refine Kd.C_alloc ?_ _) | (with_reducible refine Kd.C_drewN ?_ _) | (with_reducible refine Kd.C_drew ?_))); (case aB => exact (by repeat (first | (with_reducible first | exact HB.out | apply below_alloc | apply pw_below_drewN | apply below_drew1) | exact HB.out))); (case aF => exact (fun _ _ => trivial)); (case aO => exact (by (with_reducible repeat (first | apply Kd.R_alloc | apply Kd.R_drewN | apply Kd.R_drew)); exact HO103.out)); (case aS => exact (below_size (by repeat (first | (with_reducible first | exact HB.out | apply below_alloc | apply pw_below_drewN | apply below_drew1) | exact HB.out)))); (case aL => have := LMc2.out; omega); intro v105 w5 ho hb hg hat; rw [← Ny104.out] at ho; have n0_ := Aside0.mk (hb); have n1_ := Aside0.mk (ho); clear HB; clear HO103; have HB := n0_; have HO106 := n1_; clear n0_ n1_; clear ho hb hg hat))
    go_ret
    exact ⟨_, by first | rfl | (simp [errW_none, errW_some] <;> rfl) | (simp [*, errW_none, errW_some] <;> rfl), by (with_reducible repeat (first | apply Kd.R_alloc | apply Kd.R_drewN | apply Kd.R_drew)); exact HO106.out, by repeat (first | (with_reducible first | exact HB.out | apply below_alloc | apply pw_below_drewN | apply below_drew1) | exact HB.out)⟩
  · rw [if_neg c2] at H
    exact absurd H (by simp)

-- NOT PRINTED: function 48 (impl_less)

-- NOT PRINTED: function 76 (heap_New_int)

-- NOT PRINTED: function 83 (heap_up_int)

-- NOT PRINTED: function 77 (heap_Heap_int_Push)

-- NOT PRINTED: function 113 (heap_down_int)

-- NOT PRINTED: function 79 (heap_FromSlice_int)

-- NOT PRINTED: function 78 (heap_From_int)

-- NOT PRINTED: function 42 (impl_heapOf)

-- NOT PRINTED: function 82 (heap_Heap_int_Size)

-- NOT PRINTED: function 80 (heap_Heap_int_Pop)

-- NOT PRINTED: function 81 (heap_Heap_int_Peek)

-- NOT PRINTED: function 43 (impl_heapDo)

/-! ### impl_HeapRun: function 17 -/
def st_of (x : S27) : Seen.St := (x.f0, x.f1, x.f2, x.f3)
def seen_of (p : Int × Bool) : S34 := ⟨p.1, p.2, [], []⟩
theorem seen_map : ∀ (w : World) (base : Nat) (ok : Nat → Prop) (x : Int × Bool) (cs : List Value), Seen.seenN.M w base ok x cs → (Kd.bare k34).M w base ok (seen_of x) cs := by
  intro w base ok x cs h
  have h' : cs = Seen.cells x := h
  subst h'
  exact k34_mkM w base (fun _ => False) (seen_of x) (Kd.R_nil ..) (Kd.R_nil ..)
def impl_HeapRun.f (l0 : List Int) (a1 : Int) (l2 : List Int) (l3 : List (S27)) : Option (List (S34)) :=
  if l0.length ≤ 140737488351232 ∧ l2.length ≤ 274877906944 ∧ l3.length ≤ 274877906944 then some ((Heap.toldH (Less.rankOf l0) (HeapPure.madeT (Less.rankOf l0) a1 l2) (l3.map st_of)).map seen_of) else none
theorem impl_HeapRun.calls (A0 : Option Addr) (c0 : Nat) (l0 : List Int) (a1 : Int) (A2 : Option Addr) (c2 : Nat) (l2 : List Int) (A3 : Option Addr) (c3 : Nat) (l3 : List (S27)) (r : List (S34)) (w : World) (hr0 : Kd.C (Kd.int .i64) w A0 l0.length l0) (hc0 : l0.length ≤ c0) (hr2 : Kd.C (Kd.int .i64) w A2 l2.length l2) (hc2 : l2.length ≤ c2) (hr3 : Kd.C k27 w A3 l3.length l3) (hc3 : l3.length ≤ c3) (h : impl_HeapRun.f l0 a1 l2 l3 = some r) :
    Calls Try.prog 17 #[.slice A0 l0.length c0, .int .i64 a1, .slice A2 l2.length c2, .slice A3 l3.length c3] w fun e w' => ∃ v0_ : Value, e = .returned (v0_) ∧ Kd.S k34 34 w' w.heap.size (fun _ => True) v0_ r ∧ Below w.heap.size w w' := by
  unfold impl_HeapRun.f at h
  by_cases q : l0.length ≤ 140737488351232 ∧ l2.length ≤ 274877906944 ∧ l3.length ≤ 274877906944
  · rw [if_pos q] at h
    obtain rfl := Option.some.inj h
    have hl : (l3.map st_of).length = l3.length := List.length_map ..
    have hC : Kd.C Seen.stK w A3 (l3.map st_of).length (l3.map st_of) := by rw [hl]; exact Row.C_iso hr3
    have H := Heap.HeapRun_any A0 c0 l0 a1 A2 c2 l2 A3 c3 (l3.map st_of) w hr0 hr2 hC q.1 q.2.1 (by rw [hl]; exact q.2.2)
    rw [hl] at H
    refine H.mono ?_
    rintro e w' ⟨v, he, hS, hB⟩
    exact ⟨v, he, Kd.S_bare (Seen.R_map (d := Seen.seenN) (d' := Kd.bare k34) (g := seen_of) rfl seen_map hS), hB⟩
  · rw [if_neg q] at h; cases h

/-! ### spec_Rank: function 19 -/
def spec_Rank.f (l0 : List Int) (a1 : Int) : Option (Int) := if (l0.length : Int) = 0 then (some a1) else (if 0 ≤ (Int.tmod (wrap64 ((Int.tmod a1 (l0.length : Int)) + (l0.length : Int))) (l0.length : Int)) then (if (Int.tmod (wrap64 ((Int.tmod a1 (l0.length : Int)) + (l0.length : Int))) (l0.length : Int)) < (l0.length : Int) then (some (rd l0 (Int.tmod (wrap64 ((Int.tmod a1 (l0.length : Int)) + (l0.length : Int))) (l0.length : Int)))) else (none)) else (none))
set_option maxHeartbeats 8000000 in
set_option maxRecDepth 100000 in
theorem spec_Rank.calls (A0 : Option Addr) (c0 : Nat) (l0 : List Int) (a1 : Int) (r : Int) (w : World) (hr0 : Kd.C (Kd.int .i64) w A0 l0.length l0) (hc0 : l0.length ≤ c0) (h : spec_Rank.f l0 a1 = some r) :
    Calls Try.prog 19 #[.slice A0 l0.length c0, .int .i64 a1] w fun e w' => e = .returned (.int .i64 r) ∧ Drawn0 w w' := by
  have HR0 := Aside0.mk hr0
  have HC0 := Aside0.mk hc0
  clear hr0 hc0
  have H : (if (l0.length : Int) = 0 then (some a1) else (if 0 ≤ (Int.tmod (wrap64 ((Int.tmod a1 (l0.length : Int)) + (l0.length : Int))) (l0.length : Int)) then (if (Int.tmod (wrap64 ((Int.tmod a1 (l0.length : Int)) + (l0.length : Int))) (l0.length : Int)) < (l0.length : Int) then (some (rd l0 (Int.tmod (wrap64 ((Int.tmod a1 (l0.length : Int)) + (l0.length : Int))) (l0.length : Int)))) else (none)) else (none))) = some r := h
  clear h
  by_cases c3 : (l0.length : Int) = 0
  · rw [if_pos c3] at H
    have c3b0 : ((l0.length : Int) == 0) = true := beq_iff_eq.mpr c3
    have c3b1 : ((l0.length : Int) != 0) = false := bne_eq_false_iff_eq.mpr c3
    clear c3
    obtain rfl := Option.some.inj H
    go_enter Try.func19, Try.ntmps19
    go_wp2
    go_ret
    exact ⟨by first | rfl | (simp; done) | (simp [*]; done), by repeat (first | exact Drawn0.refl _ | apply Drawn0.step)⟩
  · rw [if_neg c3] at H
    have c3b0 : ((l0.length : Int) == 0) = false := beq_eq_false_iff_ne.mpr c3
    have c3b1 : ((l0.length : Int) != 0) = true := bne_iff_ne.mpr c3
    have c3b2 : ¬ (l0 = []) := fun h_ => c3 (by rw [h_]; rfl)
    obtain ⟨ji4, hji4⟩ : ∃ j_ : Int, (Int.tmod (wrap64 ((Int.tmod a1 (l0.length : Int)) + (l0.length : Int))) (l0.length : Int)) = j_ := ⟨_, rfl⟩
    replace H : (if 0 ≤ (ji4) then (if (ji4) < (l0.length : Int) then (some (rd l0 (ji4))) else (none)) else (none)) = some r := by first | (rw [hji4] at H; exact H) | (simp only [hji4] at H ⊢; exact H)
    by_cases c5 : 0 ≤ (ji4)
    · rw [if_pos c5] at H
      have c5b0 : decide (0 ≤ (ji4)) = true := decide_eq_true c5
      clear c5
      by_cases c6 : (ji4) < (l0.length : Int)
      · rw [if_pos c6] at H
        have c6b0 : decide ((ji4) < (l0.length : Int)) = true := decide_eq_true c6
        clear c6
        obtain rfl := Option.some.inj H
        have p110 : 0 ≤ ((ji4) : Int) := of_decide_eq_true (by first | (with_reducible assumption) | assumption)
        have q110 : (ji4) < (l0.length : Int) := of_decide_eq_true (by first | (with_reducible assumption) | assumption)
        obtain ⟨ad110, e110, hx110_0⟩ := Kd.at_int HR0.out (ji4) p110 q110
        cases e110
        replace p110 := eq_true p110
        replace q110 := eq_true q110
        go_enter Try.func19, Try.ntmps19
        go_wp2
        go_ret
        exact ⟨by first | rfl | (simp; done) | (simp only [← hji4] <;> (first | rfl | simp)) | (simp [*]; done), by repeat (first | exact Drawn0.refl _ | apply Drawn0.step)⟩
      · rw [if_neg c6] at H
        exact absurd H (by simp)
    · rw [if_neg c5] at H
      exact absurd H (by simp)

/-! ### spec_Alike: function 44 -/
def spec_Alike.f (l0 : List Int) (a1 : Int) (a2 : Int) : Option (Bool) := (spec_Rank.f l0 a1).bind fun t111 => ((spec_Rank.f l0 a2).bind fun t112 => (some (t111 == t112)))
set_option maxHeartbeats 8000000 in
set_option maxRecDepth 100000 in
theorem spec_Alike.calls (A0 : Option Addr) (c0 : Nat) (l0 : List Int) (a1 : Int) (a2 : Int) (r : Bool) (w : World) (hr0 : Kd.C (Kd.int .i64) w A0 l0.length l0) (hc0 : l0.length ≤ c0) (h : spec_Alike.f l0 a1 a2 = some r) :
    Calls Try.prog 44 #[.slice A0 l0.length c0, .int .i64 a1, .int .i64 a2] w fun e w' => e = .returned (.bool r) ∧ Drawn0 w w' := by
  have HR0 := Aside0.mk hr0
  have HC0 := Aside0.mk hc0
  clear hr0 hc0
  have H : ((spec_Rank.f l0 a1).bind fun t111 => ((spec_Rank.f l0 a2).bind fun t112 => (some (t111 == t112)))) = some r := h
  clear h
  replace H := Option.bind_eq_some_iff.mp H
  obtain ⟨t111, A40, H⟩ := H
  replace H : ((spec_Rank.f l0 a2).bind fun t112 => (some (t111 == t112))) = some r := H
  have A4 := Aside0.mk A40
  clear A40
  replace H := Option.bind_eq_some_iff.mp H
  obtain ⟨t112, A50, H⟩ := H
  replace H : (some (t111 == t112)) = some r := H
  have A5 := Aside0.mk A50
  clear A50
  obtain rfl := Option.some.inj H
  go_enter Try.func44, Try.ntmps44
  go_wp2_with (first | ((with_reducible refine gate_callee (f := 19) rfl ?_); refine goesL_ (some 9) rfl rfl Try.func19 (by kernel_rfl) rfl #[.slice A0 l0.length c0, .int .i64 a1] rfl (by (try simp only [List.map_toArray, List.map_cons, List.map_nil]); first | done | rfl | (simp only [List.length_drop, List.length_take]; rfl)) ?_; (with_reducible refine (spec_Rank.calls _ _ l0 a1 t111 _ ?side1 ?side2 A4.out).mono ?_); (case side1 => repeat (first | exact HR0.out | (with_reducible refine Kd.C_alloc ?_ _) | (with_reducible refine Kd.C_drewN ?_ _) | (with_reducible refine Kd.C_drew ?_))); (case side2 => exact HC0.out); rintro e w' ⟨rfl, ⟨nd, rfl⟩⟩; refine ⟨_, rfl, ?_⟩) | ((with_reducible refine gate_callee (f := 19) rfl ?_); refine goesL_ (some 12) rfl rfl Try.func19 (by kernel_rfl) rfl #[.slice A0 l0.length c0, .int .i64 a2] rfl (by (try simp only [List.map_toArray, List.map_cons, List.map_nil]); first | done | rfl | (simp only [List.length_drop, List.length_take]; rfl)) ?_; (with_reducible refine (spec_Rank.calls _ _ l0 a2 t112 _ ?side1 ?side2 A5.out).mono ?_); (case side1 => repeat (first | exact HR0.out | (with_reducible refine Kd.C_alloc ?_ _) | (with_reducible refine Kd.C_drewN ?_ _) | (with_reducible refine Kd.C_drew ?_))); (case side2 => exact HC0.out); rintro e w' ⟨rfl, ⟨nd, rfl⟩⟩; refine ⟨_, rfl, ?_⟩))
  go_ret
  exact ⟨by first | rfl | (simp; done) | (simp [*]; done), by repeat (first | exact Drawn0.refl _ | apply Drawn0.step)⟩

/-! ### spec_BagRows: function 20 -/
mutual
def spec_BagRows.l0 : Nat → List Int → List Int → List Int → Int → Option (Bool)
  | 0, _, _, _, _ => none
  | k + 1, x0, x1, x2, x7 => if x7 < (x1.length : Int) then (spec_BagRows.l1 k x0 x1 x2 x7 0 0 0) else (some true)
def spec_BagRows.l1 : Nat → List Int → List Int → List Int → Int → Int → Int → Int → Option (Bool)
  | 0, _, _, _, _, _, _, _ => none
  | k + 1, x0, x1, x2, x7, x8, x9, x10 => if x10 < (x1.length : Int) then (if 0 ≤ x7 then (if x7 < (x1.length : Int) then (if 0 ≤ x10 then ((spec_Alike.f x0 (rd x1 x7) (rd x1 x10)).bind fun t115 => (if t115 = true then (if x10 < (x2.length : Int) then ((spec_Alike.f x0 (rd x1 x7) (rd x2 x10)).bind fun t118 => (if t118 = true then (spec_BagRows.l1 k x0 x1 x2 x7 (wrap64 (x8 + 1)) (wrap64 (x9 + 1)) (wrap64 (x10 + 1))) else (spec_BagRows.l1 k x0 x1 x2 x7 (wrap64 (x8 + 1)) x9 (wrap64 (x10 + 1))))) else (none)) else (if x10 < (x2.length : Int) then ((spec_Alike.f x0 (rd x1 x7) (rd x2 x10)).bind fun t121 => (if t121 = true then (spec_BagRows.l1 k x0 x1 x2 x7 x8 (wrap64 (x9 + 1)) (wrap64 (x10 + 1))) else (spec_BagRows.l1 k x0 x1 x2 x7 x8 x9 (wrap64 (x10 + 1))))) else (none)))) else (none)) else (none)) else (none)) else (if x8 = x9 then (spec_BagRows.l0 k x0 x1 x2 (wrap64 (x7 + 1))) else (some false))
end
def spec_BagRows.f (k : Nat) (l0 : List Int) (l1 : List Int) (l2 : List Int) : Option (Bool) := if (l1.length : Int) = (l2.length : Int) then (spec_BagRows.l0 k l0 l1 l2 0) else (some false)
theorem spec_BagRows.mono_l : ∀ k, (∀ y0 y1 y2 y3, LeO (spec_BagRows.l0 k y0 y1 y2 y3) (spec_BagRows.l0 (k + 1) y0 y1 y2 y3)) ∧ (∀ y0 y1 y2 y3 y4 y5 y6, LeO (spec_BagRows.l1 k y0 y1 y2 y3 y4 y5 y6) (spec_BagRows.l1 (k + 1) y0 y1 y2 y3 y4 y5 y6))
  | 0 => ⟨fun _ _ _ _ r h => by simp [spec_BagRows.l0] at h, fun _ _ _ _ _ _ _ r h => by simp [spec_BagRows.l1] at h⟩
  | k + 1 => by
    obtain ⟨ih0, ih1⟩ := spec_BagRows.mono_l k
    refine ⟨?_, ?_⟩
    · intro y0 y1 y2 y3
      unfold spec_BagRows.l0
      repeat' first
      | (with_reducible exact ih0 _ _ _ _)
      | (with_reducible exact ih1 _ _ _ _ _ _ _)
      | (with_reducible exact LeO.refl _)
      | (with_reducible exact LeO.none _)
      | (with_reducible refine LeO.ite ?_ ?_)
      | (with_reducible refine LeO.bind ?_ (fun _ => ?_))
      | exact ih0 _ _ _ _
      | exact ih1 _ _ _ _ _ _ _
      | exact LeO.none _
      | refine LeO.ite ?_ ?_
      | refine LeO.bind ?_ (fun _ => ?_)
    · intro y0 y1 y2 y3 y4 y5 y6
      unfold spec_BagRows.l1
      repeat' first
      | (with_reducible exact ih0 _ _ _ _)
      | (with_reducible exact ih1 _ _ _ _ _ _ _)
      | (with_reducible exact LeO.refl _)
      | (with_reducible exact LeO.none _)
      | (with_reducible refine LeO.ite ?_ ?_)
      | (with_reducible refine LeO.bind ?_ (fun _ => ?_))
      | exact ih0 _ _ _ _
      | exact ih1 _ _ _ _ _ _ _
      | exact LeO.none _
      | refine LeO.ite ?_ ?_
      | refine LeO.bind ?_ (fun _ => ?_)
theorem spec_BagRows.mono : ∀ a0 a1 a2 k, LeO (spec_BagRows.f k a0 a1 a2) (spec_BagRows.f (k + 1) a0 a1 a2) := by
  intro a0 a1 a2 k
  obtain ⟨ih0, ih1⟩ := spec_BagRows.mono_l k
  unfold spec_BagRows.f
  repeat' first
      | (with_reducible exact ih0 _ _ _ _)
      | (with_reducible exact ih1 _ _ _ _ _ _ _)
      | (with_reducible exact LeO.refl _)
      | (with_reducible exact LeO.none _)
      | (with_reducible refine LeO.ite ?_ ?_)
      | (with_reducible refine LeO.bind ?_ (fun _ => ?_))
      | exact ih0 _ _ _ _
      | exact ih1 _ _ _ _ _ _ _
      | exact LeO.none _
      | refine LeO.ite ?_ ?_
      | refine LeO.bind ?_ (fun _ => ?_)
set_option maxHeartbeats 8000000 in
set_option maxRecDepth 100000 in
theorem spec_BagRows.calls (k : Nat) (A0 : Option Addr) (c0 : Nat) (l0 : List Int) (A1 : Option Addr) (c1 : Nat) (l1 : List Int) (A2 : Option Addr) (c2 : Nat) (l2 : List Int) (r : Bool) (w : World) (hr0 : Kd.C (Kd.int .i64) w A0 l0.length l0) (hc0 : l0.length ≤ c0) (hr1 : Kd.C (Kd.int .i64) w A1 l1.length l1) (hc1 : l1.length ≤ c1) (hr2 : Kd.C (Kd.int .i64) w A2 l2.length l2) (hc2 : l2.length ≤ c2) (h : spec_BagRows.f k l0 l1 l2 = some r) :
    Calls Try.prog 20 #[.slice A0 l0.length c0, .slice A1 l1.length c1, .slice A2 l2.length c2] w fun e w' => e = .returned (.bool r) ∧ Drawn0 w w' := by
  have HR0 := Aside0.mk hr0
  have HC0 := Aside0.mk hc0
  clear hr0 hc0
  have HR1 := Aside0.mk hr1
  have HC1 := Aside0.mk hc1
  clear hr1 hc1
  have HR2 := Aside0.mk hr2
  have HC2 := Aside0.mk hc2
  clear hr2 hc2
  have H : (if (l1.length : Int) = (l2.length : Int) then (spec_BagRows.l0 k l0 l1 l2 0) else (some false)) = some r := h
  clear h
  by_cases c4 : (l1.length : Int) = (l2.length : Int)
  · rw [if_pos c4] at H
    have c4b0 : ((l1.length : Int) == (l2.length : Int)) = true := beq_iff_eq.mpr c4
    have c4b1 : ((l1.length : Int) != (l2.length : Int)) = false := bne_eq_false_iff_eq.mpr c4
    have c4b2 : (l1.length == l2.length) = true := by first | simpa using c4 | (simp at c4 ⊢; omega)
    clear c4
    have H' := Aside0.mk H
    clear H
    go_enter Try.func20, Try.ntmps20
    go_wp2
    repeat (go_quiet (fail); try go_wp2)
    go_loopg [7] k (fun kq v7 w' => ∃ (x7_1 : Int), v7 = .int .i64 x7_1 ∧ Aside0 (spec_BagRows.l0 kq l0 l1 l2 x7_1 = some r) ∧ Aside0 (kq ≤ k) ∧ Drawn0 w w')
    case atStart => exact ⟨(0), (by first | rfl | (simp; done) | (simp [*]; done)), H', ⟨Nat.le_refl _⟩, by repeat (first | exact Drawn0.refl _ | apply Drawn0.step)⟩
    case round =>
      clear H'
      try clear c1
      try clear c2
      try clear p2
      try clear c4
      try clear c4b0
      try clear c4b1
      try clear c4b2
      obtain ⟨x7_1, rfl, HA, HK1, ⟨m1, rfl⟩⟩ := hrel
      cases gk with
      | zero => exact absurd HA.out (by simp [spec_BagRows.l0])
      | succ k1 =>
        have H := HA.out
        clear HA
        simp only [spec_BagRows.l0] at H
        by_cases c5 : x7_1 < (l1.length : Int)
        · rw [if_pos c5] at H
          have c5b0 : decide (x7_1 < (l1.length : Int)) = true := decide_eq_true c5
          clear c5
          have H' := Aside0.mk H
          clear H
          go_wp2
          repeat (go_quiet (fail); try go_wp2)
          go_loopg [8, 9, 10] k1 (fun kq v8 v9 v10 w' => ∃ (x8_2 : Int) (x9_2 : Int) (x10_2 : Int), v8 = .int .i64 x8_2 ∧ v9 = .int .i64 x9_2 ∧ v10 = .int .i64 x10_2 ∧ Aside0 (spec_BagRows.l1 kq l0 l1 l2 x7_1 x8_2 x9_2 x10_2 = some r) ∧ Aside0 (kq ≤ k1) ∧ Drawn0 w w')
          case atStart => exact ⟨(0), (0), (0), (by first | rfl | (simp; done) | (simp [*]; done)), (by first | rfl | (simp; done) | (simp [*]; done)), (by first | rfl | (simp; done) | (simp [*]; done)), H', ⟨Nat.le_refl _⟩, by repeat (first | exact Drawn0.refl _ | apply Drawn0.step)⟩
          case round =>
            clear H'
            try clear c1
            try clear c2
            try clear p2
            try clear c4
            try clear c4b0
            try clear c4b1
            try clear c4b2
            try clear c5
            try clear c5b0
            try clear p2
            obtain ⟨x8_2, x9_2, x10_2, rfl, rfl, rfl, HA, HK2, ⟨m2, rfl⟩⟩ := hrel
            cases gk with
            | zero => exact absurd HA.out (by simp [spec_BagRows.l1])
            | succ k2 =>
              have H := HA.out
              clear HA
              simp only [spec_BagRows.l1] at H
              by_cases c6 : x10_2 < (l1.length : Int)
              · rw [if_pos c6] at H
                have c6b0 : decide (x10_2 < (l1.length : Int)) = true := decide_eq_true c6
                clear c6
                by_cases c7 : 0 ≤ x7_1
                · rw [if_pos c7] at H
                  have c7b0 : decide (0 ≤ x7_1) = true := decide_eq_true c7
                  clear c7
                  by_cases c8 : x7_1 < (l1.length : Int)
                  · rw [if_pos c8] at H
                    have c8b0 : decide (x7_1 < (l1.length : Int)) = true := decide_eq_true c8
                    clear c8
                    by_cases c9 : 0 ≤ x10_2
                    · rw [if_pos c9] at H
                      have c9b0 : decide (0 ≤ x10_2) = true := decide_eq_true c9
                      clear c9
                      replace H := Option.bind_eq_some_iff.mp H
                      obtain ⟨t115, A100, H⟩ := H
                      replace H : (if t115 = true then (if x10_2 < (l2.length : Int) then ((spec_Alike.f l0 (rd l1 x7_1) (rd l2 x10_2)).bind fun t118 => (if t118 = true then (spec_BagRows.l1 k2 l0 l1 l2 x7_1 (wrap64 (x8_2 + 1)) (wrap64 (x9_2 + 1)) (wrap64 (x10_2 + 1))) else (spec_BagRows.l1 k2 l0 l1 l2 x7_1 (wrap64 (x8_2 + 1)) x9_2 (wrap64 (x10_2 + 1))))) else (none)) else (if x10_2 < (l2.length : Int) then ((spec_Alike.f l0 (rd l1 x7_1) (rd l2 x10_2)).bind fun t121 => (if t121 = true then (spec_BagRows.l1 k2 l0 l1 l2 x7_1 x8_2 (wrap64 (x9_2 + 1)) (wrap64 (x10_2 + 1))) else (spec_BagRows.l1 k2 l0 l1 l2 x7_1 x8_2 x9_2 (wrap64 (x10_2 + 1))))) else (none))) = some r := H
                      have A10 := Aside0.mk A100
                      clear A100
                      by_cases c11 : t115 = true
                      · subst c11
                        have H1 : (if x10_2 < (l2.length : Int) then ((spec_Alike.f l0 (rd l1 x7_1) (rd l2 x10_2)).bind fun t118 => (if t118 = true then (spec_BagRows.l1 k2 l0 l1 l2 x7_1 (wrap64 (x8_2 + 1)) (wrap64 (x9_2 + 1)) (wrap64 (x10_2 + 1))) else (spec_BagRows.l1 k2 l0 l1 l2 x7_1 (wrap64 (x8_2 + 1)) x9_2 (wrap64 (x10_2 + 1))))) else (none)) = some r := by rw [if_pos rfl] at H; exact H
                        clear H
                        have H := H1
                        clear H1
                        by_cases c12 : x10_2 < (l2.length : Int)
                        · rw [if_pos c12] at H
                          have c12b0 : decide (x10_2 < (l2.length : Int)) = true := decide_eq_true c12
                          clear c12
                          replace H := Option.bind_eq_some_iff.mp H
                          obtain ⟨t118, A130, H⟩ := H
                          replace H : (if t118 = true then (spec_BagRows.l1 k2 l0 l1 l2 x7_1 (wrap64 (x8_2 + 1)) (wrap64 (x9_2 + 1)) (wrap64 (x10_2 + 1))) else (spec_BagRows.l1 k2 l0 l1 l2 x7_1 (wrap64 (x8_2 + 1)) x9_2 (wrap64 (x10_2 + 1)))) = some r := H
                          have A13 := Aside0.mk A130
                          clear A130
                          by_cases c14 : t118 = true
                          · subst c14
                            have H1 : (spec_BagRows.l1 k2 l0 l1 l2 x7_1 (wrap64 (x8_2 + 1)) (wrap64 (x9_2 + 1)) (wrap64 (x10_2 + 1))) = some r := by rw [if_pos rfl] at H; exact H
                            clear H
                            have H := H1
                            clear H1
                            have H' := Aside0.mk H
                            clear H
                            have p113 : 0 ≤ (x7_1 : Int) := of_decide_eq_true (by first | (with_reducible assumption) | assumption)
                            have q113 : x7_1 < (l1.length : Int) := of_decide_eq_true (by first | (with_reducible assumption) | assumption)
                            obtain ⟨ad113, e113, hx113_0⟩ := Kd.at_int HR1.out x7_1 p113 q113
                            cases e113
                            replace p113 := eq_true p113
                            replace q113 := eq_true q113
                            have p114 : 0 ≤ (x10_2 : Int) := of_decide_eq_true (by first | (with_reducible assumption) | assumption)
                            have q114 : x10_2 < (l1.length : Int) := of_decide_eq_true (by first | (with_reducible assumption) | assumption)
                            obtain ⟨ad114, e114, hx114_0⟩ := Kd.at_int HR1.out x10_2 p114 q114
                            obtain rfl : ad113 = ad114 := (by injection e114)
                            replace p114 := eq_true p114
                            replace q114 := eq_true q114
                            go_wp2_with (first | (go_at_call 44; (with_reducible refine (spec_Alike.calls _ _ l0 (rd l1 x7_1) (rd l1 x10_2) true _ ?side1 ?side2 A10.out).mono ?_); (case side1 => repeat (first | exact HR0.out | (with_reducible refine Kd.C_alloc ?_ _) | (with_reducible refine Kd.C_drewN ?_ _) | (with_reducible refine Kd.C_drew ?_))); (case side2 => exact HC0.out); rintro e w' ⟨rfl, ⟨nd, rfl⟩⟩; (try first | exact ⟨rfl, _, World.drewN_drewN _ _ _⟩ | exact ⟨rfl, _, Eq.trans (World.drewN_drewN _ _ _) (congrArg (World.drewN _) (Nat.add_assoc _ _ _))⟩); have p116 : 0 ≤ (x7_1 : Int) := of_decide_eq_true (by first | (with_reducible assumption) | assumption); have q116 : x7_1 < (l1.length : Int) := of_decide_eq_true (by first | (with_reducible assumption) | assumption); obtain ⟨ad116, e116, hx116_0⟩ := Kd.at_int HR1.out x7_1 p116 q116; obtain rfl : ad113 = ad116 := (by injection e116); replace p116 := eq_true p116; replace q116 := eq_true q116; have p117 : 0 ≤ (x10_2 : Int) := of_decide_eq_true (by first | (with_reducible assumption) | assumption); have q117 : x10_2 < (l2.length : Int) := of_decide_eq_true (by first | (with_reducible assumption) | assumption); obtain ⟨ad117, e117, hx117_0⟩ := Kd.at_int HR2.out x10_2 p117 q117; cases e117; replace p117 := eq_true p117; replace q117 := eq_true q117) | (go_at_call 44; (with_reducible refine (spec_Alike.calls _ _ l0 (rd l1 x7_1) (rd l2 x10_2) true _ ?side1 ?side2 A13.out).mono ?_); (case side1 => repeat (first | exact HR0.out | (with_reducible refine Kd.C_alloc ?_ _) | (with_reducible refine Kd.C_drewN ?_ _) | (with_reducible refine Kd.C_drew ?_))); (case side2 => exact HC0.out); rintro e w' ⟨rfl, ⟨nd, rfl⟩⟩; (try first | exact ⟨rfl, _, World.drewN_drewN _ _ _⟩ | exact ⟨rfl, _, Eq.trans (World.drewN_drewN _ _ _) (congrArg (World.drewN _) (Nat.add_assoc _ _ _))⟩)))
                            repeat (go_quiet (first | (go_at_call 44; (with_reducible refine (spec_Alike.calls _ _ l0 (rd l1 x7_1) (rd l1 x10_2) true _ ?side1 ?side2 A10.out).mono ?_); (case side1 => repeat (first | exact HR0.out | (with_reducible refine Kd.C_alloc ?_ _) | (with_reducible refine Kd.C_drewN ?_ _) | (with_reducible refine Kd.C_drew ?_))); (case side2 => exact HC0.out); rintro e w' ⟨rfl, ⟨nd, rfl⟩⟩; (try first | exact ⟨rfl, _, World.drewN_drewN _ _ _⟩ | exact ⟨rfl, _, Eq.trans (World.drewN_drewN _ _ _) (congrArg (World.drewN _) (Nat.add_assoc _ _ _))⟩); have p116 : 0 ≤ (x7_1 : Int) := of_decide_eq_true (by first | (with_reducible assumption) | assumption); have q116 : x7_1 < (l1.length : Int) := of_decide_eq_true (by first | (with_reducible assumption) | assumption); obtain ⟨ad116, e116, hx116_0⟩ := Kd.at_int HR1.out x7_1 p116 q116; obtain rfl : ad113 = ad116 := (by injection e116); replace p116 := eq_true p116; replace q116 := eq_true q116; have p117 : 0 ≤ (x10_2 : Int) := of_decide_eq_true (by first | (with_reducible assumption) | assumption); have q117 : x10_2 < (l2.length : Int) := of_decide_eq_true (by first | (with_reducible assumption) | assumption); obtain ⟨ad117, e117, hx117_0⟩ := Kd.at_int HR2.out x10_2 p117 q117; cases e117; replace p117 := eq_true p117; replace q117 := eq_true q117) | (go_at_call 44; (with_reducible refine (spec_Alike.calls _ _ l0 (rd l1 x7_1) (rd l2 x10_2) true _ ?side1 ?side2 A13.out).mono ?_); (case side1 => repeat (first | exact HR0.out | (with_reducible refine Kd.C_alloc ?_ _) | (with_reducible refine Kd.C_drewN ?_ _) | (with_reducible refine Kd.C_drew ?_))); (case side2 => exact HC0.out); rintro e w' ⟨rfl, ⟨nd, rfl⟩⟩; (try first | exact ⟨rfl, _, World.drewN_drewN _ _ _⟩ | exact ⟨rfl, _, Eq.trans (World.drewN_drewN _ _ _) (congrArg (World.drewN _) (Nat.add_assoc _ _ _))⟩))); try go_wp2_with (first | (go_at_call 44; (with_reducible refine (spec_Alike.calls _ _ l0 (rd l1 x7_1) (rd l1 x10_2) true _ ?side1 ?side2 A10.out).mono ?_); (case side1 => repeat (first | exact HR0.out | (with_reducible refine Kd.C_alloc ?_ _) | (with_reducible refine Kd.C_drewN ?_ _) | (with_reducible refine Kd.C_drew ?_))); (case side2 => exact HC0.out); rintro e w' ⟨rfl, ⟨nd, rfl⟩⟩; (try first | exact ⟨rfl, _, World.drewN_drewN _ _ _⟩ | exact ⟨rfl, _, Eq.trans (World.drewN_drewN _ _ _) (congrArg (World.drewN _) (Nat.add_assoc _ _ _))⟩); have p116 : 0 ≤ (x7_1 : Int) := of_decide_eq_true (by first | (with_reducible assumption) | assumption); have q116 : x7_1 < (l1.length : Int) := of_decide_eq_true (by first | (with_reducible assumption) | assumption); obtain ⟨ad116, e116, hx116_0⟩ := Kd.at_int HR1.out x7_1 p116 q116; obtain rfl : ad113 = ad116 := (by injection e116); replace p116 := eq_true p116; replace q116 := eq_true q116; have p117 : 0 ≤ (x10_2 : Int) := of_decide_eq_true (by first | (with_reducible assumption) | assumption); have q117 : x10_2 < (l2.length : Int) := of_decide_eq_true (by first | (with_reducible assumption) | assumption); obtain ⟨ad117, e117, hx117_0⟩ := Kd.at_int HR2.out x10_2 p117 q117; cases e117; replace p117 := eq_true p117; replace q117 := eq_true q117) | (go_at_call 44; (with_reducible refine (spec_Alike.calls _ _ l0 (rd l1 x7_1) (rd l2 x10_2) true _ ?side1 ?side2 A13.out).mono ?_); (case side1 => repeat (first | exact HR0.out | (with_reducible refine Kd.C_alloc ?_ _) | (with_reducible refine Kd.C_drewN ?_ _) | (with_reducible refine Kd.C_drew ?_))); (case side2 => exact HC0.out); rintro e w' ⟨rfl, ⟨nd, rfl⟩⟩; (try first | exact ⟨rfl, _, World.drewN_drewN _ _ _⟩ | exact ⟨rfl, _, Eq.trans (World.drewN_drewN _ _ _) (congrArg (World.drewN _) (Nat.add_assoc _ _ _))⟩))))
                            go_roundg k2
                            case measure => have := HK1.out; have := HK2.out; omega
                            case rel => exact ⟨(wrap64 (x8_2 + 1)), (wrap64 (x9_2 + 1)), (wrap64 (x10_2 + 1)), (by first | rfl | (simp; done) | (simp [*]; done)), (by first | rfl | (simp; done) | (simp [*]; done)), (by first | rfl | (simp; done) | (simp [*]; done)), H', ⟨by have := HK1.out; have := HK2.out; omega⟩, by repeat (first | exact Drawn0.refl _ | apply Drawn0.step)⟩
                          · replace c14 := Bool.eq_false_iff.mpr c14
                            subst c14
                            have H1 : (spec_BagRows.l1 k2 l0 l1 l2 x7_1 (wrap64 (x8_2 + 1)) x9_2 (wrap64 (x10_2 + 1))) = some r := by rw [if_neg (show ¬ (false = true) by decide)] at H; exact H
                            clear H
                            have H := H1
                            clear H1
                            have H' := Aside0.mk H
                            clear H
                            have p113 : 0 ≤ (x7_1 : Int) := of_decide_eq_true (by first | (with_reducible assumption) | assumption)
                            have q113 : x7_1 < (l1.length : Int) := of_decide_eq_true (by first | (with_reducible assumption) | assumption)
                            obtain ⟨ad113, e113, hx113_0⟩ := Kd.at_int HR1.out x7_1 p113 q113
                            cases e113
                            replace p113 := eq_true p113
                            replace q113 := eq_true q113
                            have p114 : 0 ≤ (x10_2 : Int) := of_decide_eq_true (by first | (with_reducible assumption) | assumption)
                            have q114 : x10_2 < (l1.length : Int) := of_decide_eq_true (by first | (with_reducible assumption) | assumption)
                            obtain ⟨ad114, e114, hx114_0⟩ := Kd.at_int HR1.out x10_2 p114 q114
                            obtain rfl : ad113 = ad114 := (by injection e114)
                            replace p114 := eq_true p114
                            replace q114 := eq_true q114
                            go_wp2_with (first | (go_at_call 44; (with_reducible refine (spec_Alike.calls _ _ l0 (rd l1 x7_1) (rd l1 x10_2) true _ ?side1 ?side2 A10.out).mono ?_); (case side1 => repeat (first | exact HR0.out | (with_reducible refine Kd.C_alloc ?_ _) | (with_reducible refine Kd.C_drewN ?_ _) | (with_reducible refine Kd.C_drew ?_))); (case side2 => exact HC0.out); rintro e w' ⟨rfl, ⟨nd, rfl⟩⟩; (try first | exact ⟨rfl, _, World.drewN_drewN _ _ _⟩ | exact ⟨rfl, _, Eq.trans (World.drewN_drewN _ _ _) (congrArg (World.drewN _) (Nat.add_assoc _ _ _))⟩); have p116 : 0 ≤ (x7_1 : Int) := of_decide_eq_true (by first | (with_reducible assumption) | assumption); have q116 : x7_1 < (l1.length : Int) := of_decide_eq_true (by first | (with_reducible assumption) | assumption); obtain ⟨ad116, e116, hx116_0⟩ := Kd.at_int HR1.out x7_1 p116 q116; obtain rfl : ad113 = ad116 := (by injection e116); replace p116 := eq_true p116; replace q116 := eq_true q116; have p117 : 0 ≤ (x10_2 : Int) := of_decide_eq_true (by first | (with_reducible assumption) | assumption); have q117 : x10_2 < (l2.length : Int) := of_decide_eq_true (by first | (with_reducible assumption) | assumption); obtain ⟨ad117, e117, hx117_0⟩ := Kd.at_int HR2.out x10_2 p117 q117; cases e117; replace p117 := eq_true p117; replace q117 := eq_true q117) | (go_at_call 44; (with_reducible refine (spec_Alike.calls _ _ l0 (rd l1 x7_1) (rd l2 x10_2) false _ ?side1 ?side2 A13.out).mono ?_); (case side1 => repeat (first | exact HR0.out | (with_reducible refine Kd.C_alloc ?_ _) | (with_reducible refine Kd.C_drewN ?_ _) | (with_reducible refine Kd.C_drew ?_))); (case side2 => exact HC0.out); rintro e w' ⟨rfl, ⟨nd, rfl⟩⟩; (try first | exact ⟨rfl, _, World.drewN_drewN _ _ _⟩ | exact ⟨rfl, _, Eq.trans (World.drewN_drewN _ _ _) (congrArg (World.drewN _) (Nat.add_assoc _ _ _))⟩)))
                            repeat (go_quiet (first | (go_at_call 44; (with_reducible refine (spec_Alike.calls _ _ l0 (rd l1 x7_1) (rd l1 x10_2) true _ ?side1 ?side2 A10.out).mono ?_); (case side1 => repeat (first | exact HR0.out | (with_reducible refine Kd.C_alloc ?_ _) | (with_reducible refine Kd.C_drewN ?_ _) | (with_reducible refine Kd.C_drew ?_))); (case side2 => exact HC0.out); rintro e w' ⟨rfl, ⟨nd, rfl⟩⟩; (try first | exact ⟨rfl, _, World.drewN_drewN _ _ _⟩ | exact ⟨rfl, _, Eq.trans (World.drewN_drewN _ _ _) (congrArg (World.drewN _) (Nat.add_assoc _ _ _))⟩); have p116 : 0 ≤ (x7_1 : Int) := of_decide_eq_true (by first | (with_reducible assumption) | assumption); have q116 : x7_1 < (l1.length : Int) := of_decide_eq_true (by first | (with_reducible assumption) | assumption); obtain ⟨ad116, e116, hx116_0⟩ := Kd.at_int HR1.out x7_1 p116 q116; obtain rfl : ad113 = ad116 := (by injection e116); replace p116 := eq_true p116; replace q116 := eq_true q116; have p117 : 0 ≤ (x10_2 : Int) := of_decide_eq_true (by first | (with_reducible assumption) | assumption); have q117 : x10_2 < (l2.length : Int) := of_decide_eq_true (by first | (with_reducible assumption) | assumption); obtain ⟨ad117, e117, hx117_0⟩ := Kd.at_int HR2.out x10_2 p117 q117; cases e117; replace p117 := eq_true p117; replace q117 := eq_true q117) | (go_at_call 44; (with_reducible refine (spec_Alike.calls _ _ l0 (rd l1 x7_1) (rd l2 x10_2) false _ ?side1 ?side2 A13.out).mono ?_); (case side1 => repeat (first | exact HR0.out | (with_reducible refine Kd.C_alloc ?_ _) | (with_reducible refine Kd.C_drewN ?_ _) | (with_reducible refine Kd.C_drew ?_))); (case side2 => exact HC0.out); rintro e w' ⟨rfl, ⟨nd, rfl⟩⟩; (try first | exact ⟨rfl, _, World.drewN_drewN _ _ _⟩ | exact ⟨rfl, _, Eq.trans (World.drewN_drewN _ _ _) (congrArg (World.drewN _) (Nat.add_assoc _ _ _))⟩))); try go_wp2_with (first | (go_at_call 44; (with_reducible refine (spec_Alike.calls _ _ l0 (rd l1 x7_1) (rd l1 x10_2) true _ ?side1 ?side2 A10.out).mono ?_); (case side1 => repeat (first | exact HR0.out | (with_reducible refine Kd.C_alloc ?_ _) | (with_reducible refine Kd.C_drewN ?_ _) | (with_reducible refine Kd.C_drew ?_))); (case side2 => exact HC0.out); rintro e w' ⟨rfl, ⟨nd, rfl⟩⟩; (try first | exact ⟨rfl, _, World.drewN_drewN _ _ _⟩ | exact ⟨rfl, _, Eq.trans (World.drewN_drewN _ _ _) (congrArg (World.drewN _) (Nat.add_assoc _ _ _))⟩); have p116 : 0 ≤ (x7_1 : Int) := of_decide_eq_true (by first | (with_reducible assumption) | assumption); have q116 : x7_1 < (l1.length : Int) := of_decide_eq_true (by first | (with_reducible assumption) | assumption); obtain ⟨ad116, e116, hx116_0⟩ := Kd.at_int HR1.out x7_1 p116 q116; obtain rfl : ad113 = ad116 := (by injection e116); replace p116 := eq_true p116; replace q116 := eq_true q116; have p117 : 0 ≤ (x10_2 : Int) := of_decide_eq_true (by first | (with_reducible assumption) | assumption); have q117 : x10_2 < (l2.length : Int) := of_decide_eq_true (by first | (with_reducible assumption) | assumption); obtain ⟨ad117, e117, hx117_0⟩ := Kd.at_int HR2.out x10_2 p117 q117; cases e117; replace p117 := eq_true p117; replace q117 := eq_true q117) | (go_at_call 44; (with_reducible refine (spec_Alike.calls _ _ l0 (rd l1 x7_1) (rd l2 x10_2) false _ ?side1 ?side2 A13.out).mono ?_); (case side1 => repeat (first | exact HR0.out | (with_reducible refine Kd.C_alloc ?_ _) | (with_reducible refine Kd.C_drewN ?_ _) | (with_reducible refine Kd.C_drew ?_))); (case side2 => exact HC0.out); rintro e w' ⟨rfl, ⟨nd, rfl⟩⟩; (try first | exact ⟨rfl, _, World.drewN_drewN _ _ _⟩ | exact ⟨rfl, _, Eq.trans (World.drewN_drewN _ _ _) (congrArg (World.drewN _) (Nat.add_assoc _ _ _))⟩))))
                            go_roundg k2
                            case measure => have := HK1.out; have := HK2.out; omega
                            case rel => exact ⟨(wrap64 (x8_2 + 1)), (x9_2), (wrap64 (x10_2 + 1)), (by first | rfl | (simp; done) | (simp [*]; done)), (by first | rfl | (simp; done) | (simp [*]; done)), (by first | rfl | (simp; done) | (simp [*]; done)), H', ⟨by have := HK1.out; have := HK2.out; omega⟩, by repeat (first | exact Drawn0.refl _ | apply Drawn0.step)⟩
                        · rw [if_neg c12] at H
                          exact absurd H (by simp)
                      · replace c11 := Bool.eq_false_iff.mpr c11
                        subst c11
                        have H1 : (if x10_2 < (l2.length : Int) then ((spec_Alike.f l0 (rd l1 x7_1) (rd l2 x10_2)).bind fun t121 => (if t121 = true then (spec_BagRows.l1 k2 l0 l1 l2 x7_1 x8_2 (wrap64 (x9_2 + 1)) (wrap64 (x10_2 + 1))) else (spec_BagRows.l1 k2 l0 l1 l2 x7_1 x8_2 x9_2 (wrap64 (x10_2 + 1))))) else (none)) = some r := by rw [if_neg (show ¬ (false = true) by decide)] at H; exact H
                        clear H
                        have H := H1
                        clear H1
                        by_cases c15 : x10_2 < (l2.length : Int)
                        · rw [if_pos c15] at H
                          have c15b0 : decide (x10_2 < (l2.length : Int)) = true := decide_eq_true c15
                          clear c15
                          replace H := Option.bind_eq_some_iff.mp H
                          obtain ⟨t121, A160, H⟩ := H
                          replace H : (if t121 = true then (spec_BagRows.l1 k2 l0 l1 l2 x7_1 x8_2 (wrap64 (x9_2 + 1)) (wrap64 (x10_2 + 1))) else (spec_BagRows.l1 k2 l0 l1 l2 x7_1 x8_2 x9_2 (wrap64 (x10_2 + 1)))) = some r := H
                          have A16 := Aside0.mk A160
                          clear A160
                          by_cases c17 : t121 = true
                          · subst c17
                            have H1 : (spec_BagRows.l1 k2 l0 l1 l2 x7_1 x8_2 (wrap64 (x9_2 + 1)) (wrap64 (x10_2 + 1))) = some r := by rw [if_pos rfl] at H; exact H
                            clear H
                            have H := H1
                            clear H1
                            have H' := Aside0.mk H
                            clear H
                            have p113 : 0 ≤ (x7_1 : Int) := of_decide_eq_true (by first | (with_reducible assumption) | assumption)
                            have q113 : x7_1 < (l1.length : Int) := of_decide_eq_true (by first | (with_reducible assumption) | assumption)
                            obtain ⟨ad113, e113, hx113_0⟩ := Kd.at_int HR1.out x7_1 p113 q113
                            cases e113
                            replace p113 := eq_true p113
                            replace q113 := eq_true q113
                            have p114 : 0 ≤ (x10_2 : Int) := of_decide_eq_true (by first | (with_reducible assumption) | assumption)
                            have q114 : x10_2 < (l1.length : Int) := of_decide_eq_true (by first | (with_reducible assumption) | assumption)
                            obtain ⟨ad114, e114, hx114_0⟩ := Kd.at_int HR1.out x10_2 p114 q114
                            obtain rfl : ad113 = ad114 := (by injection e114)
                            replace p114 := eq_true p114
                            replace q114 := eq_true q114
                            go_wp2_with (first | (go_at_call 44; (with_reducible refine (spec_Alike.calls _ _ l0 (rd l1 x7_1) (rd l1 x10_2) false _ ?side1 ?side2 A10.out).mono ?_); (case side1 => repeat (first | exact HR0.out | (with_reducible refine Kd.C_alloc ?_ _) | (with_reducible refine Kd.C_drewN ?_ _) | (with_reducible refine Kd.C_drew ?_))); (case side2 => exact HC0.out); rintro e w' ⟨rfl, ⟨nd, rfl⟩⟩; (try first | exact ⟨rfl, _, World.drewN_drewN _ _ _⟩ | exact ⟨rfl, _, Eq.trans (World.drewN_drewN _ _ _) (congrArg (World.drewN _) (Nat.add_assoc _ _ _))⟩); have p119 : 0 ≤ (x7_1 : Int) := of_decide_eq_true (by first | (with_reducible assumption) | assumption); have q119 : x7_1 < (l1.length : Int) := of_decide_eq_true (by first | (with_reducible assumption) | assumption); obtain ⟨ad119, e119, hx119_0⟩ := Kd.at_int HR1.out x7_1 p119 q119; obtain rfl : ad113 = ad119 := (by injection e119); replace p119 := eq_true p119; replace q119 := eq_true q119; have p120 : 0 ≤ (x10_2 : Int) := of_decide_eq_true (by first | (with_reducible assumption) | assumption); have q120 : x10_2 < (l2.length : Int) := of_decide_eq_true (by first | (with_reducible assumption) | assumption); obtain ⟨ad120, e120, hx120_0⟩ := Kd.at_int HR2.out x10_2 p120 q120; cases e120; replace p120 := eq_true p120; replace q120 := eq_true q120) | (go_at_call 44; (with_reducible refine (spec_Alike.calls _ _ l0 (rd l1 x7_1) (rd l2 x10_2) true _ ?side1 ?side2 A16.out).mono ?_); (case side1 => repeat (first | exact HR0.out | (with_reducible refine Kd.C_alloc ?_ _) | (with_reducible refine Kd.C_drewN ?_ _) | (with_reducible refine Kd.C_drew ?_))); (case side2 => exact HC0.out); rintro e w' ⟨rfl, ⟨nd, rfl⟩⟩; (try first | exact ⟨rfl, _, World.drewN_drewN _ _ _⟩ | exact ⟨rfl, _, Eq.trans (World.drewN_drewN _ _ _) (congrArg (World.drewN _) (Nat.add_assoc _ _ _))⟩)))
                            repeat (go_quiet (first | (go_at_call 44; (with_reducible refine (spec_Alike.calls _ _ l0 (rd l1 x7_1) (rd l1 x10_2) false _ ?side1 ?side2 A10.out).mono ?_); (case side1 => repeat (first | exact HR0.out | (with_reducible refine Kd.C_alloc ?_ _) | (with_reducible refine Kd.C_drewN ?_ _) | (with_reducible refine Kd.C_drew ?_))); (case side2 => exact HC0.out); rintro e w' ⟨rfl, ⟨nd, rfl⟩⟩; (try first | exact ⟨rfl, _, World.drewN_drewN _ _ _⟩ | exact ⟨rfl, _, Eq.trans (World.drewN_drewN _ _ _) (congrArg (World.drewN _) (Nat.add_assoc _ _ _))⟩); have p119 : 0 ≤ (x7_1 : Int) := of_decide_eq_true (by first | (with_reducible assumption) | assumption); have q119 : x7_1 < (l1.length : Int) := of_decide_eq_true (by first | (with_reducible assumption) | assumption); obtain ⟨ad119, e119, hx119_0⟩ := Kd.at_int HR1.out x7_1 p119 q119; obtain rfl : ad113 = ad119 := (by injection e119); replace p119 := eq_true p119; replace q119 := eq_true q119; have p120 : 0 ≤ (x10_2 : Int) := of_decide_eq_true (by first | (with_reducible assumption) | assumption); have q120 : x10_2 < (l2.length : Int) := of_decide_eq_true (by first | (with_reducible assumption) | assumption); obtain ⟨ad120, e120, hx120_0⟩ := Kd.at_int HR2.out x10_2 p120 q120; cases e120; replace p120 := eq_true p120; replace q120 := eq_true q120) | (go_at_call 44; (with_reducible refine (spec_Alike.calls _ _ l0 (rd l1 x7_1) (rd l2 x10_2) true _ ?side1 ?side2 A16.out).mono ?_); (case side1 => repeat (first | exact HR0.out | (with_reducible refine Kd.C_alloc ?_ _) | (with_reducible refine Kd.C_drewN ?_ _) | (with_reducible refine Kd.C_drew ?_))); (case side2 => exact HC0.out); rintro e w' ⟨rfl, ⟨nd, rfl⟩⟩; (try first | exact ⟨rfl, _, World.drewN_drewN _ _ _⟩ | exact ⟨rfl, _, Eq.trans (World.drewN_drewN _ _ _) (congrArg (World.drewN _) (Nat.add_assoc _ _ _))⟩))); try go_wp2_with (first | (go_at_call 44; (with_reducible refine (spec_Alike.calls _ _ l0 (rd l1 x7_1) (rd l1 x10_2) false _ ?side1 ?side2 A10.out).mono ?_); (case side1 => repeat (first | exact HR0.out | (with_reducible refine Kd.C_alloc ?_ _) | (with_reducible refine Kd.C_drewN ?_ _) | (with_reducible refine Kd.C_drew ?_))); (case side2 => exact HC0.out); rintro e w' ⟨rfl, ⟨nd, rfl⟩⟩; (try first | exact ⟨rfl, _, World.drewN_drewN _ _ _⟩ | exact ⟨rfl, _, Eq.trans (World.drewN_drewN _ _ _) (congrArg (World.drewN _) (Nat.add_assoc _ _ _))⟩); have p119 : 0 ≤ (x7_1 : Int) := of_decide_eq_true (by first | (with_reducible assumption) | assumption); have q119 : x7_1 < (l1.length : Int) := of_decide_eq_true (by first | (with_reducible assumption) | assumption); obtain ⟨ad119, e119, hx119_0⟩ := Kd.at_int HR1.out x7_1 p119 q119; obtain rfl : ad113 = ad119 := (by injection e119); replace p119 := eq_true p119; replace q119 := eq_true q119; have p120 : 0 ≤ (x10_2 : Int) := of_decide_eq_true (by first | (with_reducible assumption) | assumption); have q120 : x10_2 < (l2.length : Int) := of_decide_eq_true (by first | (with_reducible assumption) | assumption); obtain ⟨ad120, e120, hx120_0⟩ := Kd.at_int HR2.out x10_2 p120 q120; cases e120; replace p120 := eq_true p120; replace q120 := eq_true q120) | (go_at_call 44; (with_reducible refine (spec_Alike.calls _ _ l0 (rd l1 x7_1) (rd l2 x10_2) true _ ?side1 ?side2 A16.out).mono ?_); (case side1 => repeat (first | exact HR0.out | (with_reducible refine Kd.C_alloc ?_ _) | (with_reducible refine Kd.C_drewN ?_ _) | (with_reducible refine Kd.C_drew ?_))); (case side2 => exact HC0.out); rintro e w' ⟨rfl, ⟨nd, rfl⟩⟩; (try first | exact ⟨rfl, _, World.drewN_drewN _ _ _⟩ | exact ⟨rfl, _, Eq.trans (World.drewN_drewN _ _ _) (congrArg (World.drewN _) (Nat.add_assoc _ _ _))⟩))))
                            go_roundg k2
                            case measure => have := HK1.out; have := HK2.out; omega
                            case rel => exact ⟨(x8_2), (wrap64 (x9_2 + 1)), (wrap64 (x10_2 + 1)), (by first | rfl | (simp; done) | (simp [*]; done)), (by first | rfl | (simp; done) | (simp [*]; done)), (by first | rfl | (simp; done) | (simp [*]; done)), H', ⟨by have := HK1.out; have := HK2.out; omega⟩, by repeat (first | exact Drawn0.refl _ | apply Drawn0.step)⟩
                          · replace c17 := Bool.eq_false_iff.mpr c17
                            subst c17
                            have H1 : (spec_BagRows.l1 k2 l0 l1 l2 x7_1 x8_2 x9_2 (wrap64 (x10_2 + 1))) = some r := by rw [if_neg (show ¬ (false = true) by decide)] at H; exact H
                            clear H
                            have H := H1
                            clear H1
                            have H' := Aside0.mk H
                            clear H
                            have p113 : 0 ≤ (x7_1 : Int) := of_decide_eq_true (by first | (with_reducible assumption) | assumption)
                            have q113 : x7_1 < (l1.length : Int) := of_decide_eq_true (by first | (with_reducible assumption) | assumption)
                            obtain ⟨ad113, e113, hx113_0⟩ := Kd.at_int HR1.out x7_1 p113 q113
                            cases e113
                            replace p113 := eq_true p113
                            replace q113 := eq_true q113
                            have p114 : 0 ≤ (x10_2 : Int) := of_decide_eq_true (by first | (with_reducible assumption) | assumption)
                            have q114 : x10_2 < (l1.length : Int) := of_decide_eq_true (by first | (with_reducible assumption) | assumption)
                            obtain ⟨ad114, e114, hx114_0⟩ := Kd.at_int HR1.out x10_2 p114 q114
                            obtain rfl : ad113 = ad114 := (by injection e114)
                            replace p114 := eq_true p114
                            replace q114 := eq_true q114
                            go_wp2_with (first | (go_at_call 44; (with_reducible refine (spec_Alike.calls _ _ l0 (rd l1 x7_1) (rd l1 x10_2) false _ ?side1 ?side2 A10.out).mono ?_); (case side1 => repeat (first | exact HR0.out | (with_reducible refine Kd.C_alloc ?_ _) | (with_reducible refine Kd.C_drewN ?_ _) | (with_reducible refine Kd.C_drew ?_))); (case side2 => exact HC0.out); rintro e w' ⟨rfl, ⟨nd, rfl⟩⟩; (try first | exact ⟨rfl, _, World.drewN_drewN _ _ _⟩ | exact ⟨rfl, _, Eq.trans (World.drewN_drewN _ _ _) (congrArg (World.drewN _) (Nat.add_assoc _ _ _))⟩); have p119 : 0 ≤ (x7_1 : Int) := of_decide_eq_true (by first | (with_reducible assumption) | assumption); have q119 : x7_1 < (l1.length : Int) := of_decide_eq_true (by first | (with_reducible assumption) | assumption); obtain ⟨ad119, e119, hx119_0⟩ := Kd.at_int HR1.out x7_1 p119 q119; obtain rfl : ad113 = ad119 := (by injection e119); replace p119 := eq_true p119; replace q119 := eq_true q119; have p120 : 0 ≤ (x10_2 : Int) := of_decide_eq_true (by first | (with_reducible assumption) | assumption); have q120 : x10_2 < (l2.length : Int) := of_decide_eq_true (by first | (with_reducible assumption) | assumption); obtain ⟨ad120, e120, hx120_0⟩ := Kd.at_int HR2.out x10_2 p120 q120; cases e120; replace p120 := eq_true p120; replace q120 := eq_true q120) | (go_at_call 44; (with_reducible refine (spec_Alike.calls _ _ l0 (rd l1 x7_1) (rd l2 x10_2) false _ ?side1 ?side2 A16.out).mono ?_); (case side1 => repeat (first | exact HR0.out | (with_reducible refine Kd.C_alloc ?_ _) | (with_reducible refine Kd.C_drewN ?_ _) | (with_reducible refine Kd.C_drew ?_))); (case side2 => exact HC0.out); rintro e w' ⟨rfl, ⟨nd, rfl⟩⟩; (try first | exact ⟨rfl, _, World.drewN_drewN _ _ _⟩ | exact ⟨rfl, _, Eq.trans (World.drewN_drewN _ _ _) (congrArg (World.drewN _) (Nat.add_assoc _ _ _))⟩)))
                            repeat (go_quiet (first | (go_at_call 44; (with_reducible refine (spec_Alike.calls _ _ l0 (rd l1 x7_1) (rd l1 x10_2) false _ ?side1 ?side2 A10.out).mono ?_); (case side1 => repeat (first | exact HR0.out | (with_reducible refine Kd.C_alloc ?_ _) | (with_reducible refine Kd.C_drewN ?_ _) | (with_reducible refine Kd.C_drew ?_))); (case side2 => exact HC0.out); rintro e w' ⟨rfl, ⟨nd, rfl⟩⟩; (try first | exact ⟨rfl, _, World.drewN_drewN _ _ _⟩ | exact ⟨rfl, _, Eq.trans (World.drewN_drewN _ _ _) (congrArg (World.drewN _) (Nat.add_assoc _ _ _))⟩); have p119 : 0 ≤ (x7_1 : Int) := of_decide_eq_true (by first | (with_reducible assumption) | assumption); have q119 : x7_1 < (l1.length : Int) := of_decide_eq_true (by first | (with_reducible assumption) | assumption); obtain ⟨ad119, e119, hx119_0⟩ := Kd.at_int HR1.out x7_1 p119 q119; obtain rfl : ad113 = ad119 := (by injection e119); replace p119 := eq_true p119; replace q119 := eq_true q119; have p120 : 0 ≤ (x10_2 : Int) := of_decide_eq_true (by first | (with_reducible assumption) | assumption); have q120 : x10_2 < (l2.length : Int) := of_decide_eq_true (by first | (with_reducible assumption) | assumption); obtain ⟨ad120, e120, hx120_0⟩ := Kd.at_int HR2.out x10_2 p120 q120; cases e120; replace p120 := eq_true p120; replace q120 := eq_true q120) | (go_at_call 44; (with_reducible refine (spec_Alike.calls _ _ l0 (rd l1 x7_1) (rd l2 x10_2) false _ ?side1 ?side2 A16.out).mono ?_); (case side1 => repeat (first | exact HR0.out | (with_reducible refine Kd.C_alloc ?_ _) | (with_reducible refine Kd.C_drewN ?_ _) | (with_reducible refine Kd.C_drew ?_))); (case side2 => exact HC0.out); rintro e w' ⟨rfl, ⟨nd, rfl⟩⟩; (try first | exact ⟨rfl, _, World.drewN_drewN _ _ _⟩ | exact ⟨rfl, _, Eq.trans (World.drewN_drewN _ _ _) (congrArg (World.drewN _) (Nat.add_assoc _ _ _))⟩))); try go_wp2_with (first | (go_at_call 44; (with_reducible refine (spec_Alike.calls _ _ l0 (rd l1 x7_1) (rd l1 x10_2) false _ ?side1 ?side2 A10.out).mono ?_); (case side1 => repeat (first | exact HR0.out | (with_reducible refine Kd.C_alloc ?_ _) | (with_reducible refine Kd.C_drewN ?_ _) | (with_reducible refine Kd.C_drew ?_))); (case side2 => exact HC0.out); rintro e w' ⟨rfl, ⟨nd, rfl⟩⟩; (try first | exact ⟨rfl, _, World.drewN_drewN _ _ _⟩ | exact ⟨rfl, _, Eq.trans (World.drewN_drewN _ _ _) (congrArg (World.drewN _) (Nat.add_assoc _ _ _))⟩); have p119 : 0 ≤ (x7_1 : Int) := of_decide_eq_true (by first | (with_reducible assumption) | assumption); have q119 : x7_1 < (l1.length : Int) := of_decide_eq_true (by first | (with_reducible assumption) | assumption); obtain ⟨ad119, e119, hx119_0⟩ := Kd.at_int HR1.out x7_1 p119 q119; obtain rfl : ad113 = ad119 := (by injection e119); replace p119 := eq_true p119; replace q119 := eq_true q119; have p120 : 0 ≤ (x10_2 : Int) := of_decide_eq_true (by first | (with_reducible assumption) | assumption); have q120 : x10_2 < (l2.length : Int) := of_decide_eq_true (by first | (with_reducible assumption) | assumption); obtain ⟨ad120, e120, hx120_0⟩ := Kd.at_int HR2.out x10_2 p120 q120; cases e120; replace p120 := eq_true p120; replace q120 := eq_true q120) | (go_at_call 44; (with_reducible refine (spec_Alike.calls _ _ l0 (rd l1 x7_1) (rd l2 x10_2) false _ ?side1 ?side2 A16.out).mono ?_); (case side1 => repeat (first | exact HR0.out | (with_reducible refine Kd.C_alloc ?_ _) | (with_reducible refine Kd.C_drewN ?_ _) | (with_reducible refine Kd.C_drew ?_))); (case side2 => exact HC0.out); rintro e w' ⟨rfl, ⟨nd, rfl⟩⟩; (try first | exact ⟨rfl, _, World.drewN_drewN _ _ _⟩ | exact ⟨rfl, _, Eq.trans (World.drewN_drewN _ _ _) (congrArg (World.drewN _) (Nat.add_assoc _ _ _))⟩))))
                            go_roundg k2
                            case measure => have := HK1.out; have := HK2.out; omega
                            case rel => exact ⟨(x8_2), (x9_2), (wrap64 (x10_2 + 1)), (by first | rfl | (simp; done) | (simp [*]; done)), (by first | rfl | (simp; done) | (simp [*]; done)), (by first | rfl | (simp; done) | (simp [*]; done)), H', ⟨by have := HK1.out; have := HK2.out; omega⟩, by repeat (first | exact Drawn0.refl _ | apply Drawn0.step)⟩
                        · rw [if_neg c15] at H
                          exact absurd H (by simp)
                    · rw [if_neg c9] at H
                      exact absurd H (by simp)
                  · rw [if_neg c8] at H
                    exact absurd H (by simp)
                · rw [if_neg c7] at H
                  exact absurd H (by simp)
              · rw [if_neg c6] at H
                have c6b0 : decide (x10_2 < (l1.length : Int)) = false := decide_eq_false c6
                clear c6
                by_cases c18 : x8_2 = x9_2
                · rw [if_pos c18] at H
                  have c18b0 : (x8_2 == x9_2) = true := beq_iff_eq.mpr c18
                  have c18b1 : (x8_2 != x9_2) = false := bne_eq_false_iff_eq.mpr c18
                  clear c18
                  have H' := Aside0.mk H
                  clear H
                  go_wp2
                  repeat (go_quiet (fail); try go_wp2)
                  go_roundg k2
                  case measure => have := HK1.out; have := HK2.out; omega
                  case rel => exact ⟨(wrap64 (x7_1 + 1)), (by first | rfl | (simp; done) | (simp [*]; done)), H', ⟨by have := HK1.out; have := HK2.out; omega⟩, by repeat (first | exact Drawn0.refl _ | apply Drawn0.step)⟩
                · rw [if_neg c18] at H
                  have c18b0 : (x8_2 == x9_2) = false := beq_eq_false_iff_ne.mpr c18
                  have c18b1 : (x8_2 != x9_2) = true := bne_iff_ne.mpr c18
                  obtain rfl := Option.some.inj H
                  go_wp2
                  repeat (go_quiet (fail); try go_wp2)
                  go_ret
                  exact ⟨by first | rfl | (simp; done) | (simp [*]; done), by repeat (first | exact Drawn0.refl _ | apply Drawn0.step)⟩
        · rw [if_neg c5] at H
          have c5b0 : decide (x7_1 < (l1.length : Int)) = false := decide_eq_false c5
          clear c5
          obtain rfl := Option.some.inj H
          go_wp2
          repeat (go_quiet (fail); try go_wp2)
          go_ret
          exact ⟨by first | rfl | (simp; done) | (simp [*]; done), by repeat (first | exact Drawn0.refl _ | apply Drawn0.step)⟩
  · rw [if_neg c4] at H
    have c4b0 : ((l1.length : Int) == (l2.length : Int)) = false := beq_eq_false_iff_ne.mpr c4
    have c4b1 : ((l1.length : Int) != (l2.length : Int)) = true := bne_iff_ne.mpr c4
    have c4b2 : (l1.length == l2.length) = false := by first | simpa using c4 | (simp at c4 ⊢; omega)
    obtain rfl := Option.some.inj H
    go_enter Try.func20, Try.ntmps20
    go_wp2
    repeat (go_quiet (fail); try go_wp2)
    go_ret
    exact ⟨by first | rfl | (simp; done) | (simp [*]; done), by repeat (first | exact Drawn0.refl _ | apply Drawn0.step)⟩

-- NOT PRINTED: function 45 (heap_Heap_int_ZzData)

/-! ### impl_HeapData: function 21 -/
def st_of2 (x : S27) : Seen.St := (x.f0, x.f1, x.f2, x.f3)
def impl_HeapData.f (l0 : List Int) (a1 : Int) (l2 : List Int) (l3 : List (S27)) : Option (List Int) :=
  if l0.length ≤ 140737488351232 ∧ l2.length ≤ 274877906944 ∧ l3.length ≤ 274877906944 then some (Heap.runH (Less.rankOf l0) (HeapPure.madeT (Less.rankOf l0) a1 l2) (l3.map st_of2)) else none
theorem impl_HeapData.calls (A0 : Option Addr) (c0 : Nat) (l0 : List Int) (a1 : Int) (A2 : Option Addr) (c2 : Nat) (l2 : List Int) (A3 : Option Addr) (c3 : Nat) (l3 : List (S27)) (r : List Int) (w : World) (hr0 : Kd.C (Kd.int .i64) w A0 l0.length l0) (hc0 : l0.length ≤ c0) (hr2 : Kd.C (Kd.int .i64) w A2 l2.length l2) (hc2 : l2.length ≤ c2) (hr3 : Kd.C k27 w A3 l3.length l3) (hc3 : l3.length ≤ c3) (h : impl_HeapData.f l0 a1 l2 l3 = some r) :
    Calls Try.prog 21 #[.slice A0 l0.length c0, .int .i64 a1, .slice A2 l2.length c2, .slice A3 l3.length c3] w fun e w' => ∃ v0_ : Value, e = .returned (v0_) ∧ Kd.R (Kd.int .i64) 3 w' w.heap.size (fun _ => True) v0_ r ∧ Below w.heap.size w w' := by
  unfold impl_HeapData.f at h
  by_cases q : l0.length ≤ 140737488351232 ∧ l2.length ≤ 274877906944 ∧ l3.length ≤ 274877906944
  · rw [if_pos q] at h
    obtain rfl := Option.some.inj h
    have hl : (l3.map st_of2).length = l3.length := List.length_map ..
    have hC : Kd.C Seen.stK w A3 (l3.map st_of2).length (l3.map st_of2) := by rw [hl]; exact Row.C_iso hr3
    have H := Heap.HeapData_any A0 c0 l0 a1 A2 c2 l2 A3 c3 (l3.map st_of2) w hr0 hr2 hC q.1 q.2.1 (by rw [hl]; exact q.2.2)
    rw [hl] at H
    exact H
  · rw [if_neg q] at h; cases h

/-! ### laws_heapTree: function 23 -/
def laws_heapTree.l0 : Nat → List Int → List Int → Int → Option (Bool)
  | 0, _, _, _ => none
  | k + 1, x0, x1, x5 => if x5 < (x1.length : Int) then (if 0 ≤ x5 then ((spec_Rank.f x0 (rd x1 x5)).bind fun t126 => (if 0 ≤ (wrap64 (Int.tdiv (wrap64 (x5 - 1)) 2)) then (if (wrap64 (Int.tdiv (wrap64 (x5 - 1)) 2)) < (x1.length : Int) then ((spec_Rank.f x0 (rd x1 (wrap64 (Int.tdiv (wrap64 (x5 - 1)) 2)))).bind fun t128 => (if t126 < t128 then (some false) else (laws_heapTree.l0 k x0 x1 (wrap64 (x5 + 1))))) else (none)) else (none))) else (none)) else (some true)
def laws_heapTree.f (k : Nat) (l0 : List Int) (l1 : List Int) : Option (Bool) := laws_heapTree.l0 k l0 l1 1
theorem laws_heapTree.mono_l : ∀ k, (∀ y0 y1 y2, LeO (laws_heapTree.l0 k y0 y1 y2) (laws_heapTree.l0 (k + 1) y0 y1 y2))
  | 0 => fun _ _ _ r h => by simp [laws_heapTree.l0] at h
  | k + 1 => by
    have ih0 := laws_heapTree.mono_l k
    · intro y0 y1 y2
      unfold laws_heapTree.l0
      repeat' first
      | (with_reducible exact ih0 _ _ _)
      | (with_reducible exact LeO.refl _)
      | (with_reducible exact LeO.none _)
      | (with_reducible refine LeO.ite ?_ ?_)
      | (with_reducible refine LeO.bind ?_ (fun _ => ?_))
      | exact ih0 _ _ _
      | exact LeO.none _
      | refine LeO.ite ?_ ?_
      | refine LeO.bind ?_ (fun _ => ?_)
theorem laws_heapTree.mono : ∀ a0 a1 k, LeO (laws_heapTree.f k a0 a1) (laws_heapTree.f (k + 1) a0 a1) := by
  intro a0 a1 k
  have ih0 := laws_heapTree.mono_l k
  unfold laws_heapTree.f
  repeat' first
      | (with_reducible exact ih0 _ _ _)
      | (with_reducible exact LeO.refl _)
      | (with_reducible exact LeO.none _)
      | (with_reducible refine LeO.ite ?_ ?_)
      | (with_reducible refine LeO.bind ?_ (fun _ => ?_))
      | exact ih0 _ _ _
      | exact LeO.none _
      | refine LeO.ite ?_ ?_
      | refine LeO.bind ?_ (fun _ => ?_)
set_option maxHeartbeats 8000000 in
set_option maxRecDepth 100000 in
theorem laws_heapTree.calls (k : Nat) (A0 : Option Addr) (c0 : Nat) (l0 : List Int) (A1 : Option Addr) (c1 : Nat) (l1 : List Int) (r : Bool) (w : World) (hr0 : Kd.C (Kd.int .i64) w A0 l0.length l0) (hc0 : l0.length ≤ c0) (hr1 : Kd.C (Kd.int .i64) w A1 l1.length l1) (hc1 : l1.length ≤ c1) (h : laws_heapTree.f k l0 l1 = some r) :
    Calls Try.prog 23 #[.slice A0 l0.length c0, .slice A1 l1.length c1] w fun e w' => e = .returned (.bool r) ∧ Drawn0 w w' := by
  have HR0 := Aside0.mk hr0
  have HC0 := Aside0.mk hc0
  clear hr0 hc0
  have HR1 := Aside0.mk hr1
  have HC1 := Aside0.mk hc1
  clear hr1 hc1
  have H : (laws_heapTree.l0 k l0 l1 1) = some r := h
  clear h
  have H' := Aside0.mk H
  clear H
  go_enter Try.func23, Try.ntmps23
  go_wp2
  repeat (go_quiet (fail); try go_wp2)
  go_loopg [5] k (fun kq v5 w' => ∃ (x5_1 : Int), v5 = .int .i64 x5_1 ∧ Aside0 (laws_heapTree.l0 kq l0 l1 x5_1 = some r) ∧ Aside0 (kq ≤ k) ∧ Drawn0 w w')
  case atStart => exact ⟨(1), (by first | rfl | (simp; done) | (simp [*]; done)), H', ⟨Nat.le_refl _⟩, by repeat (first | exact Drawn0.refl _ | apply Drawn0.step)⟩
  case round =>
    clear H'
    try clear c1
    try clear c2
    try clear p2
    obtain ⟨x5_1, rfl, HA, HK1, ⟨m1, rfl⟩⟩ := hrel
    cases gk with
    | zero => exact absurd HA.out (by simp [laws_heapTree.l0])
    | succ k1 =>
      have H := HA.out
      clear HA
      simp only [laws_heapTree.l0] at H
      by_cases c3 : x5_1 < (l1.length : Int)
      · rw [if_pos c3] at H
        have c3b0 : decide (x5_1 < (l1.length : Int)) = true := decide_eq_true c3
        clear c3
        by_cases c4 : 0 ≤ x5_1
        · rw [if_pos c4] at H
          have c4b0 : decide (0 ≤ x5_1) = true := decide_eq_true c4
          clear c4
          replace H := Option.bind_eq_some_iff.mp H
          obtain ⟨t126, A50, H⟩ := H
          replace H : (if 0 ≤ (wrap64 (Int.tdiv (wrap64 (x5_1 - 1)) 2)) then (if (wrap64 (Int.tdiv (wrap64 (x5_1 - 1)) 2)) < (l1.length : Int) then ((spec_Rank.f l0 (rd l1 (wrap64 (Int.tdiv (wrap64 (x5_1 - 1)) 2)))).bind fun t128 => (if t126 < t128 then (some false) else (laws_heapTree.l0 k1 l0 l1 (wrap64 (x5_1 + 1))))) else (none)) else (none)) = some r := H
          have A5 := Aside0.mk A50
          clear A50
          obtain ⟨ji6, hji6⟩ : ∃ j_ : Int, (wrap64 (Int.tdiv (wrap64 (x5_1 - 1)) 2)) = j_ := ⟨_, rfl⟩
          replace H : (if 0 ≤ (ji6) then (if (ji6) < (l1.length : Int) then ((spec_Rank.f l0 (rd l1 (ji6))).bind fun t128 => (if t126 < t128 then (some false) else (laws_heapTree.l0 k1 l0 l1 (wrap64 (x5_1 + 1))))) else (none)) else (none)) = some r := by first | (rw [hji6] at H; exact H) | (simp only [hji6] at H ⊢; exact H)
          (try rw [hji6] at A5)
          have hji6w : (IntKind.i64.wrap (Int.tdiv (wrap64 (x5_1 - 1)) 2)) = ji6 := (i64_w _).trans hji6
          have hji6v : (IntKind.i64.wrap (Int.tdiv (IntKind.i64.wrap (x5_1 - 1)) 2)) = ji6 := by simpa only [i64_w] using hji6
          by_cases c7 : 0 ≤ (ji6)
          · rw [if_pos c7] at H
            have c7b0 : decide (0 ≤ (ji6)) = true := decide_eq_true c7
            clear c7
            by_cases c8 : (ji6) < (l1.length : Int)
            · rw [if_pos c8] at H
              have c8b0 : decide ((ji6) < (l1.length : Int)) = true := decide_eq_true c8
              clear c8
              replace H := Option.bind_eq_some_iff.mp H
              obtain ⟨t128, A90, H⟩ := H
              replace H : (if t126 < t128 then (some false) else (laws_heapTree.l0 k1 l0 l1 (wrap64 (x5_1 + 1)))) = some r := H
              have A9 := Aside0.mk A90
              clear A90
              by_cases c10 : t126 < t128
              · rw [if_pos c10] at H
                have c10b0 : decide (t126 < t128) = true := decide_eq_true c10
                clear c10
                obtain rfl := Option.some.inj H
                have p125 : 0 ≤ (x5_1 : Int) := of_decide_eq_true (by first | (with_reducible assumption) | assumption)
                have q125 : x5_1 < (l1.length : Int) := of_decide_eq_true (by first | (with_reducible assumption) | assumption)
                obtain ⟨ad125, e125, hx125_0⟩ := Kd.at_int HR1.out x5_1 p125 q125
                cases e125
                replace p125 := eq_true p125
                replace q125 := eq_true q125
                go_wp2_with (first | (go_at_call 19; (with_reducible refine (spec_Rank.calls _ _ l0 (rd l1 x5_1) t126 _ ?side1 ?side2 A5.out).mono ?_); (case side1 => repeat (first | exact HR0.out | (with_reducible refine Kd.C_alloc ?_ _) | (with_reducible refine Kd.C_drewN ?_ _) | (with_reducible refine Kd.C_drew ?_))); (case side2 => exact HC0.out); rintro e w' ⟨rfl, ⟨nd, rfl⟩⟩; (try first | exact ⟨rfl, _, World.drewN_drewN _ _ _⟩ | exact ⟨rfl, _, Eq.trans (World.drewN_drewN _ _ _) (congrArg (World.drewN _) (Nat.add_assoc _ _ _))⟩); have p127 : 0 ≤ ((ji6) : Int) := of_decide_eq_true (by first | (with_reducible assumption) | assumption); have q127 : (ji6) < (l1.length : Int) := of_decide_eq_true (by first | (with_reducible assumption) | assumption); obtain ⟨ad127, e127, hx127_0⟩ := Kd.at_int HR1.out (ji6) p127 q127; obtain rfl : ad125 = ad127 := (by injection e127); replace p127 := eq_true p127; replace q127 := eq_true q127) | (go_at_call 19; (with_reducible refine (spec_Rank.calls _ _ l0 (rd l1 (ji6)) t128 _ ?side1 ?side2 A9.out).mono ?_); (case side1 => repeat (first | exact HR0.out | (with_reducible refine Kd.C_alloc ?_ _) | (with_reducible refine Kd.C_drewN ?_ _) | (with_reducible refine Kd.C_drew ?_))); (case side2 => exact HC0.out); rintro e w' ⟨rfl, ⟨nd, rfl⟩⟩; (try first | exact ⟨rfl, _, World.drewN_drewN _ _ _⟩ | exact ⟨rfl, _, Eq.trans (World.drewN_drewN _ _ _) (congrArg (World.drewN _) (Nat.add_assoc _ _ _))⟩)))
                repeat (go_quiet (first | (go_at_call 19; (with_reducible refine (spec_Rank.calls _ _ l0 (rd l1 x5_1) t126 _ ?side1 ?side2 A5.out).mono ?_); (case side1 => repeat (first | exact HR0.out | (with_reducible refine Kd.C_alloc ?_ _) | (with_reducible refine Kd.C_drewN ?_ _) | (with_reducible refine Kd.C_drew ?_))); (case side2 => exact HC0.out); rintro e w' ⟨rfl, ⟨nd, rfl⟩⟩; (try first | exact ⟨rfl, _, World.drewN_drewN _ _ _⟩ | exact ⟨rfl, _, Eq.trans (World.drewN_drewN _ _ _) (congrArg (World.drewN _) (Nat.add_assoc _ _ _))⟩); have p127 : 0 ≤ ((ji6) : Int) := of_decide_eq_true (by first | (with_reducible assumption) | assumption); have q127 : (ji6) < (l1.length : Int) := of_decide_eq_true (by first | (with_reducible assumption) | assumption); obtain ⟨ad127, e127, hx127_0⟩ := Kd.at_int HR1.out (ji6) p127 q127; obtain rfl : ad125 = ad127 := (by injection e127); replace p127 := eq_true p127; replace q127 := eq_true q127) | (go_at_call 19; (with_reducible refine (spec_Rank.calls _ _ l0 (rd l1 (ji6)) t128 _ ?side1 ?side2 A9.out).mono ?_); (case side1 => repeat (first | exact HR0.out | (with_reducible refine Kd.C_alloc ?_ _) | (with_reducible refine Kd.C_drewN ?_ _) | (with_reducible refine Kd.C_drew ?_))); (case side2 => exact HC0.out); rintro e w' ⟨rfl, ⟨nd, rfl⟩⟩; (try first | exact ⟨rfl, _, World.drewN_drewN _ _ _⟩ | exact ⟨rfl, _, Eq.trans (World.drewN_drewN _ _ _) (congrArg (World.drewN _) (Nat.add_assoc _ _ _))⟩))); try go_wp2_with (first | (go_at_call 19; (with_reducible refine (spec_Rank.calls _ _ l0 (rd l1 x5_1) t126 _ ?side1 ?side2 A5.out).mono ?_); (case side1 => repeat (first | exact HR0.out | (with_reducible refine Kd.C_alloc ?_ _) | (with_reducible refine Kd.C_drewN ?_ _) | (with_reducible refine Kd.C_drew ?_))); (case side2 => exact HC0.out); rintro e w' ⟨rfl, ⟨nd, rfl⟩⟩; (try first | exact ⟨rfl, _, World.drewN_drewN _ _ _⟩ | exact ⟨rfl, _, Eq.trans (World.drewN_drewN _ _ _) (congrArg (World.drewN _) (Nat.add_assoc _ _ _))⟩); have p127 : 0 ≤ ((ji6) : Int) := of_decide_eq_true (by first | (with_reducible assumption) | assumption); have q127 : (ji6) < (l1.length : Int) := of_decide_eq_true (by first | (with_reducible assumption) | assumption); obtain ⟨ad127, e127, hx127_0⟩ := Kd.at_int HR1.out (ji6) p127 q127; obtain rfl : ad125 = ad127 := (by injection e127); replace p127 := eq_true p127; replace q127 := eq_true q127) | (go_at_call 19; (with_reducible refine (spec_Rank.calls _ _ l0 (rd l1 (ji6)) t128 _ ?side1 ?side2 A9.out).mono ?_); (case side1 => repeat (first | exact HR0.out | (with_reducible refine Kd.C_alloc ?_ _) | (with_reducible refine Kd.C_drewN ?_ _) | (with_reducible refine Kd.C_drew ?_))); (case side2 => exact HC0.out); rintro e w' ⟨rfl, ⟨nd, rfl⟩⟩; (try first | exact ⟨rfl, _, World.drewN_drewN _ _ _⟩ | exact ⟨rfl, _, Eq.trans (World.drewN_drewN _ _ _) (congrArg (World.drewN _) (Nat.add_assoc _ _ _))⟩))))
                go_ret
                exact ⟨by first | rfl | (simp; done) | (simp only [← hji6] <;> (first | rfl | simp)) | (simp [*]; done), by repeat (first | exact Drawn0.refl _ | apply Drawn0.step)⟩
              · rw [if_neg c10] at H
                have c10b0 : decide (t126 < t128) = false := decide_eq_false c10
                clear c10
                have H' := Aside0.mk H
                clear H
                have p125 : 0 ≤ (x5_1 : Int) := of_decide_eq_true (by first | (with_reducible assumption) | assumption)
                have q125 : x5_1 < (l1.length : Int) := of_decide_eq_true (by first | (with_reducible assumption) | assumption)
                obtain ⟨ad125, e125, hx125_0⟩ := Kd.at_int HR1.out x5_1 p125 q125
                cases e125
                replace p125 := eq_true p125
                replace q125 := eq_true q125
                go_wp2_with (first | (go_at_call 19; (with_reducible refine (spec_Rank.calls _ _ l0 (rd l1 x5_1) t126 _ ?side1 ?side2 A5.out).mono ?_); (case side1 => repeat (first | exact HR0.out | (with_reducible refine Kd.C_alloc ?_ _) | (with_reducible refine Kd.C_drewN ?_ _) | (with_reducible refine Kd.C_drew ?_))); (case side2 => exact HC0.out); rintro e w' ⟨rfl, ⟨nd, rfl⟩⟩; (try first | exact ⟨rfl, _, World.drewN_drewN _ _ _⟩ | exact ⟨rfl, _, Eq.trans (World.drewN_drewN _ _ _) (congrArg (World.drewN _) (Nat.add_assoc _ _ _))⟩); have p127 : 0 ≤ ((ji6) : Int) := of_decide_eq_true (by first | (with_reducible assumption) | assumption); have q127 : (ji6) < (l1.length : Int) := of_decide_eq_true (by first | (with_reducible assumption) | assumption); obtain ⟨ad127, e127, hx127_0⟩ := Kd.at_int HR1.out (ji6) p127 q127; obtain rfl : ad125 = ad127 := (by injection e127); replace p127 := eq_true p127; replace q127 := eq_true q127) | (go_at_call 19; (with_reducible refine (spec_Rank.calls _ _ l0 (rd l1 (ji6)) t128 _ ?side1 ?side2 A9.out).mono ?_); (case side1 => repeat (first | exact HR0.out | (with_reducible refine Kd.C_alloc ?_ _) | (with_reducible refine Kd.C_drewN ?_ _) | (with_reducible refine Kd.C_drew ?_))); (case side2 => exact HC0.out); rintro e w' ⟨rfl, ⟨nd, rfl⟩⟩; (try first | exact ⟨rfl, _, World.drewN_drewN _ _ _⟩ | exact ⟨rfl, _, Eq.trans (World.drewN_drewN _ _ _) (congrArg (World.drewN _) (Nat.add_assoc _ _ _))⟩)))
                repeat (go_quiet (first | (go_at_call 19; (with_reducible refine (spec_Rank.calls _ _ l0 (rd l1 x5_1) t126 _ ?side1 ?side2 A5.out).mono ?_); (case side1 => repeat (first | exact HR0.out | (with_reducible refine Kd.C_alloc ?_ _) | (with_reducible refine Kd.C_drewN ?_ _) | (with_reducible refine Kd.C_drew ?_))); (case side2 => exact HC0.out); rintro e w' ⟨rfl, ⟨nd, rfl⟩⟩; (try first | exact ⟨rfl, _, World.drewN_drewN _ _ _⟩ | exact ⟨rfl, _, Eq.trans (World.drewN_drewN _ _ _) (congrArg (World.drewN _) (Nat.add_assoc _ _ _))⟩); have p127 : 0 ≤ ((ji6) : Int) := of_decide_eq_true (by first | (with_reducible assumption) | assumption); have q127 : (ji6) < (l1.length : Int) := of_decide_eq_true (by first | (with_reducible assumption) | assumption); obtain ⟨ad127, e127, hx127_0⟩ := Kd.at_int HR1.out (ji6) p127 q127; obtain rfl : ad125 = ad127 := (by injection e127); replace p127 := eq_true p127; replace q127 := eq_true q127) | (go_at_call 19; (with_reducible refine (spec_Rank.calls _ _ l0 (rd l1 (ji6)) t128 _ ?side1 ?side2 A9.out).mono ?_); (case side1 => repeat (first | exact HR0.out | (with_reducible refine Kd.C_alloc ?_ _) | (with_reducible refine Kd.C_drewN ?_ _) | (with_reducible refine Kd.C_drew ?_))); (case side2 => exact HC0.out); rintro e w' ⟨rfl, ⟨nd, rfl⟩⟩; (try first | exact ⟨rfl, _, World.drewN_drewN _ _ _⟩ | exact ⟨rfl, _, Eq.trans (World.drewN_drewN _ _ _) (congrArg (World.drewN _) (Nat.add_assoc _ _ _))⟩))); try go_wp2_with (first | (go_at_call 19; (with_reducible refine (spec_Rank.calls _ _ l0 (rd l1 x5_1) t126 _ ?side1 ?side2 A5.out).mono ?_); (case side1 => repeat (first | exact HR0.out | (with_reducible refine Kd.C_alloc ?_ _) | (with_reducible refine Kd.C_drewN ?_ _) | (with_reducible refine Kd.C_drew ?_))); (case side2 => exact HC0.out); rintro e w' ⟨rfl, ⟨nd, rfl⟩⟩; (try first | exact ⟨rfl, _, World.drewN_drewN _ _ _⟩ | exact ⟨rfl, _, Eq.trans (World.drewN_drewN _ _ _) (congrArg (World.drewN _) (Nat.add_assoc _ _ _))⟩); have p127 : 0 ≤ ((ji6) : Int) := of_decide_eq_true (by first | (with_reducible assumption) | assumption); have q127 : (ji6) < (l1.length : Int) := of_decide_eq_true (by first | (with_reducible assumption) | assumption); obtain ⟨ad127, e127, hx127_0⟩ := Kd.at_int HR1.out (ji6) p127 q127; obtain rfl : ad125 = ad127 := (by injection e127); replace p127 := eq_true p127; replace q127 := eq_true q127) | (go_at_call 19; (with_reducible refine (spec_Rank.calls _ _ l0 (rd l1 (ji6)) t128 _ ?side1 ?side2 A9.out).mono ?_); (case side1 => repeat (first | exact HR0.out | (with_reducible refine Kd.C_alloc ?_ _) | (with_reducible refine Kd.C_drewN ?_ _) | (with_reducible refine Kd.C_drew ?_))); (case side2 => exact HC0.out); rintro e w' ⟨rfl, ⟨nd, rfl⟩⟩; (try first | exact ⟨rfl, _, World.drewN_drewN _ _ _⟩ | exact ⟨rfl, _, Eq.trans (World.drewN_drewN _ _ _) (congrArg (World.drewN _) (Nat.add_assoc _ _ _))⟩))))
                go_roundg k1
                case measure => have := HK1.out; omega
                case rel => exact ⟨(wrap64 (x5_1 + 1)), (by first | rfl | (simp; done) | (simp [*]; done)), H', ⟨by have := HK1.out; omega⟩, by repeat (first | exact Drawn0.refl _ | apply Drawn0.step)⟩
            · rw [if_neg c8] at H
              exact absurd H (by simp)
          · rw [if_neg c7] at H
            exact absurd H (by simp)
        · rw [if_neg c4] at H
          exact absurd H (by simp)
      · rw [if_neg c3] at H
        have c3b0 : decide (x5_1 < (l1.length : Int)) = false := decide_eq_false c3
        clear c3
        obtain rfl := Option.some.inj H
        go_wp2
        repeat (go_quiet (fail); try go_wp2)
        go_ret
        exact ⟨by first | rfl | (simp; done) | (simp [*]; done), by repeat (first | exact Drawn0.refl _ | apply Drawn0.step)⟩

end Go.Proofs.Ytmhnhfmkcipcpaa.QFnHeapTree
