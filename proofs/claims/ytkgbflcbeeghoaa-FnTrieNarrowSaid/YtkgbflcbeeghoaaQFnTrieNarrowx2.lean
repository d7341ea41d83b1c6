/- The machine's side of a law, as the kit's print writes it; of the functions that the print doesn't cover this session's own contracts stand in it: no condition. -/
import Derived.Test.YtkgbflcbeeghoaaQFnTrieNarrowx0
import Derived.Test.YtkgbflcbeeghoaaQFnTrieNarrowx1
namespace Go.Proofs.Ytkgbflcbeeghoaa.QFnTrieNarrow
open Go.RowKit Go.Proofs.YtkgbflcbeeghoaaW.PrintWords Go.Proofs.YtkgbflcbeeghoaaW.PrintLast Go.Proofs.YtkgbflcbeeghoaaW.PrintMore
attribute [local go_sem] max2_int min2_int max_two min_two max_three min_three max_four min_four   -- for this text's walks alone
set_option linter.unusedVariables false
set_option linter.unusedSimpArgs false

/-! ### spec_With: function 13 -/
def spec_With.l0 : Nat → List ByteArray → ByteArray → List ByteArray → Int → Option (List ByteArray)
  | 0, _, _, _, _ => none
  | k + 1, x0, x1, x5, x6 => if x6 < (x0.length : Int) then (if 0 ≤ x6 then ((spec_Begins.f (rdOf ByteArray.empty x0 x6) x1).bind fun t175 => (if t175 = true then (if x5.length < 8796093022208 then (spec_With.l0 k x0 x1 (x5 ++ [rdOf ByteArray.empty x0 x6]) (wrap64 (x6 + 1))) else (none)) else (spec_With.l0 k x0 x1 x5 (wrap64 (x6 + 1))))) else (none)) else (some x5)
def spec_With.f (k : Nat) (l0 : List ByteArray) (a1 : ByteArray) : Option (List ByteArray) := spec_With.l0 k l0 a1 ([] : List ByteArray) 0
theorem spec_With.mono_l : ∀ k, (∀ y0 y1 y2 y3, LeO (spec_With.l0 k y0 y1 y2 y3) (spec_With.l0 (k + 1) y0 y1 y2 y3))
  | 0 => fun _ _ _ _ r h => by simp [spec_With.l0] at h
  | k + 1 => by
    have ih0 := spec_With.mono_l k
    · intro y0 y1 y2 y3
      unfold spec_With.l0
      repeat' first
      | (with_reducible exact ih0 _ _ _ _)
      | (with_reducible exact LeO.refl _)
      | (with_reducible exact LeO.none _)
      | (with_reducible refine LeO.ite ?_ ?_)
      | (with_reducible refine LeO.bind ?_ (fun _ => ?_))
      | exact ih0 _ _ _ _
      | exact LeO.none _
      | refine LeO.ite ?_ ?_
      | refine LeO.bind ?_ (fun _ => ?_)
theorem spec_With.mono : ∀ a0 a1 k, LeO (spec_With.f k a0 a1) (spec_With.f (k + 1) a0 a1) := by
  intro a0 a1 k
  have ih0 := spec_With.mono_l k
  unfold spec_With.f
  repeat' first
      | (with_reducible exact ih0 _ _ _ _)
      | (with_reducible exact LeO.refl _)
      | (with_reducible exact LeO.none _)
      | (with_reducible refine LeO.ite ?_ ?_)
      | (with_reducible refine LeO.bind ?_ (fun _ => ?_))
      | exact ih0 _ _ _ _
      | exact LeO.none _
      | refine LeO.ite ?_ ?_
      | refine LeO.bind ?_ (fun _ => ?_)
set_option maxHeartbeats 8000000 in
set_option maxRecDepth 100000 in
theorem spec_With.calls (k : Nat) (A0 : Option Addr) (c0 : Nat) (l0 : List ByteArray) (a1 : ByteArray) (r : List ByteArray) (w : World) (hr0 : Kd.C Kd.string w A0 l0.length l0) (hc0 : l0.length ≤ c0) (h : spec_With.f k l0 a1 = some r) :
    Calls Try.prog 13 #[.slice A0 l0.length c0, .string a1] w fun e w' => ∃ v0_ : Value, e = .returned (v0_) ∧ Kd.R Kd.string 9 w' w.heap.size (fun _ => True) v0_ r ∧ Below w.heap.size w w' := by
  have HR0 := Aside0.mk hr0
  have HC0 := Aside0.mk hc0
  clear hr0 hc0
  have HB := Aside0.mk (Below.refl w.heap.size w)
  have H : (spec_With.l0 k l0 a1 ([] : List ByteArray) 0) = some r := h
  clear h
  have H' := Aside0.mk H
  clear H
  go_enter Try.func13, Try.ntmps13
  go_wp2
  go_loopg [5, 6] k (fun kq v5 v6 w' => ∃ (x5_1 : List ByteArray) (x6_1 : Int), v6 = .int .i64 x6_1 ∧ Aside0 (spec_With.l0 kq l0 a1 x5_1 x6_1 = some r) ∧ Aside0 (kq ≤ k) ∧ Aside0 (Kd.R Kd.string 9 w' w.heap.size (fun _ => True) v5 x5_1) ∧ Aside0 (Below w.heap.size w w'))
  case atStart => exact ⟨(([] : List ByteArray)), (0), (by first | rfl | (simp; done) | (simp [*]; done)), H', ⟨Nat.le_refl _⟩, ⟨by first | exact Kd.R_nil _ _ _ _ _ | exact Kd.N_nil _ _ _ _ _ | exact Kd.V_nil _ _ _ _ _ | exact Kd.Q_nil _ _ _ _ _ | exact Kd.S_nil _ _ _ _ _⟩, ⟨by repeat (first | (with_reducible first | exact HB.out | apply below_alloc | apply pw_below_drewN | apply below_drew1) | exact HB.out)⟩⟩
  case round =>
    clear H'
    try clear c1
    try clear p2
    obtain ⟨x5_1, x6_1, rfl, HA, HK1, HO_5, HB⟩ := hrel
    cases gk with
    | zero => exact absurd HA.out (by simp [spec_With.l0])
    | succ k1 =>
      have H := HA.out
      clear HA
      simp only [spec_With.l0] at H
      by_cases c3 : x6_1 < (l0.length : Int)
      · rw [if_pos c3] at H
        have c3b0 : decide (x6_1 < (l0.length : Int)) = true := decide_eq_true c3
        clear c3
        by_cases c4 : 0 ≤ x6_1
        · rw [if_pos c4] at H
          have c4b0 : decide (0 ≤ x6_1) = true := decide_eq_true c4
          clear c4
          replace H := Option.bind_eq_some_iff.mp H
          obtain ⟨t175, A50, H⟩ := H
          replace H : (if t175 = true then (if x5_1.length < 8796093022208 then (spec_With.l0 k1 l0 a1 (x5_1 ++ [rdOf ByteArray.empty l0 x6_1]) (wrap64 (x6_1 + 1))) else (none)) else (spec_With.l0 k1 l0 a1 x5_1 (wrap64 (x6_1 + 1)))) = some r := H
          have A5 := Aside0.mk A50
          clear A50
          by_cases c6 : t175 = true
          · subst c6
            have H1 : (if x5_1.length < 8796093022208 then (spec_With.l0 k1 l0 a1 (x5_1 ++ [rdOf ByteArray.empty l0 x6_1]) (wrap64 (x6_1 + 1))) else (none)) = some r := by rw [if_pos rfl] at H; exact H
            clear H
            have H := H1
            clear H1
            by_cases c7 : x5_1.length < 8796093022208
            · rw [if_pos c7] at H
              have LMc7 := Aside0.mk c7
              clear c7
              obtain ⟨y177, hy177⟩ : ∃ y_ : List ByteArray, y_ = (x5_1 ++ [rdOf ByteArray.empty l0 x6_1]) := ⟨_, rfl⟩
              replace H : (spec_With.l0 k1 l0 a1 y177 (wrap64 (x6_1 + 1))) = some r := by first | (rw [hy177]; with_reducible exact H) | (have H2_ := (Option.bind_some _ _).symm.trans H; rw [hy177]; with_reducible exact H2_) | (have H2_ := (Option.bind_some _ _).symm.trans H; with_reducible exact H2_) | with_reducible exact H | (rw [hy177]; exact H) | exact H
              have Ny177 := Aside0.mk hy177
              clear hy177
              have H' := Aside0.mk H
              clear H
              have p174 : 0 ≤ (x6_1 : Int) := of_decide_eq_true (by first | (with_reducible assumption) | assumption)
              have q174 : x6_1 < (l0.length : Int) := of_decide_eq_true (by first | (with_reducible assumption) | assumption)
              obtain ⟨ad174, e174, hx174_0⟩ := Kd.at_string HR0.out x6_1 p174 q174
              cases e174
              replace hx174_0 := (HB.out.cell (World.block_lt_of_cell? w _ hx174_0)).trans hx174_0
              replace p174 := eq_true p174
              replace q174 := eq_true q174
              go_wp2_with (first | ((with_reducible refine gate_callee (f := 26) rfl ?_); refine goesL_ (some 18) rfl rfl Try.func26 (by kernel_rfl) rfl #[.string (rdOf ByteArray.empty l0 x6_1), .string a1] rfl (by (try simp only [List.map_toArray, List.map_cons, List.map_nil]); first | done | rfl | (simp only [List.length_drop, List.length_take]; rfl)) ?_; (with_reducible refine (spec_Begins.calls (rdOf ByteArray.empty l0 x6_1) a1 true _ A5.out).mono ?_); rintro e w' ⟨rfl, ⟨nd, rfl⟩⟩; refine ⟨_, rfl, ?_⟩; have p176 : 0 ≤ (x6_1 : Int) := of_decide_eq_true (by first | (with_reducible assumption) | assumption); have q176 : x6_1 < (l0.length : Int) := of_decide_eq_true (by first | (with_reducible assumption) | assumption); obtain ⟨ad176, e176, hx176_0⟩ := Kd.at_string HR0.out x6_1 p176 q176; obtain rfl : ad174 = ad176 := (by injection e176); replace hx176_0 := (HB.out.cell (World.block_lt_of_cell? w _ hx176_0)).trans hx176_0; replace p176 := eq_true p176; replace q176 := eq_true q176) | ((with_reducible refine gate_builtin (b := .append) (xs := #[.tmp 19, .tmp 24]) rfl ?_); at_builtin; refine Kd.R_append Kd.string (w0 := w) w.heap.size rfl (.tmp 19) (.tmp 24) 24 9 (.string ⟨#[]⟩) 16 rfl Try.underlying24 info9 rfl (by decide) (by omega) u5 x5_1 (rdOf ByteArray.empty l0 x6_1) [.string (rdOf ByteArray.empty l0 x6_1)] (fun _ => True) (fun _ => False) rfl rfl ?aP (fun _ hk => hk.elim) ?aF ?aO ?aB ?aS ?aL ?_; (case aP => exact rfl); (case aB => exact (by repeat (first | (with_reducible first | exact HB.out | apply below_alloc | apply pw_below_drewN | apply below_drew1) | exact HB.out))); (case aF => exact (fun _ _ => trivial)); (case aO => exact (by (with_reducible repeat (first | apply Kd.R_alloc | apply Kd.R_drewN | apply Kd.R_drew)); exact HO_5.out)); (case aS => exact (below_size (by repeat (first | (with_reducible first | exact HB.out | apply below_alloc | apply pw_below_drewN | apply below_drew1) | exact HB.out)))); (case aL => have := LMc7.out; omega); intro v178 w8 ho hb hg hat; rw [← Ny177.out] at ho; have n0_ := Aside0.mk (hb); have n1_ := Aside0.mk (ho); clear HB; clear HO_5; have HB := n0_; have HO179 := n1_; clear n0_ n1_; clear ho hb hg hat))
              go_roundg k1
              case measure => have := HK1.out; omega
              case rel => exact ⟨(y177), (wrap64 (x6_1 + 1)), (by first | rfl | (simp; done) | (simp [*]; done)), H', ⟨by have := HK1.out; omega⟩, ⟨by (with_reducible repeat (first | apply Kd.R_alloc | apply Kd.R_drewN | apply Kd.R_drew)); exact HO179.out⟩, ⟨by repeat (first | (with_reducible first | exact HB.out | apply below_alloc | apply pw_below_drewN | apply below_drew1) | exact HB.out)⟩⟩
            · rw [if_neg c7] at H
              exact absurd H (by simp)
          · replace c6 := Bool.eq_false_iff.mpr c6
            subst c6
            have H1 : (spec_With.l0 k1 l0 a1 x5_1 (wrap64 (x6_1 + 1))) = some r := by rw [if_neg (show ¬ (false = true) by decide)] at H; exact H
            clear H
            have H := H1
            clear H1
            have H' := Aside0.mk H
            clear H
            have p174 : 0 ≤ (x6_1 : Int) := of_decide_eq_true (by first | (with_reducible assumption) | assumption)
            have q174 : x6_1 < (l0.length : Int) := of_decide_eq_true (by first | (with_reducible assumption) | assumption)
            obtain ⟨ad174, e174, hx174_0⟩ := Kd.at_string HR0.out x6_1 p174 q174
            cases e174
            replace hx174_0 := (HB.out.cell (World.block_lt_of_cell? w _ hx174_0)).trans hx174_0
            replace p174 := eq_true p174
            replace q174 := eq_true q174
            go_wp2_with (first | ((with_reducible refine gate_callee (f := 26) rfl ?_); refine goesL_ (some 18) rfl rfl Try.func26 (by kernel_rfl) rfl #[.string (rdOf ByteArray.empty l0 x6_1), .string a1] rfl (by (try simp only [List.map_toArray, List.map_cons, List.map_nil]); first | done | rfl | (simp only [List.length_drop, List.length_take]; rfl)) ?_; (with_reducible refine (spec_Begins.calls (rdOf ByteArray.empty l0 x6_1) a1 false _ A5.out).mono ?_); rintro e w' ⟨rfl, ⟨nd, rfl⟩⟩; refine ⟨_, rfl, ?_⟩))
            go_roundg k1
            case measure => have := HK1.out; omega
            case rel => exact ⟨(x5_1), (wrap64 (x6_1 + 1)), (by first | rfl | (simp; done) | (simp [*]; done)), H', ⟨by have := HK1.out; omega⟩, ⟨by (with_reducible repeat (first | apply Kd.R_alloc | apply Kd.R_drewN | apply Kd.R_drew)); exact HO_5.out⟩, ⟨by repeat (first | (with_reducible first | exact HB.out | apply below_alloc | apply pw_below_drewN | apply below_drew1) | exact HB.out)⟩⟩
        · rw [if_neg c4] at H
          exact absurd H (by simp)
      · rw [if_neg c3] at H
        have c3b0 : decide (x6_1 < (l0.length : Int)) = false := decide_eq_false c3
        clear c3
        obtain rfl := Option.some.inj H
        go_wp2
        go_ret
        exact ⟨_, by first | rfl | (simp [errW_none, errW_some] <;> rfl) | (simp [*, errW_none, errW_some] <;> rfl), by (with_reducible repeat (first | apply Kd.R_alloc | apply Kd.R_drewN | apply Kd.R_drew)); exact HO_5.out, by repeat (first | (with_reducible first | exact HB.out | apply below_alloc | apply pw_below_drewN | apply below_drew1) | exact HB.out)⟩

/-! ### laws_FnTrieNarrow: function 4 -/
def laws_FnTrieNarrow.j0 : Nat → List (S30) → ByteArray → ByteArray → Bool → Option (Bool)
  | 0, _, _, _, _ => none
  | k + 1, x0, x1, x2, x23 => if x23 = true then (some true) else ((laws_wordLast.f x0 (([(⟨5, x1, 0⟩ : S30)] : List (S30)))).bind fun bt184 => (if x1.size + x2.size ≤ 9223372036854775807 then ((laws_wordLast.f x0 (([(⟨5, x1 ++ x2, 0⟩ : S30)] : List (S30)))).bind fun bt195 => (if bt184.2.2.2.2 = true then (if bt195.2.2.2.2 = true then ((spec_With.f k bt184.2.2.2.1 (x1 ++ x2)).bind fun t203 => ((spec_SameWords.f k bt195.2.2.2.1 t203).bind fun t206 => (some t206))) else (some false)) else (some false))) else (none)))
def laws_FnTrieNarrow.f (k : Nat) (l0 : List (S30)) (a1 : ByteArray) (a2 : ByteArray) : Option (Bool) := (laws_zzFits6.f k l0).bind fun t180 => (if t180 = true then (if (a1.size : Int) > 2147483647 then (laws_FnTrieNarrow.j0 k l0 a1 a2 true) else (laws_FnTrieNarrow.j0 k l0 a1 a2 (decide ((a2.size : Int) > 2147483647)))) else (laws_FnTrieNarrow.j0 k l0 a1 a2 true))
theorem laws_FnTrieNarrow.mono_l : ∀ k, (∀ y0 y1 y2 y3, LeO (laws_FnTrieNarrow.j0 k y0 y1 y2 y3) (laws_FnTrieNarrow.j0 (k + 1) y0 y1 y2 y3))
  | 0 => fun _ _ _ _ r h => by simp [laws_FnTrieNarrow.j0] at h
  | k + 1 => by
    have ih0 := laws_FnTrieNarrow.mono_l k
    · intro y0 y1 y2 y3
      unfold laws_FnTrieNarrow.j0
      repeat' first
      | (with_reducible exact ih0 _ _ _ _)
      | (with_reducible exact laws_zzFits6.mono _ _)
      | (with_reducible exact spec_SameWords.mono _ _ _)
      | (with_reducible exact spec_With.mono _ _ _)
      | (with_reducible exact LeO.refl _)
      | (with_reducible exact LeO.none _)
      | (with_reducible refine LeO.ite ?_ ?_)
      | (with_reducible refine LeO.bind ?_ (fun _ => ?_))
      | exact ih0 _ _ _ _
      | exact laws_zzFits6.mono _ _
      | exact spec_SameWords.mono _ _ _
      | exact spec_With.mono _ _ _
      | exact LeO.none _
      | refine LeO.ite ?_ ?_
      | refine LeO.bind ?_ (fun _ => ?_)
theorem laws_FnTrieNarrow.mono : ∀ a0 a1 a2 k, LeO (laws_FnTrieNarrow.f k a0 a1 a2) (laws_FnTrieNarrow.f (k + 1) a0 a1 a2) := by
  intro a0 a1 a2 k
  have ih0 := laws_FnTrieNarrow.mono_l k
  unfold laws_FnTrieNarrow.f
  repeat' first
      | (with_reducible exact ih0 _ _ _ _)
      | (with_reducible exact laws_zzFits6.mono _ _)
      | (with_reducible exact spec_SameWords.mono _ _ _)
      | (with_reducible exact spec_With.mono _ _ _)
      | (with_reducible exact LeO.refl _)
      | (with_reducible exact LeO.none _)
      | (with_reducible refine LeO.ite ?_ ?_)
      | (with_reducible refine LeO.bind ?_ (fun _ => ?_))
      | exact ih0 _ _ _ _
      | exact laws_zzFits6.mono _ _
      | exact spec_SameWords.mono _ _ _
      | exact spec_With.mono _ _ _
      | exact LeO.none _
      | refine LeO.ite ?_ ?_
      | refine LeO.bind ?_ (fun _ => ?_)
def laws_FnTrieNarrow.T5 : Bool × List (List Nat × List Nat) := (true, [([], []), ([0], [0]), ([1], [1]), ([1, 2], [1, 2]), ([3, 1], [3]), ([4], [4]), ([5, 4], [4, 5]), ([4], [4]), ([7, 4], [4, 7]), ([4], [4]), ([4], [4]), ([9, 10, 4], [4, 9, 10]), ([8, 11, 4, 4], [4, 8, 11]), ([6, 12, 12, 4], [4, 6, 12]), ([4, 13], [4, 13]), ([14, 13, 0, 1, 2, 3, 4, 5, 6, 7, 8, 9, 10, 11, 12, 13, 14], [14])])
def laws_FnTrieNarrow.B5 : List Nat := [0, 1, 3, 7, 15, 31, 63, 31, 159, 31, 31, 1567, 3999, 8191, 16383, 32767]
theorem laws_FnTrieNarrow.tab5 : rtab .any (opsOf Try.f4 5) = laws_FnTrieNarrow.T5 := by kernel_rfl
theorem laws_FnTrieNarrow.bits5 : waitsOk laws_FnTrieNarrow.T5.2 laws_FnTrieNarrow.B5 = true := by kernel_rfl
set_option maxHeartbeats 8000000 in
set_option maxRecDepth 100000 in
theorem laws_FnTrieNarrow.calls (k : Nat) (A0 : Option Addr) (c0 : Nat) (l0 : List (S30)) (a1 : ByteArray) (a2 : ByteArray) (r : Bool) (w : World) (hr0 : Kd.C k30 w A0 l0.length l0) (hc0 : l0.length ≤ c0) (h : laws_FnTrieNarrow.f k l0 a1 a2 = some r) :
    Calls Try.prog 4 #[.slice A0 l0.length c0, .string a1, .string a2] w fun e w' => e = .returned (.bool r) ∧ Below w.heap.size w w' := by
  have hu30 := Try.underlying30
  have hu26 := Try.underlying26
  have HR0 := Aside0.mk hr0
  have HC0 := Aside0.mk hc0
  clear hr0 hc0
  have HB := Aside0.mk (Below.refl w.heap.size w)
  have H : ((laws_zzFits6.f k l0).bind fun t180 => (if t180 = true then (if (a1.size : Int) > 2147483647 then (laws_FnTrieNarrow.j0 k l0 a1 a2 true) else (laws_FnTrieNarrow.j0 k l0 a1 a2 (decide ((a2.size : Int) > 2147483647)))) else (laws_FnTrieNarrow.j0 k l0 a1 a2 true))) = some r := h
  clear h
  have HC4 := Aside0.mk H
  clear H
  go_enter Try.func4, Try.ntmps4
  go_upto_region 1 with (fail)
  go_cut [23] (fun v23 wc => ∃ (kq : Nat) (x23_3 : Bool), v23 = .bool x23_3 ∧ Aside0 (laws_FnTrieNarrow.j0 kq l0 a1 a2 x23_3 = some r) ∧ Aside0 (kq ≤ k) ∧ Aside0 (Below w.heap.size w wc))
  case first =>
    have H := HC4.out
    clear HC4
    replace H := Option.bind_eq_some_iff.mp H
    obtain ⟨t180, A50, H⟩ := H
    replace H : (if t180 = true then (if (a1.size : Int) > 2147483647 then (laws_FnTrieNarrow.j0 k l0 a1 a2 true) else (laws_FnTrieNarrow.j0 k l0 a1 a2 (decide ((a2.size : Int) > 2147483647)))) else (laws_FnTrieNarrow.j0 k l0 a1 a2 true)) = some r := H
    have A5 := Aside0.mk A50
    clear A50
    by_cases c6 : t180 = true
    · subst c6
      have H1 : (if (a1.size : Int) > 2147483647 then (laws_FnTrieNarrow.j0 k l0 a1 a2 true) else (laws_FnTrieNarrow.j0 k l0 a1 a2 (decide ((a2.size : Int) > 2147483647)))) = some r := by rw [if_pos rfl] at H; exact H
      clear H
      have H := H1
      clear H1
      by_cases c7 : (a1.size : Int) > 2147483647
      · rw [if_pos c7] at H
        have c7b0 : decide (2147483647 < (a1.size : Int)) = true := decide_eq_true c7
        have c7b1 : decide (2147483647 < a1.size) = true := decide_eq_true (by omega)
        clear c7
        (first | rw [c7b0] | (simp only [i64_w, i32_w]; rw [c7b0]) | skip)
        have H' := Aside0.mk H
        clear H
        go_wp2_with (first | ((with_reducible refine gate_callee (f := 9) rfl ?_); refine goesL_ (some 12) rfl rfl Try.func9 (by kernel_rfl) rfl #[.slice A0 l0.length c0] rfl (by (try simp only [List.map_toArray, List.map_cons, List.map_nil]); first | done | rfl | (simp only [List.length_drop, List.length_take]; rfl)) ?_; (with_reducible refine (laws_zzFits6.calls k _ _ l0 true _ ?side1 ?side2 A5.out).mono ?_); (case side1 => repeat (first | exact (Kd.C_below HR0.out HB.out) | (with_reducible refine Kd.C_alloc ?_ _) | (with_reducible refine Kd.C_drewN ?_ _) | (with_reducible refine Kd.C_drew ?_))); (case side2 => exact HC0.out); rintro e w8 ⟨rfl, hb⟩; refine ⟨_, rfl, ?_⟩; have n0_ := Aside0.mk (below_step (by repeat (first | (with_reducible first | exact HB.out | apply below_alloc | apply pw_below_drewN | apply below_drew1) | exact HB.out)) hb); clear HB; have HB := n0_; clear n0_; (try clear hb); (try clear hb2); (try clear hk); (try clear hi)))
        go_meet
        case rel => exact ⟨_, (true), (by first | rfl | (simp; done) | (simp [*]; done)), H', ⟨by first | omega | exact Nat.le_refl _⟩, ⟨by repeat (first | (with_reducible first | exact HB.out | apply below_alloc | apply pw_below_drewN | apply below_drew1) | exact HB.out)⟩⟩
      · rw [if_neg c7] at H
        have c7b0 : decide (2147483647 < (a1.size : Int)) = false := decide_eq_false c7
        have c7b1 : decide (2147483647 < a1.size) = false := decide_eq_false (by omega)
        clear c7
        (first | rw [c7b0] | (simp only [i64_w, i32_w]; rw [c7b0]) | skip)
        have H' := Aside0.mk H
        clear H
        go_wp2_with (first | ((with_reducible refine gate_callee (f := 9) rfl ?_); refine goesL_ (some 12) rfl rfl Try.func9 (by kernel_rfl) rfl #[.slice A0 l0.length c0] rfl (by (try simp only [List.map_toArray, List.map_cons, List.map_nil]); first | done | rfl | (simp only [List.length_drop, List.length_take]; rfl)) ?_; (with_reducible refine (laws_zzFits6.calls k _ _ l0 true _ ?side1 ?side2 A5.out).mono ?_); (case side1 => repeat (first | exact (Kd.C_below HR0.out HB.out) | (with_reducible refine Kd.C_alloc ?_ _) | (with_reducible refine Kd.C_drewN ?_ _) | (with_reducible refine Kd.C_drew ?_))); (case side2 => exact HC0.out); rintro e w9 ⟨rfl, hb⟩; refine ⟨_, rfl, ?_⟩; have n0_ := Aside0.mk (below_step (by repeat (first | (with_reducible first | exact HB.out | apply below_alloc | apply pw_below_drewN | apply below_drew1) | exact HB.out)) hb); clear HB; have HB := n0_; clear n0_; (try clear hb); (try clear hb2); (try clear hk); (try clear hi)))
        go_meet
        case rel => exact ⟨_, (decide ((a2.size : Int) > 2147483647)), (by first | rfl | (simp; done) | (simp [*]; done)), H', ⟨by first | omega | exact Nat.le_refl _⟩, ⟨by repeat (first | (with_reducible first | exact HB.out | apply below_alloc | apply pw_below_drewN | apply below_drew1) | exact HB.out)⟩⟩
    · replace c6 := Bool.eq_false_iff.mpr c6
      subst c6
      have H1 : (laws_FnTrieNarrow.j0 k l0 a1 a2 true) = some r := by rw [if_neg (show ¬ (false = true) by decide)] at H; exact H
      clear H
      have H := H1
      clear H1
      have H' := Aside0.mk H
      clear H
      go_wp2_with (first | ((with_reducible refine gate_callee (f := 9) rfl ?_); refine goesL_ (some 12) rfl rfl Try.func9 (by kernel_rfl) rfl #[.slice A0 l0.length c0] rfl (by (try simp only [List.map_toArray, List.map_cons, List.map_nil]); first | done | rfl | (simp only [List.length_drop, List.length_take]; rfl)) ?_; (with_reducible refine (laws_zzFits6.calls k _ _ l0 false _ ?side1 ?side2 A5.out).mono ?_); (case side1 => repeat (first | exact (Kd.C_below HR0.out HB.out) | (with_reducible refine Kd.C_alloc ?_ _) | (with_reducible refine Kd.C_drewN ?_ _) | (with_reducible refine Kd.C_drew ?_))); (case side2 => exact HC0.out); rintro e w10 ⟨rfl, hb⟩; refine ⟨_, rfl, ?_⟩; have n0_ := Aside0.mk (below_step (by repeat (first | (with_reducible first | exact HB.out | apply below_alloc | apply pw_below_drewN | apply below_drew1) | exact HB.out)) hb); clear HB; have HB := n0_; clear n0_; (try clear hb); (try clear hb2); (try clear hk); (try clear hi)))
      go_meet
      case rel => exact ⟨_, (true), (by first | rfl | (simp; done) | (simp [*]; done)), H', ⟨by first | omega | exact Nat.le_refl _⟩, ⟨by repeat (first | (with_reducible first | exact HB.out | apply below_alloc | apply pw_below_drewN | apply below_drew1) | exact HB.out)⟩⟩
  case rest =>
    clear HC4
    try clear p2
    try clear c4
    try clear c6
    try clear c7
    try clear c7b0
    try clear c7b1
    try clear c9
    obtain ⟨kq, x23_3, rfl, HA, HJ3, HB⟩ := hcut
    cases kq with
    | zero => exact absurd HA.out (by simp [laws_FnTrieNarrow.j0])
    | succ kj3 =>
      have H := HA.out
      clear HA
      simp only [laws_FnTrieNarrow.j0] at H
      by_cases c11 : x23_3 = true
      · subst c11
        have H1 : (some true) = some r := by rw [if_pos rfl] at H; exact H
        clear H
        have H := H1
        clear H1
        obtain rfl := Option.some.inj H
        go_wp2
        go_ret
        exact ⟨by first | rfl | (simp [errW_none, errW_some] <;> rfl) | (simp [*, errW_none, errW_some] <;> rfl), by repeat (first | (with_reducible first | exact HB.out | apply below_alloc | apply pw_below_drewN | apply below_drew1) | exact HB.out)⟩
      · replace c11 := Bool.eq_false_iff.mpr c11
        subst c11
        have H1 : ((laws_wordLast.f l0 (([(⟨5, a1, 0⟩ : S30)] : List (S30)))).bind fun bt184 => (if a1.size + a2.size ≤ 9223372036854775807 then ((laws_wordLast.f l0 (([(⟨5, a1 ++ a2, 0⟩ : S30)] : List (S30)))).bind fun bt195 => (if bt184.2.2.2.2 = true then (if bt195.2.2.2.2 = true then ((spec_With.f kj3 bt184.2.2.2.1 (a1 ++ a2)).bind fun t203 => ((spec_SameWords.f kj3 bt195.2.2.2.1 t203).bind fun t206 => (some t206))) else (some false)) else (some false))) else (none))) = some r := by rw [if_neg (show ¬ (false = true) by decide)] at H; exact H
        clear H
        have H := H1
        clear H1
        obtain ⟨y181, hy181⟩ : ∃ y_ : List (S30), y_ = (([(⟨5, a1, 0⟩ : S30)] : List (S30))) := ⟨_, rfl⟩
        replace H : ((laws_wordLast.f l0 y181).bind fun bt184 => (if a1.size + a2.size ≤ 9223372036854775807 then ((laws_wordLast.f l0 (([(⟨5, a1 ++ a2, 0⟩ : S30)] : List (S30)))).bind fun bt195 => (if bt184.2.2.2.2 = true then (if bt195.2.2.2.2 = true then ((spec_With.f kj3 bt184.2.2.2.1 (a1 ++ a2)).bind fun t203 => ((spec_SameWords.f kj3 bt195.2.2.2.1 t203).bind fun t206 => (some t206))) else (some false)) else (some false))) else (none))) = some r := by first | (rw [hy181]; with_reducible exact H) | (have H2_ := (Option.bind_some _ _).symm.trans H; rw [hy181]; with_reducible exact H2_) | (have H2_ := (Option.bind_some _ _).symm.trans H; with_reducible exact H2_) | with_reducible exact H | (rw [hy181]; exact H) | exact H
        have Ny181 := Aside0.mk hy181
        clear hy181
        replace H := Option.bind_eq_some_iff.mp H
        obtain ⟨⟨t184, t185, t186, t187, t190⟩, A120, H⟩ := H
        replace H : (if a1.size + a2.size ≤ 9223372036854775807 then ((laws_wordLast.f l0 (([(⟨5, a1 ++ a2, 0⟩ : S30)] : List (S30)))).bind fun bt195 => (if t190 = true then (if bt195.2.2.2.2 = true then ((spec_With.f kj3 t187 (a1 ++ a2)).bind fun t203 => ((spec_SameWords.f kj3 bt195.2.2.2.1 t203).bind fun t206 => (some t206))) else (some false)) else (some false))) else (none)) = some r := H
        have A12 := Aside0.mk A120
        clear A120
        by_cases c13 : a1.size + a2.size ≤ 9223372036854775807
        · rw [if_pos c13] at H
          have c13b0 := eq_true c13
          have c13b1 : decide (a1.size + a2.size ≤ 9223372036854775807) = true := decide_eq_true c13
          try have c13b2 : (9223372036854775807 < a1.size + a2.size) = False := eq_false (Nat.not_lt.2 c13)
          obtain ⟨y192, hy192⟩ : ∃ y_ : List (S30), y_ = (([(⟨5, a1 ++ a2, 0⟩ : S30)] : List (S30))) := ⟨_, rfl⟩
          replace H : ((laws_wordLast.f l0 y192).bind fun bt195 => (if t190 = true then (if bt195.2.2.2.2 = true then ((spec_With.f kj3 t187 (a1 ++ a2)).bind fun t203 => ((spec_SameWords.f kj3 bt195.2.2.2.1 t203).bind fun t206 => (some t206))) else (some false)) else (some false))) = some r := by first | (rw [hy192]; with_reducible exact H) | (have H2_ := (Option.bind_some _ _).symm.trans H; rw [hy192]; with_reducible exact H2_) | (have H2_ := (Option.bind_some _ _).symm.trans H; with_reducible exact H2_) | with_reducible exact H | (rw [hy192]; exact H) | exact H
          have Ny192 := Aside0.mk hy192
          clear hy192
          replace H := Option.bind_eq_some_iff.mp H
          obtain ⟨⟨t195, t196, t197, t198, t201⟩, A140, H⟩ := H
          replace H : (if t190 = true then (if t201 = true then ((spec_With.f kj3 t187 (a1 ++ a2)).bind fun t203 => ((spec_SameWords.f kj3 t198 t203).bind fun t206 => (some t206))) else (some false)) else (some false)) = some r := H
          have A14 := Aside0.mk A140
          clear A140
          by_cases c15 : t190 = true
          · subst c15
            have H1 : (if t201 = true then ((spec_With.f kj3 t187 (a1 ++ a2)).bind fun t203 => ((spec_SameWords.f kj3 t198 t203).bind fun t206 => (some t206))) else (some false)) = some r := by rw [if_pos rfl] at H; exact H
            clear H
            have H := H1
            clear H1
            by_cases c16 : t201 = true
            · subst c16
              have H1 : ((spec_With.f kj3 t187 (a1 ++ a2)).bind fun t203 => ((spec_SameWords.f kj3 t198 t203).bind fun t206 => (some t206))) = some r := by rw [if_pos rfl] at H; exact H
              clear H
              have H := H1
              clear H1
              replace H := Option.bind_eq_some_iff.mp H
              obtain ⟨t203, A170, H⟩ := H
              replace H : ((spec_SameWords.f kj3 t198 t203).bind fun t206 => (some t206)) = some r := H
              have A17 := Aside0.mk A170
              clear A170
              replace H := Option.bind_eq_some_iff.mp H
              obtain ⟨t206, A180, H⟩ := H
              replace H : (some t206) = some r := H
              have A18 := Aside0.mk A180
              clear A180
              obtain rfl := Option.some.inj H
              try go_wp2_with (first | ((with_reducible refine gate_dst (N := 28) rfl ?_); (try (refine gate_guard (by rfl) ?_; dsimp only)); refine Kd.R_lit k30 _ 30 ?hg (N := 28) ?hd (xs := ([(⟨5, a1, 0⟩ : S30)] : List (S30))) (inner := [.int .i64 5, .string a1, .int .i64 0]) (ok := fun _ => True) (okp := fun _ => True) ?hr ?hp (fun _ hk => hk) trivial (Below.refl _ _) (Nat.le_refl _) (by simp) ?_; (case hd => rfl); (case hg => rfl); (case hr => first | (go_simp; done) | (go_simp; rfl)); (case hp => exact (Reps.c3 (show Kd.M k30 _ _ _ (⟨5, a1, 0⟩ : S30) [.int .i64 5, .string a1, .int .i64 0] from (k30_mkM _ _ _ (⟨5, a1, 0⟩ : S30) )) (Reps.none _ _))); intro v182 w19 ho20 hb hg_ hnew_; clear hg_ hnew_; (first | rw [← Ny181.out] at ho20 | (simp only [Int.reduceToNat] at ho20; rw [← Ny181.out] at ho20)); have n0_ := Aside0.mk (Kd.R_lower ho20 (below_size (by repeat (first | (with_reducible first | exact HB.out | apply below_alloc | apply pw_below_drewN | apply below_drew1) | exact HB.out)))); have n1_ := Aside0.mk (below_step (by repeat (first | (with_reducible first | exact HB.out | apply below_alloc | apply pw_below_drewN | apply below_drew1) | exact HB.out)) hb); clear HB; have HO183 := n0_; have HB := n1_; clear n0_ n1_; clear hb ho20; obtain ⟨Ao21, co21, eo21⟩ := Kd.R_slice HO183.out; subst eo21) | ((with_reducible refine gate_callee (f := 10) rfl ?_); refine goesL_ (some 29) rfl rfl Try.func10 (by kernel_rfl) rfl #[.slice A0 l0.length c0, .slice Ao21 y181.length co21] rfl (by (try simp only [List.map_toArray, List.map_cons, List.map_nil]); first | done | rfl | (simp only [List.length_drop, List.length_take]; rfl)) ?_; (with_reducible refine (laws_wordLast.calls _ _ l0 _ _ y181 t184 t185 t186 t187 true _ ?side1 ?side2 ?side3 ?side4 A12.out).mono ?_); (case side1 => repeat (first | exact (Kd.C_below HR0.out HB.out) | (with_reducible refine Kd.C_alloc ?_ _) | (with_reducible refine Kd.C_drewN ?_ _) | (with_reducible refine Kd.C_drew ?_))); (case side2 => exact HC0.out); (case side3 => repeat (first | exact (Kd.R_reads' HO183.out).2.2 | (with_reducible refine Kd.C_alloc ?_ _) | (with_reducible refine Kd.C_drewN ?_ _) | (with_reducible refine Kd.C_drew ?_))); (case side4 => exact (Kd.R_reads' HO183.out).2.1); rintro e w22 ⟨v188, rfl, ho0, hb⟩; refine ⟨_, rfl, ?_⟩; have n0_ := Aside0.mk (Kd.R_below (by (with_reducible repeat (first | apply Kd.R_alloc | apply Kd.R_drewN | apply Kd.R_drew)); exact HO183.out) hb); have n1_ := Aside0.mk (Kd.R_lower ho0 (below_size (by repeat (first | (with_reducible first | exact HB.out | apply below_alloc | apply pw_below_drewN | apply below_drew1) | exact HB.out)))); have n2_ := Aside0.mk (below_step (by repeat (first | (with_reducible first | exact HB.out | apply below_alloc | apply pw_below_drewN | apply below_drew1) | exact HB.out)) hb); clear HO183; clear HB; have HO183 := n0_; have HO189 := n1_; have HB := n2_; clear n0_ n1_ n2_; (try clear hb); (try clear hb2); (try clear hk); (try clear hi); (try clear ho0)) | ((with_reducible refine gate_dst (N := 7) rfl ?_); (try (refine gate_guard (by rfl) ?_; dsimp only)); refine box_event ?hg (N := 7) ?hd (cs := #[.int .i64 0, .bool false, .string (⟨#[]⟩ : ByteArray), .slice none 0 0]) (t := 26) ?hr ?_; (case hd => rfl); (case hg => rfl); (case hr => first | (go_simp; done) | (go_simp; rfl)); intro gb191 hg w23 hbox hb; have n0_ := Aside0.mk (Kd.R_below (by (with_reducible repeat (first | apply Kd.R_alloc | apply Kd.R_drewN | apply Kd.R_drew)); exact HO183.out) hb); have n1_ := Aside0.mk (Kd.R_below (by (with_reducible repeat (first | apply Kd.R_alloc | apply Kd.R_drewN | apply Kd.R_drew)); exact HO189.out) hb); have n2_ := Aside0.mk (below_step (by repeat (first | (with_reducible first | exact HB.out | apply below_alloc | apply pw_below_drewN | apply below_drew1) | exact HB.out)) hb); have n3_ := Aside0.mk (hbox); have n4_ := Aside0.mk ((by rw [hg]; exact (below_size (by repeat (first | (with_reducible first | exact HB.out | apply below_alloc | apply pw_below_drewN | apply below_drew1) | exact HB.out))) : w.heap.size ≤ gb191)); have n5_ := Aside0.mk ((by rw [hg]; exact (below_size (by repeat (first | (with_reducible first | exact HB.out | apply below_alloc | apply pw_below_drewN | apply below_drew1) | exact HB.out))) : w.heap.size ≤ gb191)); clear HO183; clear HO189; clear HB; have HO183 := n0_; have HO189 := n1_; have HB := n2_; have BK191 := n3_; have GW191 := n4_; have GE191 := n5_; clear n0_ n1_ n2_ n3_ n4_ n5_; clear hb hbox hg; have hcz24_0 : w23.cell? ⟨gb191, 0, none⟩ = some (.int .i64 0) := (blk_cell BK191.out 0).trans rfl; have hcz24_1 : w23.cell? ⟨gb191, 1, none⟩ = some (.bool false) := (blk_cell BK191.out 1).trans rfl; have hcz24_2 : w23.cell? ⟨gb191, 2, none⟩ = some (.string (⟨#[]⟩ : ByteArray)) := (blk_cell BK191.out 2).trans rfl; have hcz24_3 : w23.cell? ⟨gb191, 3, none⟩ = some (.slice none 0 0) := (blk_cell BK191.out 3).trans rfl; have hfz24_0 := blk_frozen BK191.out 0; have hfz24_1 := blk_frozen BK191.out 1; have hfz24_2 := blk_frozen BK191.out 2; have hfz24_3 := blk_frozen BK191.out 3; obtain ⟨Ao25, co25, eo25⟩ := Kd.R_slice HO189.out; subst eo25) | ((with_reducible refine gate_dst (N := 38) rfl ?_); (try (refine gate_guard (by rfl) ?_; dsimp only)); refine Kd.R_lit k30 _ 30 ?hg (N := 38) ?hd (xs := ([(⟨5, a1 ++ a2, 0⟩ : S30)] : List (S30))) (inner := [.int .i64 5, .string (a1 ++ a2), .int .i64 0]) (ok := fun _ => True) (okp := fun _ => True) ?hr ?hp (fun _ hk => hk) trivial (Below.refl _ _) (Nat.le_refl _) (by simp) ?_; (case hd => rfl); (case hg => rfl); (case hr => first | (go_simp; done) | (go_simp; rfl)); (case hp => exact (Reps.c3 (show Kd.M k30 _ _ _ (⟨5, a1 ++ a2, 0⟩ : S30) [.int .i64 5, .string (a1 ++ a2), .int .i64 0] from (k30_mkM _ _ _ (⟨5, a1 ++ a2, 0⟩ : S30) )) (Reps.none _ _))); intro v193 w26 ho27 hb hg_ hnew_; clear hg_ hnew_; (first | rw [← Ny192.out] at ho27 | (simp only [Int.reduceToNat] at ho27; rw [← Ny192.out] at ho27)); have n0_ := Aside0.mk (Kd.R_elder' (by (with_reducible repeat (first | apply Kd.R_alloc | apply Kd.R_drewN | apply Kd.R_drew)); exact (Kd.R_mono (Kd.R_far (p := ⟨gb191, 3, none⟩) (Kd.R_far (p := ⟨gb191, 2, none⟩) (Kd.R_far (p := ⟨gb191, 1, none⟩) (Kd.R_far (p := ⟨gb191, 0, none⟩) (Kd.R_types HO183.out BK191.out (by decide)) (fun _ hk => hk.2) (.int .i64 t184)) (fun _ hk => hk.2) (.bool t185)) (fun _ hk => hk.2) (.string t186)) (fun _ hk => hk.2) (.slice Ao25 t187.length co25)) (fun _ h_ => h_.1))) (Kd.R_base ho27) hb); have n1_ := Aside0.mk (Kd.R_below (by (with_reducible repeat (first | apply Kd.R_alloc | apply Kd.R_drewN | apply Kd.R_drew)); exact (Kd.R_mono (Kd.R_far (p := ⟨gb191, 3, none⟩) (Kd.R_far (p := ⟨gb191, 2, none⟩) (Kd.R_far (p := ⟨gb191, 1, none⟩) (Kd.R_far (p := ⟨gb191, 0, none⟩) (Kd.R_types HO189.out BK191.out (by decide)) (fun _ hk => hk.2) (.int .i64 t184)) (fun _ hk => hk.2) (.bool t185)) (fun _ hk => hk.2) (.string t186)) (fun _ hk => hk.2) (.slice Ao25 t187.length co25)) (fun _ h_ => h_.1))) hb); have n2_ := Aside0.mk (Kd.R_lower (Kd.R_new' ho27 (Kd.R_lt (by (with_reducible repeat (first | apply Kd.R_alloc | apply Kd.R_drewN | apply Kd.R_drew)); exact (Kd.R_mono (Kd.R_far (p := ⟨gb191, 3, none⟩) (Kd.R_far (p := ⟨gb191, 2, none⟩) (Kd.R_far (p := ⟨gb191, 1, none⟩) (Kd.R_far (p := ⟨gb191, 0, none⟩) (Kd.R_types HO183.out BK191.out (by decide)) (fun _ hk => hk.2) (.int .i64 t184)) (fun _ hk => hk.2) (.bool t185)) (fun _ hk => hk.2) (.string t186)) (fun _ hk => hk.2) (.slice Ao25 t187.length co25)) (fun _ h_ => h_.1))))) (below_size (by repeat (first | (with_reducible first | exact HB.out | apply below_alloc | apply pw_below_drewN | apply below_drew1 | refine below_set ?_ GE191.out) | exact HB.out)))); have n3_ := Aside0.mk (blk_below (g := gb191) (o := .cells #[.int .i64 t184, .bool t185, .string t186, .slice Ao25 t187.length co25] 26 (0, 0)) (by (with_reducible repeat (first | refine blk_drewN ?_ _ | refine blk_drew ?_ | refine blk_alloc ?_ _)); refine blk_put (cs := #[.int .i64 t184, .bool t185, .string t186, .slice none 0 0]) ?_ 3 _ rfl; (with_reducible repeat (first | refine blk_drewN ?_ _ | refine blk_drew ?_ | refine blk_alloc ?_ _)); refine blk_put (cs := #[.int .i64 t184, .bool t185, .string (⟨#[]⟩ : ByteArray), .slice none 0 0]) ?_ 2 _ rfl; (with_reducible repeat (first | refine blk_drewN ?_ _ | refine blk_drew ?_ | refine blk_alloc ?_ _)); refine blk_put (cs := #[.int .i64 t184, .bool false, .string (⟨#[]⟩ : ByteArray), .slice none 0 0]) ?_ 1 _ rfl; (with_reducible repeat (first | refine blk_drewN ?_ _ | refine blk_drew ?_ | refine blk_alloc ?_ _)); refine blk_put (cs := #[.int .i64 0, .bool false, .string (⟨#[]⟩ : ByteArray), .slice none 0 0]) ?_ 0 _ rfl; (with_reducible repeat (first | refine blk_drewN ?_ _ | refine blk_drew ?_ | refine blk_alloc ?_ _)); exact BK191.out) hb); have n4_ := Aside0.mk (below_step (by repeat (first | (with_reducible first | exact HB.out | apply below_alloc | apply pw_below_drewN | apply below_drew1 | refine below_set ?_ GE191.out) | exact HB.out)) hb); clear HO183; clear HO189; clear BK191; clear HB; have HO183 := n0_; have HO189 := n1_; have HO194 := n2_; have BK191 := n3_; have HB := n4_; clear n0_ n1_ n2_ n3_ n4_; clear hb ho27; obtain ⟨Ao28, co28, eo28⟩ := Kd.R_slice HO194.out; subst eo28) | ((with_reducible refine gate_callee (f := 10) rfl ?_); refine goesL_ (some 39) rfl rfl Try.func10 (by kernel_rfl) rfl #[.slice A0 l0.length c0, .slice Ao28 y192.length co28] rfl (by (try simp only [List.map_toArray, List.map_cons, List.map_nil]); first | done | rfl | (simp only [List.length_drop, List.length_take]; rfl)) ?_; (with_reducible refine (laws_wordLast.calls _ _ l0 _ _ y192 t195 t196 t197 t198 true _ ?side1 ?side2 ?side3 ?side4 A14.out).mono ?_); (case side1 => repeat (first | exact (Kd.C_below HR0.out HB.out) | (with_reducible refine Kd.C_alloc ?_ _) | (with_reducible refine Kd.C_drewN ?_ _) | (with_reducible refine Kd.C_drew ?_))); (case side2 => exact HC0.out); (case side3 => repeat (first | exact (Kd.R_reads' HO194.out).2.2 | (with_reducible refine Kd.C_alloc ?_ _) | (with_reducible refine Kd.C_drewN ?_ _) | (with_reducible refine Kd.C_drew ?_))); (case side4 => exact (Kd.R_reads' HO194.out).2.1); rintro e w29 ⟨v199, rfl, ho0, hb⟩; refine ⟨_, rfl, ?_⟩; have n0_ := Aside0.mk (Kd.R_below (by (with_reducible repeat (first | apply Kd.R_alloc | apply Kd.R_drewN | apply Kd.R_drew)); exact HO183.out) hb); have n1_ := Aside0.mk (Kd.R_elder' (by (with_reducible repeat (first | apply Kd.R_alloc | apply Kd.R_drewN | apply Kd.R_drew)); exact HO189.out) (Kd.R_base ho0) hb); have n2_ := Aside0.mk (Kd.R_below (by (with_reducible repeat (first | apply Kd.R_alloc | apply Kd.R_drewN | apply Kd.R_drew)); exact HO194.out) hb); have n3_ := Aside0.mk (Kd.R_lower (Kd.R_new' ho0 (Kd.R_lt (by (with_reducible repeat (first | apply Kd.R_alloc | apply Kd.R_drewN | apply Kd.R_drew)); exact HO189.out))) (below_size (by repeat (first | (with_reducible first | exact HB.out | apply below_alloc | apply pw_below_drewN | apply below_drew1 | refine below_set ?_ GE191.out) | exact HB.out)))); have n4_ := Aside0.mk (blk_below (g := gb191) (o := .cells #[.int .i64 t184, .bool t185, .string t186, .slice Ao25 t187.length co25] 26 (0, 0)) (by (with_reducible repeat (first | refine blk_drewN ?_ _ | refine blk_drew ?_ | refine blk_alloc ?_ _)); exact BK191.out) hb); have n5_ := Aside0.mk (below_step (by repeat (first | (with_reducible first | exact HB.out | apply below_alloc | apply pw_below_drewN | apply below_drew1 | refine below_set ?_ GE191.out) | exact HB.out)) hb); clear HO183; clear HO189; clear HO194; clear BK191; clear HB; have HO183 := n0_; have HO189 := n1_; have HO194 := n2_; have HO200 := n3_; have BK191 := n4_; have HB := n5_; clear n0_ n1_ n2_ n3_ n4_ n5_; (try clear hb); (try clear hb2); (try clear hk); (try clear hi); (try clear ho0)) | ((with_reducible refine gate_dst (N := 9) rfl ?_); (try (refine gate_guard (by rfl) ?_; dsimp only)); refine box_event ?hg (N := 9) ?hd (cs := #[.int .i64 0, .bool false, .string (⟨#[]⟩ : ByteArray), .slice none 0 0]) (t := 26) ?hr ?_; (case hd => rfl); (case hg => rfl); (case hr => first | (go_simp; done) | (go_simp; rfl)); intro gb202 hg w30 hbox hb; have n0_ := Aside0.mk (Kd.R_below (by (with_reducible repeat (first | apply Kd.R_alloc | apply Kd.R_drewN | apply Kd.R_drew)); exact HO183.out) hb); have n1_ := Aside0.mk (Kd.R_below (by (with_reducible repeat (first | apply Kd.R_alloc | apply Kd.R_drewN | apply Kd.R_drew)); exact HO189.out) hb); have n2_ := Aside0.mk (Kd.R_below (by (with_reducible repeat (first | apply Kd.R_alloc | apply Kd.R_drewN | apply Kd.R_drew)); exact HO194.out) hb); have n3_ := Aside0.mk (Kd.R_below (by (with_reducible repeat (first | apply Kd.R_alloc | apply Kd.R_drewN | apply Kd.R_drew)); exact HO200.out) hb); have n4_ := Aside0.mk (blk_below (g := gb191) (o := .cells #[.int .i64 t184, .bool t185, .string t186, .slice Ao25 t187.length co25] 26 (0, 0)) (by (with_reducible repeat (first | refine blk_drewN ?_ _ | refine blk_drew ?_ | refine blk_alloc ?_ _)); exact BK191.out) hb); have n5_ := Aside0.mk (below_step (by repeat (first | (with_reducible first | exact HB.out | apply below_alloc | apply pw_below_drewN | apply below_drew1 | refine below_set ?_ GE191.out) | exact HB.out)) hb); have n6_ := Aside0.mk (hbox); have n7_ := Aside0.mk ((by rw [hg]; exact (below_size (by repeat (first | (with_reducible first | exact HB.out | apply below_alloc | apply pw_below_drewN | apply below_drew1 | refine below_set ?_ GE191.out) | exact HB.out))) : w.heap.size ≤ gb202)); have n8_ := Aside0.mk ((by rw [hg]; exact (below_size (by repeat (first | (with_reducible first | exact HB.out | apply below_alloc | apply pw_below_drewN | apply below_drew1 | refine below_set ?_ GE191.out) | exact HB.out))) : w.heap.size ≤ gb202)); have n9_ := Aside0.mk ((by rw [hg]; exact Nat.ne_of_lt (blk_lt (g := gb191) (o := .cells #[.int .i64 t184, .bool t185, .string t186, .slice Ao25 t187.length co25] 26 (0, 0)) (by (with_reducible repeat (first | refine blk_drewN ?_ _ | refine blk_drew ?_ | refine blk_alloc ?_ _)); exact BK191.out)) : gb191 ≠ gb202)); have n10_ := Aside0.mk ((by rw [hg]; exact Nat.ne_of_gt (blk_lt (g := gb191) (o := .cells #[.int .i64 t184, .bool t185, .string t186, .slice Ao25 t187.length co25] 26 (0, 0)) (by (with_reducible repeat (first | refine blk_drewN ?_ _ | refine blk_drew ?_ | refine blk_alloc ?_ _)); exact BK191.out)) : gb202 ≠ gb191)); clear HO183; clear HO189; clear HO194; clear HO200; clear BK191; clear HB; have HO183 := n0_; have HO189 := n1_; have HO194 := n2_; have HO200 := n3_; have BK191 := n4_; have HB := n5_; have BK202 := n6_; have GW202 := n7_; have GE202 := n8_; have NB191_202 := n9_; have NB202_191 := n10_; clear n0_ n1_ n2_ n3_ n4_ n5_ n6_ n7_ n8_ n9_ n10_; clear hb hbox hg; have hnb31 := NB202_191.out; have hnc31 := NB191_202.out; have hcz32_0 : w30.cell? ⟨gb202, 0, none⟩ = some (.int .i64 0) := (blk_cell BK202.out 0).trans rfl; have hcz32_1 : w30.cell? ⟨gb202, 1, none⟩ = some (.bool false) := (blk_cell BK202.out 1).trans rfl; have hcz32_2 : w30.cell? ⟨gb202, 2, none⟩ = some (.string (⟨#[]⟩ : ByteArray)) := (blk_cell BK202.out 2).trans rfl; have hcz32_3 : w30.cell? ⟨gb202, 3, none⟩ = some (.slice none 0 0) := (blk_cell BK202.out 3).trans rfl; have hfz32_0 := blk_frozen BK202.out 0; have hfz32_1 := blk_frozen BK202.out 1; have hfz32_2 := blk_frozen BK202.out 2; have hfz32_3 := blk_frozen BK202.out 3; obtain ⟨Ao33, co33, eo33⟩ := Kd.R_slice HO200.out; subst eo33))
              have n0_ : Aside0 (Kd.R k30 30 ((((w30.setCell ⟨gb202, 0, none⟩ (.int .i64 t195)).setCell ⟨gb202, 1, none⟩ (.bool t196)).setCell ⟨gb202, 2, none⟩ (.string t197)).setCell ⟨gb202, 3, none⟩ (.slice Ao33 t198.length co33)) w.heap.size (fun k_ => some k_ ≠ (.slice Ao28 y192.length co28 : Value).ownBlock) (.slice Ao21 y181.length co21) y181) := ⟨by (with_reducible repeat (first | apply Kd.R_alloc | apply Kd.R_drewN | apply Kd.R_drew)); exact Kd.R_mono (Kd.R_far (p := ⟨gb202, 3, none⟩) (Kd.R_far (p := ⟨gb202, 2, none⟩) (Kd.R_far (p := ⟨gb202, 1, none⟩) (Kd.R_far (p := ⟨gb202, 0, none⟩) (Kd.R_types HO183.out BK202.out (by decide)) (fun _ hk => hk.2) (.int .i64 t195)) (fun _ hk => hk.2) (.bool t196)) (fun _ hk => hk.2) (.string t197)) (fun _ hk => hk.2) (.slice Ao33 t198.length co33)) (fun _ hk => hk.1.2)⟩
              have n1_ : Aside0 (Kd.R Kd.string 9 ((((w30.setCell ⟨gb202, 0, none⟩ (.int .i64 t195)).setCell ⟨gb202, 1, none⟩ (.bool t196)).setCell ⟨gb202, 2, none⟩ (.string t197)).setCell ⟨gb202, 3, none⟩ (.slice Ao33 t198.length co33)) w.heap.size (fun k_ => some k_ ≠ (.slice Ao33 t198.length co33 : Value).ownBlock) (.slice Ao25 t187.length co25) t187) := ⟨by (with_reducible repeat (first | apply Kd.R_alloc | apply Kd.R_drewN | apply Kd.R_drew)); exact Kd.R_mono (Kd.R_far (p := ⟨gb202, 3, none⟩) (Kd.R_far (p := ⟨gb202, 2, none⟩) (Kd.R_far (p := ⟨gb202, 1, none⟩) (Kd.R_far (p := ⟨gb202, 0, none⟩) (Kd.R_types HO189.out BK202.out (by decide)) (fun _ hk => hk.2) (.int .i64 t195)) (fun _ hk => hk.2) (.bool t196)) (fun _ hk => hk.2) (.string t197)) (fun _ hk => hk.2) (.slice Ao33 t198.length co33)) (fun _ hk => hk.1.2)⟩
              have n2_ : Aside0 (Kd.R k30 30 ((((w30.setCell ⟨gb202, 0, none⟩ (.int .i64 t195)).setCell ⟨gb202, 1, none⟩ (.bool t196)).setCell ⟨gb202, 2, none⟩ (.string t197)).setCell ⟨gb202, 3, none⟩ (.slice Ao33 t198.length co33)) w.heap.size (fun k_ => some k_ ≠ (.slice Ao21 y181.length co21 : Value).ownBlock) (.slice Ao28 y192.length co28) y192) := ⟨by (with_reducible repeat (first | apply Kd.R_alloc | apply Kd.R_drewN | apply Kd.R_drew)); exact Kd.R_mono (Kd.R_far (p := ⟨gb202, 3, none⟩) (Kd.R_far (p := ⟨gb202, 2, none⟩) (Kd.R_far (p := ⟨gb202, 1, none⟩) (Kd.R_far (p := ⟨gb202, 0, none⟩) (Kd.R_types HO194.out BK202.out (by decide)) (fun _ hk => hk.2) (.int .i64 t195)) (fun _ hk => hk.2) (.bool t196)) (fun _ hk => hk.2) (.string t197)) (fun _ hk => hk.2) (.slice Ao33 t198.length co33)) (fun _ hk => hk.1.2)⟩
              have n3_ : Aside0 (Kd.R Kd.string 9 ((((w30.setCell ⟨gb202, 0, none⟩ (.int .i64 t195)).setCell ⟨gb202, 1, none⟩ (.bool t196)).setCell ⟨gb202, 2, none⟩ (.string t197)).setCell ⟨gb202, 3, none⟩ (.slice Ao33 t198.length co33)) w.heap.size (fun k_ => some k_ ≠ (.slice Ao25 t187.length co25 : Value).ownBlock) (.slice Ao33 t198.length co33) t198) := ⟨by (with_reducible repeat (first | apply Kd.R_alloc | apply Kd.R_drewN | apply Kd.R_drew)); exact Kd.R_mono (Kd.R_far (p := ⟨gb202, 3, none⟩) (Kd.R_far (p := ⟨gb202, 2, none⟩) (Kd.R_far (p := ⟨gb202, 1, none⟩) (Kd.R_far (p := ⟨gb202, 0, none⟩) (Kd.R_types HO200.out BK202.out (by decide)) (fun _ hk => hk.2) (.int .i64 t195)) (fun _ hk => hk.2) (.bool t196)) (fun _ hk => hk.2) (.string t197)) (fun _ hk => hk.2) (.slice Ao33 t198.length co33)) (fun _ hk => hk.1.2)⟩
              have n4_ : Aside0 (((((w30.setCell ⟨gb202, 0, none⟩ (.int .i64 t195)).setCell ⟨gb202, 1, none⟩ (.bool t196)).setCell ⟨gb202, 2, none⟩ (.string t197)).setCell ⟨gb202, 3, none⟩ (.slice Ao33 t198.length co33)).heap[gb191]? = some (.cells #[.int .i64 t184, .bool t185, .string t186, .slice Ao25 t187.length co25] 26 (0, 0))) := ⟨by (with_reducible repeat (first | refine blk_drewN ?_ _ | refine blk_drew ?_ | refine blk_alloc ?_ _)); refine blk_far ?_ NB191_202.out _; (with_reducible repeat (first | refine blk_drewN ?_ _ | refine blk_drew ?_ | refine blk_alloc ?_ _)); refine blk_far ?_ NB191_202.out _; (with_reducible repeat (first | refine blk_drewN ?_ _ | refine blk_drew ?_ | refine blk_alloc ?_ _)); refine blk_far ?_ NB191_202.out _; (with_reducible repeat (first | refine blk_drewN ?_ _ | refine blk_drew ?_ | refine blk_alloc ?_ _)); refine blk_far ?_ NB191_202.out _; (with_reducible repeat (first | refine blk_drewN ?_ _ | refine blk_drew ?_ | refine blk_alloc ?_ _)); exact BK191.out⟩
              have n5_ : Aside0 (((((w30.setCell ⟨gb202, 0, none⟩ (.int .i64 t195)).setCell ⟨gb202, 1, none⟩ (.bool t196)).setCell ⟨gb202, 2, none⟩ (.string t197)).setCell ⟨gb202, 3, none⟩ (.slice Ao33 t198.length co33)).heap[gb202]? = some (.cells #[.int .i64 t195, .bool t196, .string t197, .slice Ao33 t198.length co33] 26 (0, 0))) := ⟨by (with_reducible repeat (first | refine blk_drewN ?_ _ | refine blk_drew ?_ | refine blk_alloc ?_ _)); refine blk_put (cs := #[.int .i64 t195, .bool t196, .string t197, .slice none 0 0]) ?_ 3 _ rfl; (with_reducible repeat (first | refine blk_drewN ?_ _ | refine blk_drew ?_ | refine blk_alloc ?_ _)); refine blk_put (cs := #[.int .i64 t195, .bool t196, .string (⟨#[]⟩ : ByteArray), .slice none 0 0]) ?_ 2 _ rfl; (with_reducible repeat (first | refine blk_drewN ?_ _ | refine blk_drew ?_ | refine blk_alloc ?_ _)); refine blk_put (cs := #[.int .i64 t195, .bool false, .string (⟨#[]⟩ : ByteArray), .slice none 0 0]) ?_ 1 _ rfl; (with_reducible repeat (first | refine blk_drewN ?_ _ | refine blk_drew ?_ | refine blk_alloc ?_ _)); refine blk_put (cs := #[.int .i64 0, .bool false, .string (⟨#[]⟩ : ByteArray), .slice none 0 0]) ?_ 0 _ rfl; (with_reducible repeat (first | refine blk_drewN ?_ _ | refine blk_drew ?_ | refine blk_alloc ?_ _)); exact BK202.out⟩
              have n6_ : Aside0 (Below w.heap.size w ((((w30.setCell ⟨gb202, 0, none⟩ (.int .i64 t195)).setCell ⟨gb202, 1, none⟩ (.bool t196)).setCell ⟨gb202, 2, none⟩ (.string t197)).setCell ⟨gb202, 3, none⟩ (.slice Ao33 t198.length co33))) := ⟨by repeat (first | (with_reducible first | exact HB.out | apply below_alloc | apply pw_below_drewN | apply below_drew1 | refine below_set ?_ GE191.out | refine below_set ?_ GE202.out) | exact HB.out)⟩
              (try clear HO183)
              (try clear HO189)
              (try clear HO194)
              (try clear HO200)
              (try clear BK191)
              (try clear BK202)
              (try clear HB)
              generalize ((((w30.setCell ⟨gb202, 0, none⟩ (.int .i64 t195)).setCell ⟨gb202, 1, none⟩ (.bool t196)).setCell ⟨gb202, 2, none⟩ (.string t197)).setCell ⟨gb202, 3, none⟩ (.slice Ao33 t198.length co33)) = w34 at n0_ n1_ n2_ n3_ n4_ n5_ n6_ ⊢
              have HO183 := n0_
              have HO189 := n1_
              have HO194 := n2_
              have HO200 := n3_
              have BK191 := n4_
              have BK202 := n5_
              have HB := n6_
              clear n0_ n1_ n2_ n3_ n4_ n5_ n6_
              have n0_ := Aside0.mk (Kd.R_drew HO183.out)
              have n1_ := Aside0.mk (Kd.R_drew HO189.out)
              have n2_ := Aside0.mk (Kd.R_drew HO194.out)
              have n3_ := Aside0.mk (Kd.R_drew HO200.out)
              have n4_ := Aside0.mk (blk_drew BK191.out)
              have n5_ := Aside0.mk (blk_drew BK202.out)
              have n6_ := Aside0.mk (below_drew1 HB.out)
              clear HO183
              clear HO189
              clear HO194
              clear HO200
              clear BK191
              clear BK202
              clear HB
              have HO183 := n0_
              have HO189 := n1_
              have HO194 := n2_
              have HO200 := n3_
              have BK191 := n4_
              have BK202 := n5_
              have HB := n6_
              clear n0_ n1_ n2_ n3_ n4_ n5_ n6_
              refine start_ (n := 16) (S := fun w' => w'.cell? ⟨gb202, 0, none⟩ = some (.int .i64 t195) ∧ w'.cell? ⟨gb202, 1, none⟩ = some (.bool t196) ∧ w'.cell? ⟨gb202, 2, none⟩ = some (.string t197) ∧ w'.cell? ⟨gb202, 3, none⟩ = some (.slice Ao33 t198.length co33) ∧ w'.cell? ⟨gb191, 0, none⟩ = some (.int .i64 t184) ∧ w'.cell? ⟨gb191, 1, none⟩ = some (.bool t185) ∧ w'.cell? ⟨gb191, 2, none⟩ = some (.string t186) ∧ w'.cell? ⟨gb191, 3, none⟩ = some (.slice Ao25 t187.length co25)) (ds := []) #[false, false, false, false, false, false, false, false, false, false, false, false, false, false, false, false] (by kernel_rfl) rfl rfl ⟨(blk_cell BK202.out 0).trans rfl, (blk_cell BK202.out 1).trans rfl, (blk_cell BK202.out 2).trans rfl, (blk_cell BK202.out 3).trans rfl, (blk_cell BK191.out 0).trans rfl, (blk_cell BK191.out 1).trans rfl, (blk_cell BK191.out 2).trans rfl, (blk_cell BK191.out 3).trans rfl⟩ (fun hHeld => ?_); refine with_tabW laws_FnTrieNarrow.tab5 laws_FnTrieNarrow.bits5 (fun HT_ HW_ => ?_)
              generalize w34.drew = w35 at HO183 HO189 HO194 HO200 BK191 BK202 HB hHeld ⊢
              refine pure_ (i := 0) (N := some 42) (v := ?_) (a' := ?_) #[true, false, false, false, false, false, false, false, false, false, false, false, false, false, false, false] rfl rfl (any_of HT_.out (by kernel_rfl)) (fun _ _ _ h => h) (Or.inl ⟨by rfl, ?_⟩) ?_ ?_
              rotate_left
              · intro w'
                go_simp
                with_reducible rfl
              rotate_left
              · simp only [Act.put, List.setIfInBounds_toArray, List.set_cons_zero, List.set_cons_succ, i64_w, i32_w]
                rfl
              refine pure_ (i := 1) (N := some 43) (v := ?_) (a' := ?_) #[true, true, false, false, false, false, false, false, false, false, false, false, false, false, false, false] rfl rfl (any_of HT_.out (by kernel_rfl)) (fun _ _ _ h => h) (Or.inl ⟨by rfl, ?_⟩) ?_ ?_
              rotate_left
              · intro w'
                go_simp
                with_reducible rfl
              rotate_left
              · simp only [Act.put, List.setIfInBounds_toArray, List.set_cons_zero, List.set_cons_succ, i64_w, i32_w]
                rfl
              refine pure_ (i := 2) (N := some 44) (v := ?_) (a' := ?_) #[true, true, true, false, false, false, false, false, false, false, false, false, false, false, false, false] rfl rfl (any_of HT_.out (by kernel_rfl)) (fun _ _ _ h => h) (Or.inl ⟨by rfl, ?_⟩) ?_ ?_
              rotate_left
              · intro w'
                go_simp
                with_reducible rfl
              rotate_left
              · simp only [Act.put, List.setIfInBounds_toArray, List.set_cons_zero, List.set_cons_succ, i64_w, i32_w]
                rfl
              refine pure_ (i := 3) (N := some 45) (v := ?_) (a' := ?_) #[true, true, true, true, false, false, false, false, false, false, false, false, false, false, false, false] rfl rfl (any_of HT_.out (by kernel_rfl)) (fun _ _ _ h => h) (Or.inl ⟨by rfl, ?_⟩) ?_ ?_
              rotate_left
              · intro w'
                go_simp
                with_reducible rfl
              rotate_left
              · simp only [Act.put, List.setIfInBounds_toArray, List.set_cons_zero, List.set_cons_succ, i64_w, i32_w]
                rfl
              refine pure_ (i := 4) (N := some 46) (v := ?_) (a' := ?_) #[true, true, true, true, true, false, false, false, false, false, false, false, false, false, false, false] rfl rfl (any_of HT_.out (by kernel_rfl)) (fun _ _ _ h => h) (Or.inl ⟨by rfl, ?_⟩) ?_ ?_
              rotate_left
              · intro w'
                go_simp
                with_reducible rfl
              rotate_left
              · simp only [Act.put, List.setIfInBounds_toArray, List.set_cons_zero, List.set_cons_succ, i64_w, i32_w]
                rfl
              refine pure_ (i := 5) (N := some 47) (v := ?_) (a' := ?_) #[true, true, true, true, true, true, false, false, false, false, false, false, false, false, false, false] rfl rfl (any_of HT_.out (by kernel_rfl)) (fun _ _ _ h => h) (Or.inl ⟨by rfl, ?_⟩) ?_ ?_
              rotate_left
              · intro w'
                go_simp
                with_reducible rfl
              rotate_left
              · simp only [Act.put, List.setIfInBounds_toArray, List.set_cons_zero, List.set_cons_succ, i64_w, i32_w]
                rfl
              refine pure_ (i := 7) (N := some 49) (v := ?_) (a' := ?_) #[true, true, true, true, true, true, false, true, false, false, false, false, false, false, false, false] rfl rfl (any_of HT_.out (by kernel_rfl)) (fun _ _ _ h => h) (Or.inl ⟨by rfl, ?_⟩) ?_ ?_
              rotate_left
              · intro w'
                go_simp
                with_reducible rfl
              rotate_left
              · simp only [Act.put, List.setIfInBounds_toArray, List.set_cons_zero, List.set_cons_succ, i64_w, i32_w]
                rfl
              refine pure_ (i := 9) (N := some 51) (v := ?_) (a' := ?_) #[true, true, true, true, true, true, false, true, false, true, false, false, false, false, false, false] rfl rfl (any_of HT_.out (by kernel_rfl)) (fun _ _ _ h => h) (Or.inl ⟨by rfl, ?_⟩) ?_ ?_
              rotate_left
              · intro w'
                go_simp
                with_reducible rfl
              rotate_left
              · simp only [Act.put, List.setIfInBounds_toArray, List.set_cons_zero, List.set_cons_succ, i64_w, i32_w]
                rfl
              refine pure_ (i := 10) (N := some 52) (v := ?_) (a' := ?_) #[true, true, true, true, true, true, false, true, false, true, true, false, false, false, false, false] rfl rfl (any_of HT_.out (by kernel_rfl)) (fun _ _ _ h => h) (Or.inl ⟨by rfl, ?_⟩) ?_ ?_
              rotate_left
              · intro w'
                go_simp
                with_reducible rfl
              rotate_left
              · simp only [Act.put, List.setIfInBounds_toArray, List.set_cons_zero, List.set_cons_succ, i64_w, i32_w]
                rfl
              refine pure_ (i := 11) (N := some 53) (v := ?_) (a' := ?_) #[true, true, true, true, true, true, false, true, false, true, true, true, false, false, false, false] rfl rfl (any_of HT_.out (by kernel_rfl)) (fun _ _ _ h => h) (Or.inl ⟨by rfl, ?_⟩) ?_ ?_
              rotate_left
              · intro w'
                go_simp
                with_reducible rfl
              rotate_left
              · simp only [Act.put, List.setIfInBounds_toArray, List.set_cons_zero, List.set_cons_succ, i64_w, i32_w]
                rfl
              refine take_ (i := 6) (N := some 48) (v := ?_) (a' := ?_) #[true, true, true, true, true, true, true, true, false, true, true, true, false, false, false, false] rfl rfl (take_ofW HT_.out HW_.out (by kernel_rfl)) (fun _ _ _ h => h) (Or.inl ⟨by rfl, ?_⟩) hHeld ?_ ?_
              rotate_left
              · rintro w' ⟨s0, s1, s2, s3, s4, s5, s6, s7⟩
                go_simp
                with_reducible rfl
              rotate_left
              · simp only [Act.put, List.setIfInBounds_toArray, List.set_cons_zero, List.set_cons_succ, i64_w, i32_w]
                rfl
              refine take_ (i := 8) (N := some 50) (v := ?_) (a' := ?_) #[true, true, true, true, true, true, true, true, true, true, true, true, false, false, false, false] rfl rfl (take_ofW HT_.out HW_.out (by kernel_rfl)) (fun _ _ _ h => h) (Or.inl ⟨by rfl, ?_⟩) hHeld ?_ ?_
              rotate_left
              · rintro w' ⟨s0, s1, s2, s3, s4, s5, s6, s7⟩
                go_simp
                with_reducible rfl
              rotate_left
              · simp only [Act.put, List.setIfInBounds_toArray, List.set_cons_zero, List.set_cons_succ, i64_w, i32_w]
                rfl
              refine one_ (i := 12) (N := some 54) #[true, true, true, true, true, true, true, true, true, true, true, true, true, false, false, false] rfl rfl (one_of HT_.out (by kernel_rfl)) (by decide) (fun K hK => ?_)
              refine goes_ Try.func13 (by kernel_rfl) rfl #[.slice Ao25 t187.length co25, .string (a1 ++ a2)] (by rfl) rfl rfl (by (try simp only [List.map_toArray, List.map_cons, List.map_nil]); first | done | rfl | (simp only [List.length_drop, List.length_take]; rfl)) ?_
              with_reducible refine (spec_With.calls kj3 _ _ t187 (a1 ++ a2) t203 _ ?side1 ?side2 A17.out).mono ?_
              (case side1 => repeat (first | exact (Kd.R_reads' HO189.out).2.2 | (with_reducible refine Kd.C_alloc ?_ _) | (with_reducible refine Kd.C_drewN ?_ _) | (with_reducible refine Kd.C_drew ?_)))
              (case side2 => exact (Kd.R_reads' HO189.out).2.1)
              rintro e w36 ⟨v204, rfl, ho0, hb⟩
              refine ⟨_, rfl, ?_⟩
              have n0_ := Aside0.mk (Kd.R_below (by (with_reducible repeat (first | apply Kd.R_alloc | apply Kd.R_drewN | apply Kd.R_drew)); exact HO183.out) hb)
              have n1_ := Aside0.mk (Kd.R_elder' (by (with_reducible repeat (first | apply Kd.R_alloc | apply Kd.R_drewN | apply Kd.R_drew)); exact HO189.out) (Kd.R_base ho0) hb)
              have n2_ := Aside0.mk (Kd.R_below (by (with_reducible repeat (first | apply Kd.R_alloc | apply Kd.R_drewN | apply Kd.R_drew)); exact HO194.out) hb)
              have n3_ := Aside0.mk (Kd.R_elder' (by (with_reducible repeat (first | apply Kd.R_alloc | apply Kd.R_drewN | apply Kd.R_drew)); exact HO200.out) (Kd.R_base ho0) hb)
              have n4_ := Aside0.mk (Kd.R_lower (Kd.R_new' (Kd.R_new' ho0 (Kd.R_lt (by (with_reducible repeat (first | apply Kd.R_alloc | apply Kd.R_drewN | apply Kd.R_drew)); exact HO189.out))) (Kd.R_lt (by (with_reducible repeat (first | apply Kd.R_alloc | apply Kd.R_drewN | apply Kd.R_drew)); exact HO200.out))) (below_size (by repeat (first | (with_reducible first | exact HB.out | apply below_alloc | apply pw_below_drewN | apply below_drew1 | refine below_set ?_ GE191.out | refine below_set ?_ GE202.out) | exact HB.out))))
              have n5_ := Aside0.mk (blk_below (g := gb191) (o := .cells #[.int .i64 t184, .bool t185, .string t186, .slice Ao25 t187.length co25] 26 (0, 0)) (by (with_reducible repeat (first | refine blk_drewN ?_ _ | refine blk_drew ?_ | refine blk_alloc ?_ _)); exact BK191.out) hb)
              have n6_ := Aside0.mk (blk_below (g := gb202) (o := .cells #[.int .i64 t195, .bool t196, .string t197, .slice Ao33 t198.length co33] 26 (0, 0)) (by (with_reducible repeat (first | refine blk_drewN ?_ _ | refine blk_drew ?_ | refine blk_alloc ?_ _)); exact BK202.out) hb)
              have n7_ := Aside0.mk (below_step (by repeat (first | (with_reducible first | exact HB.out | apply below_alloc | apply pw_below_drewN | apply below_drew1 | refine below_set ?_ GE191.out | refine below_set ?_ GE202.out) | exact HB.out)) hb)
              clear HO183
              clear HO189
              clear HO194
              clear HO200
              clear BK191
              clear BK202
              clear HB
              have HO183 := n0_
              have HO189 := n1_
              have HO194 := n2_
              have HO200 := n3_
              have HO205 := n4_
              have BK191 := n5_
              have BK202 := n6_
              have HB := n7_
              clear n0_ n1_ n2_ n3_ n4_ n5_ n6_ n7_
              (try clear hb)
              (try clear hb2)
              (try clear hk)
              (try clear hi)
              (try clear ho0)
              obtain ⟨Ao37, co37, eo37⟩ := Kd.R_slice HO205.out
              (first | subst eo37 | (injection eo37 with f1_ f2_ f3_; have f4_ := f1_.symm; have f5_ := f3_.symm; clear f1_ f2_ f3_; subst f4_; subst f5_))
              refine hK.out _ _ ⟨(blk_cell BK202.out 0).trans rfl, (blk_cell BK202.out 1).trans rfl, (blk_cell BK202.out 2).trans rfl, (blk_cell BK202.out 3).trans rfl, (blk_cell BK191.out 0).trans rfl, (blk_cell BK191.out 1).trans rfl, (blk_cell BK191.out 2).trans rfl, (blk_cell BK191.out 3).trans rfl⟩ (fun hHeld => ?_)
              clear hK K
              refine norm_ (a' := ?_) ?_ ?_
              rotate_left
              · show Act.put _ (some 54) _ = _
                simp only [Act.put, List.setIfInBounds_toArray, List.set_cons_zero, List.set_cons_succ, i64_w, i32_w]
                rfl
              refine one_ (i := 13) (N := some 55) #[true, true, true, true, true, true, true, true, true, true, true, true, true, true, false, false] rfl rfl (one_of HT_.out (by kernel_rfl)) (by decide) (fun K hK => ?_)
              refine goes_ Try.func12 (by kernel_rfl) rfl #[.slice Ao33 t198.length co33, .slice Ao37 t203.length co37] (by rfl) rfl rfl (by (try simp only [List.map_toArray, List.map_cons, List.map_nil]); first | done | rfl | (simp only [List.length_drop, List.length_take]; rfl)) ?_
              with_reducible refine (spec_SameWords.calls kj3 _ _ t198 _ _ t203 t206 _ ?side1 ?side2 ?side3 ?side4 A18.out).mono ?_
              (case side1 => repeat (first | exact (Kd.R_reads' HO200.out).2.2 | (with_reducible refine Kd.C_alloc ?_ _) | (with_reducible refine Kd.C_drewN ?_ _) | (with_reducible refine Kd.C_drew ?_)))
              (case side2 => exact (Kd.R_reads' HO200.out).2.1)
              (case side3 => repeat (first | exact (Kd.R_reads' HO205.out).2.2 | (with_reducible refine Kd.C_alloc ?_ _) | (with_reducible refine Kd.C_drewN ?_ _) | (with_reducible refine Kd.C_drew ?_)))
              (case side4 => exact (Kd.R_reads' HO205.out).2.1)
              rintro e w38 ⟨rfl, hb⟩
              refine ⟨_, rfl, ?_⟩
              have n0_ := Aside0.mk (Kd.R_below (by (with_reducible repeat (first | apply Kd.R_alloc | apply Kd.R_drewN | apply Kd.R_drew)); exact HO183.out) hb)
              have n1_ := Aside0.mk (Kd.R_below (by (with_reducible repeat (first | apply Kd.R_alloc | apply Kd.R_drewN | apply Kd.R_drew)); exact HO189.out) hb)
              have n2_ := Aside0.mk (Kd.R_below (by (with_reducible repeat (first | apply Kd.R_alloc | apply Kd.R_drewN | apply Kd.R_drew)); exact HO194.out) hb)
              have n3_ := Aside0.mk (Kd.R_below (by (with_reducible repeat (first | apply Kd.R_alloc | apply Kd.R_drewN | apply Kd.R_drew)); exact HO200.out) hb)
              have n4_ := Aside0.mk (Kd.R_below (by (with_reducible repeat (first | apply Kd.R_alloc | apply Kd.R_drewN | apply Kd.R_drew)); exact HO205.out) hb)
              have n5_ := Aside0.mk (blk_below (g := gb191) (o := .cells #[.int .i64 t184, .bool t185, .string t186, .slice Ao25 t187.length co25] 26 (0, 0)) (by (with_reducible repeat (first | refine blk_drewN ?_ _ | refine blk_drew ?_ | refine blk_alloc ?_ _)); exact BK191.out) hb)
              have n6_ := Aside0.mk (blk_below (g := gb202) (o := .cells #[.int .i64 t195, .bool t196, .string t197, .slice Ao33 t198.length co33] 26 (0, 0)) (by (with_reducible repeat (first | refine blk_drewN ?_ _ | refine blk_drew ?_ | refine blk_alloc ?_ _)); exact BK202.out) hb)
              have n7_ := Aside0.mk (below_step (by repeat (first | (with_reducible first | exact HB.out | apply below_alloc | apply pw_below_drewN | apply below_drew1 | refine below_set ?_ GE191.out | refine below_set ?_ GE202.out) | exact HB.out)) hb)
              clear HO183
              clear HO189
              clear HO194
              clear HO200
              clear HO205
              clear BK191
              clear BK202
              clear HB
              have HO183 := n0_
              have HO189 := n1_
              have HO194 := n2_
              have HO200 := n3_
              have HO205 := n4_
              have BK191 := n5_
              have BK202 := n6_
              have HB := n7_
              clear n0_ n1_ n2_ n3_ n4_ n5_ n6_ n7_
              (try clear hb)
              (try clear hb2)
              (try clear hk)
              (try clear hi)
              refine hK.out _ _ ⟨(blk_cell BK202.out 0).trans rfl, (blk_cell BK202.out 1).trans rfl, (blk_cell BK202.out 2).trans rfl, (blk_cell BK202.out 3).trans rfl, (blk_cell BK191.out 0).trans rfl, (blk_cell BK191.out 1).trans rfl, (blk_cell BK191.out 2).trans rfl, (blk_cell BK191.out 3).trans rfl⟩ (fun hHeld => ?_)
              clear hK K
              refine norm_ (a' := ?_) ?_ ?_
              rotate_left
              · show Act.put _ (some 55) _ = _
                simp only [Act.put, List.setIfInBounds_toArray, List.set_cons_zero, List.set_cons_succ, i64_w, i32_w]
                rfl
              refine pure_ (i := 14) (N := some 56) (v := ?_) (a' := ?_) #[true, true, true, true, true, true, true, true, true, true, true, true, true, true, true, false] rfl rfl (any_of HT_.out (by kernel_rfl)) (fun _ _ _ h => h) (Or.inl ⟨by rfl, ?_⟩) ?_ ?_
              rotate_left
              · intro w'
                go_simp
                with_reducible rfl
              rotate_left
              · simp only [Act.put, List.setIfInBounds_toArray, List.set_cons_zero, List.set_cons_succ, i64_w, i32_w]
                rfl
              refine pure_ (i := 15) (N := some 6) (v := ?_) (a' := ?_) #[true, true, true, true, true, true, true, true, true, true, true, true, true, true, true, true] rfl rfl (any_of HT_.out (by kernel_rfl)) (fun _ _ _ h => h) (Or.inl ⟨by rfl, ?_⟩) ?_ ?_
              rotate_left
              · intro w'
                go_simp
                with_reducible rfl
              rotate_left
              · simp only [Act.put, List.setIfInBounds_toArray, List.set_cons_zero, List.set_cons_succ, i64_w, i32_w]
                rfl
              refine done_ (done_of HT_.out (by kernel_rfl)) ?_
              try go_wp2
              go_ret
              exact ⟨by first | rfl | (simp [errW_none, errW_some] <;> rfl) | (simp [*, errW_none, errW_some] <;> rfl), by repeat (first | (with_reducible first | exact HB.out | apply below_alloc | apply pw_below_drewN | apply below_drew1 | refine below_set ?_ GE191.out | refine below_set ?_ GE202.out) | exact HB.out)⟩
            · replace c16 := Bool.eq_false_iff.mpr c16
              subst c16
              have H1 : (some false) = some r := by rw [if_neg (show ¬ (false = true) by decide)] at H; exact H
              clear H
              have H := H1
              clear H1
              obtain rfl := Option.some.inj H
              try go_wp2_with (first | ((with_reducible refine gate_dst (N := 28) rfl ?_); (try (refine gate_guard (by rfl) ?_; dsimp only)); refine Kd.R_lit k30 _ 30 ?hg (N := 28) ?hd (xs := ([(⟨5, a1, 0⟩ : S30)] : List (S30))) (inner := [.int .i64 5, .string a1, .int .i64 0]) (ok := fun _ => True) (okp := fun _ => True) ?hr ?hp (fun _ hk => hk) trivial (Below.refl _ _) (Nat.le_refl _) (by simp) ?_; (case hd => rfl); (case hg => rfl); (case hr => first | (go_simp; done) | (go_simp; rfl)); (case hp => exact (Reps.c3 (show Kd.M k30 _ _ _ (⟨5, a1, 0⟩ : S30) [.int .i64 5, .string a1, .int .i64 0] from (k30_mkM _ _ _ (⟨5, a1, 0⟩ : S30) )) (Reps.none _ _))); intro v182 w39 ho40 hb hg_ hnew_; clear hg_ hnew_; (first | rw [← Ny181.out] at ho40 | (simp only [Int.reduceToNat] at ho40; rw [← Ny181.out] at ho40)); have n0_ := Aside0.mk (Kd.R_lower ho40 (below_size (by repeat (first | (with_reducible first | exact HB.out | apply below_alloc | apply pw_below_drewN | apply below_drew1) | exact HB.out)))); have n1_ := Aside0.mk (below_step (by repeat (first | (with_reducible first | exact HB.out | apply below_alloc | apply pw_below_drewN | apply below_drew1) | exact HB.out)) hb); clear HB; have HO183 := n0_; have HB := n1_; clear n0_ n1_; clear hb ho40; obtain ⟨Ao41, co41, eo41⟩ := Kd.R_slice HO183.out; subst eo41) | ((with_reducible refine gate_callee (f := 10) rfl ?_); refine goesL_ (some 29) rfl rfl Try.func10 (by kernel_rfl) rfl #[.slice A0 l0.length c0, .slice Ao41 y181.length co41] rfl (by (try simp only [List.map_toArray, List.map_cons, List.map_nil]); first | done | rfl | (simp only [List.length_drop, List.length_take]; rfl)) ?_; (with_reducible refine (laws_wordLast.calls _ _ l0 _ _ y181 t184 t185 t186 t187 true _ ?side1 ?side2 ?side3 ?side4 A12.out).mono ?_); (case side1 => repeat (first | exact (Kd.C_below HR0.out HB.out) | (with_reducible refine Kd.C_alloc ?_ _) | (with_reducible refine Kd.C_drewN ?_ _) | (with_reducible refine Kd.C_drew ?_))); (case side2 => exact HC0.out); (case side3 => repeat (first | exact (Kd.R_reads' HO183.out).2.2 | (with_reducible refine Kd.C_alloc ?_ _) | (with_reducible refine Kd.C_drewN ?_ _) | (with_reducible refine Kd.C_drew ?_))); (case side4 => exact (Kd.R_reads' HO183.out).2.1); rintro e w42 ⟨v188, rfl, ho0, hb⟩; refine ⟨_, rfl, ?_⟩; have n0_ := Aside0.mk (Kd.R_below (by (with_reducible repeat (first | apply Kd.R_alloc | apply Kd.R_drewN | apply Kd.R_drew)); exact HO183.out) hb); have n1_ := Aside0.mk (Kd.R_lower ho0 (below_size (by repeat (first | (with_reducible first | exact HB.out | apply below_alloc | apply pw_below_drewN | apply below_drew1) | exact HB.out)))); have n2_ := Aside0.mk (below_step (by repeat (first | (with_reducible first | exact HB.out | apply below_alloc | apply pw_below_drewN | apply below_drew1) | exact HB.out)) hb); clear HO183; clear HB; have HO183 := n0_; have HO189 := n1_; have HB := n2_; clear n0_ n1_ n2_; (try clear hb); (try clear hb2); (try clear hk); (try clear hi); (try clear ho0)) | ((with_reducible refine gate_dst (N := 7) rfl ?_); (try (refine gate_guard (by rfl) ?_; dsimp only)); refine box_event ?hg (N := 7) ?hd (cs := #[.int .i64 0, .bool false, .string (⟨#[]⟩ : ByteArray), .slice none 0 0]) (t := 26) ?hr ?_; (case hd => rfl); (case hg => rfl); (case hr => first | (go_simp; done) | (go_simp; rfl)); intro gb191 hg w43 hbox hb; have n0_ := Aside0.mk (Kd.R_below (by (with_reducible repeat (first | apply Kd.R_alloc | apply Kd.R_drewN | apply Kd.R_drew)); exact HO183.out) hb); have n1_ := Aside0.mk (Kd.R_below (by (with_reducible repeat (first | apply Kd.R_alloc | apply Kd.R_drewN | apply Kd.R_drew)); exact HO189.out) hb); have n2_ := Aside0.mk (below_step (by repeat (first | (with_reducible first | exact HB.out | apply below_alloc | apply pw_below_drewN | apply below_drew1) | exact HB.out)) hb); have n3_ := Aside0.mk (hbox); have n4_ := Aside0.mk ((by rw [hg]; exact (below_size (by repeat (first | (with_reducible first | exact HB.out | apply below_alloc | apply pw_below_drewN | apply below_drew1) | exact HB.out))) : w.heap.size ≤ gb191)); have n5_ := Aside0.mk ((by rw [hg]; exact (below_size (by repeat (first | (with_reducible first | exact HB.out | apply below_alloc | apply pw_below_drewN | apply below_drew1) | exact HB.out))) : w.heap.size ≤ gb191)); clear HO183; clear HO189; clear HB; have HO183 := n0_; have HO189 := n1_; have HB := n2_; have BK191 := n3_; have GW191 := n4_; have GE191 := n5_; clear n0_ n1_ n2_ n3_ n4_ n5_; clear hb hbox hg; have hcz44_0 : w43.cell? ⟨gb191, 0, none⟩ = some (.int .i64 0) := (blk_cell BK191.out 0).trans rfl; have hcz44_1 : w43.cell? ⟨gb191, 1, none⟩ = some (.bool false) := (blk_cell BK191.out 1).trans rfl; have hcz44_2 : w43.cell? ⟨gb191, 2, none⟩ = some (.string (⟨#[]⟩ : ByteArray)) := (blk_cell BK191.out 2).trans rfl; have hcz44_3 : w43.cell? ⟨gb191, 3, none⟩ = some (.slice none 0 0) := (blk_cell BK191.out 3).trans rfl; have hfz44_0 := blk_frozen BK191.out 0; have hfz44_1 := blk_frozen BK191.out 1; have hfz44_2 := blk_frozen BK191.out 2; have hfz44_3 := blk_frozen BK191.out 3; obtain ⟨Ao45, co45, eo45⟩ := Kd.R_slice HO189.out; subst eo45) | ((with_reducible refine gate_dst (N := 38) rfl ?_); (try (refine gate_guard (by rfl) ?_; dsimp only)); refine Kd.R_lit k30 _ 30 ?hg (N := 38) ?hd (xs := ([(⟨5, a1 ++ a2, 0⟩ : S30)] : List (S30))) (inner := [.int .i64 5, .string (a1 ++ a2), .int .i64 0]) (ok := fun _ => True) (okp := fun _ => True) ?hr ?hp (fun _ hk => hk) trivial (Below.refl _ _) (Nat.le_refl _) (by simp) ?_; (case hd => rfl); (case hg => rfl); (case hr => first | (go_simp; done) | (go_simp; rfl)); (case hp => exact (Reps.c3 (show Kd.M k30 _ _ _ (⟨5, a1 ++ a2, 0⟩ : S30) [.int .i64 5, .string (a1 ++ a2), .int .i64 0] from (k30_mkM _ _ _ (⟨5, a1 ++ a2, 0⟩ : S30) )) (Reps.none _ _))); intro v193 w46 ho47 hb hg_ hnew_; clear hg_ hnew_; (first | rw [← Ny192.out] at ho47 | (simp only [Int.reduceToNat] at ho47; rw [← Ny192.out] at ho47)); have n0_ := Aside0.mk (Kd.R_elder' (by (with_reducible repeat (first | apply Kd.R_alloc | apply Kd.R_drewN | apply Kd.R_drew)); exact (Kd.R_mono (Kd.R_far (p := ⟨gb191, 3, none⟩) (Kd.R_far (p := ⟨gb191, 2, none⟩) (Kd.R_far (p := ⟨gb191, 1, none⟩) (Kd.R_far (p := ⟨gb191, 0, none⟩) (Kd.R_types HO183.out BK191.out (by decide)) (fun _ hk => hk.2) (.int .i64 t184)) (fun _ hk => hk.2) (.bool t185)) (fun _ hk => hk.2) (.string t186)) (fun _ hk => hk.2) (.slice Ao45 t187.length co45)) (fun _ h_ => h_.1))) (Kd.R_base ho47) hb); have n1_ := Aside0.mk (Kd.R_below (by (with_reducible repeat (first | apply Kd.R_alloc | apply Kd.R_drewN | apply Kd.R_drew)); exact (Kd.R_mono (Kd.R_far (p := ⟨gb191, 3, none⟩) (Kd.R_far (p := ⟨gb191, 2, none⟩) (Kd.R_far (p := ⟨gb191, 1, none⟩) (Kd.R_far (p := ⟨gb191, 0, none⟩) (Kd.R_types HO189.out BK191.out (by decide)) (fun _ hk => hk.2) (.int .i64 t184)) (fun _ hk => hk.2) (.bool t185)) (fun _ hk => hk.2) (.string t186)) (fun _ hk => hk.2) (.slice Ao45 t187.length co45)) (fun _ h_ => h_.1))) hb); have n2_ := Aside0.mk (Kd.R_lower (Kd.R_new' ho47 (Kd.R_lt (by (with_reducible repeat (first | apply Kd.R_alloc | apply Kd.R_drewN | apply Kd.R_drew)); exact (Kd.R_mono (Kd.R_far (p := ⟨gb191, 3, none⟩) (Kd.R_far (p := ⟨gb191, 2, none⟩) (Kd.R_far (p := ⟨gb191, 1, none⟩) (Kd.R_far (p := ⟨gb191, 0, none⟩) (Kd.R_types HO183.out BK191.out (by decide)) (fun _ hk => hk.2) (.int .i64 t184)) (fun _ hk => hk.2) (.bool t185)) (fun _ hk => hk.2) (.string t186)) (fun _ hk => hk.2) (.slice Ao45 t187.length co45)) (fun _ h_ => h_.1))))) (below_size (by repeat (first | (with_reducible first | exact HB.out | apply below_alloc | apply pw_below_drewN | apply below_drew1 | refine below_set ?_ GE191.out) | exact HB.out)))); have n3_ := Aside0.mk (blk_below (g := gb191) (o := .cells #[.int .i64 t184, .bool t185, .string t186, .slice Ao45 t187.length co45] 26 (0, 0)) (by (with_reducible repeat (first | refine blk_drewN ?_ _ | refine blk_drew ?_ | refine blk_alloc ?_ _)); refine blk_put (cs := #[.int .i64 t184, .bool t185, .string t186, .slice none 0 0]) ?_ 3 _ rfl; (with_reducible repeat (first | refine blk_drewN ?_ _ | refine blk_drew ?_ | refine blk_alloc ?_ _)); refine blk_put (cs := #[.int .i64 t184, .bool t185, .string (⟨#[]⟩ : ByteArray), .slice none 0 0]) ?_ 2 _ rfl; (with_reducible repeat (first | refine blk_drewN ?_ _ | refine blk_drew ?_ | refine blk_alloc ?_ _)); refine blk_put (cs := #[.int .i64 t184, .bool false, .string (⟨#[]⟩ : ByteArray), .slice none 0 0]) ?_ 1 _ rfl; (with_reducible repeat (first | refine blk_drewN ?_ _ | refine blk_drew ?_ | refine blk_alloc ?_ _)); refine blk_put (cs := #[.int .i64 0, .bool false, .string (⟨#[]⟩ : ByteArray), .slice none 0 0]) ?_ 0 _ rfl; (with_reducible repeat (first | refine blk_drewN ?_ _ | refine blk_drew ?_ | refine blk_alloc ?_ _)); exact BK191.out) hb); have n4_ := Aside0.mk (below_step (by repeat (first | (with_reducible first | exact HB.out | apply below_alloc | apply pw_below_drewN | apply below_drew1 | refine below_set ?_ GE191.out) | exact HB.out)) hb); clear HO183; clear HO189; clear BK191; clear HB; have HO183 := n0_; have HO189 := n1_; have HO194 := n2_; have BK191 := n3_; have HB := n4_; clear n0_ n1_ n2_ n3_ n4_; clear hb ho47; obtain ⟨Ao48, co48, eo48⟩ := Kd.R_slice HO194.out; subst eo48) | ((with_reducible refine gate_callee (f := 10) rfl ?_); refine goesL_ (some 39) rfl rfl Try.func10 (by kernel_rfl) rfl #[.slice A0 l0.length c0, .slice Ao48 y192.length co48] rfl (by (try simp only [List.map_toArray, List.map_cons, List.map_nil]); first | done | rfl | (simp only [List.length_drop, List.length_take]; rfl)) ?_; (with_reducible refine (laws_wordLast.calls _ _ l0 _ _ y192 t195 t196 t197 t198 false _ ?side1 ?side2 ?side3 ?side4 A14.out).mono ?_); (case side1 => repeat (first | exact (Kd.C_below HR0.out HB.out) | (with_reducible refine Kd.C_alloc ?_ _) | (with_reducible refine Kd.C_drewN ?_ _) | (with_reducible refine Kd.C_drew ?_))); (case side2 => exact HC0.out); (case side3 => repeat (first | exact (Kd.R_reads' HO194.out).2.2 | (with_reducible refine Kd.C_alloc ?_ _) | (with_reducible refine Kd.C_drewN ?_ _) | (with_reducible refine Kd.C_drew ?_))); (case side4 => exact (Kd.R_reads' HO194.out).2.1); rintro e w49 ⟨v199, rfl, ho0, hb⟩; refine ⟨_, rfl, ?_⟩; have n0_ := Aside0.mk (Kd.R_below (by (with_reducible repeat (first | apply Kd.R_alloc | apply Kd.R_drewN | apply Kd.R_drew)); exact HO183.out) hb); have n1_ := Aside0.mk (Kd.R_elder' (by (with_reducible repeat (first | apply Kd.R_alloc | apply Kd.R_drewN | apply Kd.R_drew)); exact HO189.out) (Kd.R_base ho0) hb); have n2_ := Aside0.mk (Kd.R_below (by (with_reducible repeat (first | apply Kd.R_alloc | apply Kd.R_drewN | apply Kd.R_drew)); exact HO194.out) hb); have n3_ := Aside0.mk (Kd.R_lower (Kd.R_new' ho0 (Kd.R_lt (by (with_reducible repeat (first | apply Kd.R_alloc | apply Kd.R_drewN | apply Kd.R_drew)); exact HO189.out))) (below_size (by repeat (first | (with_reducible first | exact HB.out | apply below_alloc | apply pw_below_drewN | apply below_drew1 | refine below_set ?_ GE191.out) | exact HB.out)))); have n4_ := Aside0.mk (blk_below (g := gb191) (o := .cells #[.int .i64 t184, .bool t185, .string t186, .slice Ao45 t187.length co45] 26 (0, 0)) (by (with_reducible repeat (first | refine blk_drewN ?_ _ | refine blk_drew ?_ | refine blk_alloc ?_ _)); exact BK191.out) hb); have n5_ := Aside0.mk (below_step (by repeat (first | (with_reducible first | exact HB.out | apply below_alloc | apply pw_below_drewN | apply below_drew1 | refine below_set ?_ GE191.out) | exact HB.out)) hb); clear HO183; clear HO189; clear HO194; clear BK191; clear HB; have HO183 := n0_; have HO189 := n1_; have HO194 := n2_; have HO200 := n3_; have BK191 := n4_; have HB := n5_; clear n0_ n1_ n2_ n3_ n4_ n5_; (try clear hb); (try clear hb2); (try clear hk); (try clear hi); (try clear ho0)) | ((with_reducible refine gate_dst (N := 9) rfl ?_); (try (refine gate_guard (by rfl) ?_; dsimp only)); refine box_event ?hg (N := 9) ?hd (cs := #[.int .i64 0, .bool false, .string (⟨#[]⟩ : ByteArray), .slice none 0 0]) (t := 26) ?hr ?_; (case hd => rfl); (case hg => rfl); (case hr => first | (go_simp; done) | (go_simp; rfl)); intro gb202 hg w50 hbox hb; have n0_ := Aside0.mk (Kd.R_below (by (with_reducible repeat (first | apply Kd.R_alloc | apply Kd.R_drewN | apply Kd.R_drew)); exact HO183.out) hb); have n1_ := Aside0.mk (Kd.R_below (by (with_reducible repeat (first | apply Kd.R_alloc | apply Kd.R_drewN | apply Kd.R_drew)); exact HO189.out) hb); have n2_ := Aside0.mk (Kd.R_below (by (with_reducible repeat (first | apply Kd.R_alloc | apply Kd.R_drewN | apply Kd.R_drew)); exact HO194.out) hb); have n3_ := Aside0.mk (Kd.R_below (by (with_reducible repeat (first | apply Kd.R_alloc | apply Kd.R_drewN | apply Kd.R_drew)); exact HO200.out) hb); have n4_ := Aside0.mk (blk_below (g := gb191) (o := .cells #[.int .i64 t184, .bool t185, .string t186, .slice Ao45 t187.length co45] 26 (0, 0)) (by (with_reducible repeat (first | refine blk_drewN ?_ _ | refine blk_drew ?_ | refine blk_alloc ?_ _)); exact BK191.out) hb); have n5_ := Aside0.mk (below_step (by repeat (first | (with_reducible first | exact HB.out | apply below_alloc | apply pw_below_drewN | apply below_drew1 | refine below_set ?_ GE191.out) | exact HB.out)) hb); have n6_ := Aside0.mk (hbox); have n7_ := Aside0.mk ((by rw [hg]; exact (below_size (by repeat (first | (with_reducible first | exact HB.out | apply below_alloc | apply pw_below_drewN | apply below_drew1 | refine below_set ?_ GE191.out) | exact HB.out))) : w.heap.size ≤ gb202)); have n8_ := Aside0.mk ((by rw [hg]; exact (below_size (by repeat (first | (with_reducible first | exact HB.out | apply below_alloc | apply pw_below_drewN | apply below_drew1 | refine below_set ?_ GE191.out) | exact HB.out))) : w.heap.size ≤ gb202)); have n9_ := Aside0.mk ((by rw [hg]; exact Nat.ne_of_lt (blk_lt (g := gb191) (o := .cells #[.int .i64 t184, .bool t185, .string t186, .slice Ao45 t187.length co45] 26 (0, 0)) (by (with_reducible repeat (first | refine blk_drewN ?_ _ | refine blk_drew ?_ | refine blk_alloc ?_ _)); exact BK191.out)) : gb191 ≠ gb202)); have n10_ := Aside0.mk ((by rw [hg]; exact Nat.ne_of_gt (blk_lt (g := gb191) (o := .cells #[.int .i64 t184, .bool t185, .string t186, .slice Ao45 t187.length co45] 26 (0, 0)) (by (with_reducible repeat (first | refine blk_drewN ?_ _ | refine blk_drew ?_ | refine blk_alloc ?_ _)); exact BK191.out)) : gb202 ≠ gb191)); clear HO183; clear HO189; clear HO194; clear HO200; clear BK191; clear HB; have HO183 := n0_; have HO189 := n1_; have HO194 := n2_; have HO200 := n3_; have BK191 := n4_; have HB := n5_; have BK202 := n6_; have GW202 := n7_; have GE202 := n8_; have NB191_202 := n9_; have NB202_191 := n10_; clear n0_ n1_ n2_ n3_ n4_ n5_ n6_ n7_ n8_ n9_ n10_; clear hb hbox hg; have hnb51 := NB202_191.out; have hnc51 := NB191_202.out; have hcz52_0 : w50.cell? ⟨gb202, 0, none⟩ = some (.int .i64 0) := (blk_cell BK202.out 0).trans rfl; have hcz52_1 : w50.cell? ⟨gb202, 1, none⟩ = some (.bool false) := (blk_cell BK202.out 1).trans rfl; have hcz52_2 : w50.cell? ⟨gb202, 2, none⟩ = some (.string (⟨#[]⟩ : ByteArray)) := (blk_cell BK202.out 2).trans rfl; have hcz52_3 : w50.cell? ⟨gb202, 3, none⟩ = some (.slice none 0 0) := (blk_cell BK202.out 3).trans rfl; have hfz52_0 := blk_frozen BK202.out 0; have hfz52_1 := blk_frozen BK202.out 1; have hfz52_2 := blk_frozen BK202.out 2; have hfz52_3 := blk_frozen BK202.out 3; obtain ⟨Ao53, co53, eo53⟩ := Kd.R_slice HO200.out; subst eo53))
              have n0_ : Aside0 (Kd.R k30 30 ((((w50.setCell ⟨gb202, 0, none⟩ (.int .i64 t195)).setCell ⟨gb202, 1, none⟩ (.bool t196)).setCell ⟨gb202, 2, none⟩ (.string t197)).setCell ⟨gb202, 3, none⟩ (.slice Ao53 t198.length co53)) w.heap.size (fun k_ => some k_ ≠ (.slice Ao48 y192.length co48 : Value).ownBlock) (.slice Ao41 y181.length co41) y181) := ⟨by (with_reducible repeat (first | apply Kd.R_alloc | apply Kd.R_drewN | apply Kd.R_drew)); exact Kd.R_mono (Kd.R_far (p := ⟨gb202, 3, none⟩) (Kd.R_far (p := ⟨gb202, 2, none⟩) (Kd.R_far (p := ⟨gb202, 1, none⟩) (Kd.R_far (p := ⟨gb202, 0, none⟩) (Kd.R_types HO183.out BK202.out (by decide)) (fun _ hk => hk.2) (.int .i64 t195)) (fun _ hk => hk.2) (.bool t196)) (fun _ hk => hk.2) (.string t197)) (fun _ hk => hk.2) (.slice Ao53 t198.length co53)) (fun _ hk => hk.1.2)⟩
              have n1_ : Aside0 (Kd.R Kd.string 9 ((((w50.setCell ⟨gb202, 0, none⟩ (.int .i64 t195)).setCell ⟨gb202, 1, none⟩ (.bool t196)).setCell ⟨gb202, 2, none⟩ (.string t197)).setCell ⟨gb202, 3, none⟩ (.slice Ao53 t198.length co53)) w.heap.size (fun k_ => some k_ ≠ (.slice Ao53 t198.length co53 : Value).ownBlock) (.slice Ao45 t187.length co45) t187) := ⟨by (with_reducible repeat (first | apply Kd.R_alloc | apply Kd.R_drewN | apply Kd.R_drew)); exact Kd.R_mono (Kd.R_far (p := ⟨gb202, 3, none⟩) (Kd.R_far (p := ⟨gb202, 2, none⟩) (Kd.R_far (p := ⟨gb202, 1, none⟩) (Kd.R_far (p := ⟨gb202, 0, none⟩) (Kd.R_types HO189.out BK202.out (by decide)) (fun _ hk => hk.2) (.int .i64 t195)) (fun _ hk => hk.2) (.bool t196)) (fun _ hk => hk.2) (.string t197)) (fun _ hk => hk.2) (.slice Ao53 t198.length co53)) (fun _ hk => hk.1.2)⟩
              have n2_ : Aside0 (Kd.R k30 30 ((((w50.setCell ⟨gb202, 0, none⟩ (.int .i64 t195)).setCell ⟨gb202, 1, none⟩ (.bool t196)).setCell ⟨gb202, 2, none⟩ (.string t197)).setCell ⟨gb202, 3, none⟩ (.slice Ao53 t198.length co53)) w.heap.size (fun k_ => some k_ ≠ (.slice Ao41 y181.length co41 : Value).ownBlock) (.slice Ao48 y192.length co48) y192) := ⟨by (with_reducible repeat (first | apply Kd.R_alloc | apply Kd.R_drewN | apply Kd.R_drew)); exact Kd.R_mono (Kd.R_far (p := ⟨gb202, 3, none⟩) (Kd.R_far (p := ⟨gb202, 2, none⟩) (Kd.R_far (p := ⟨gb202, 1, none⟩) (Kd.R_far (p := ⟨gb202, 0, none⟩) (Kd.R_types HO194.out BK202.out (by decide)) (fun _ hk => hk.2) (.int .i64 t195)) (fun _ hk => hk.2) (.bool t196)) (fun _ hk => hk.2) (.string t197)) (fun _ hk => hk.2) (.slice Ao53 t198.length co53)) (fun _ hk => hk.1.2)⟩
              have n3_ : Aside0 (Kd.R Kd.string 9 ((((w50.setCell ⟨gb202, 0, none⟩ (.int .i64 t195)).setCell ⟨gb202, 1, none⟩ (.bool t196)).setCell ⟨gb202, 2, none⟩ (.string t197)).setCell ⟨gb202, 3, none⟩ (.slice Ao53 t198.length co53)) w.heap.size (fun k_ => some k_ ≠ (.slice Ao45 t187.length co45 : Value).ownBlock) (.slice Ao53 t198.length co53) t198) := ⟨by (with_reducible repeat (first | apply Kd.R_alloc | apply Kd.R_drewN | apply Kd.R_drew)); exact Kd.R_mono (Kd.R_far (p := ⟨gb202, 3, none⟩) (Kd.R_far (p := ⟨gb202, 2, none⟩) (Kd.R_far (p := ⟨gb202, 1, none⟩) (Kd.R_far (p := ⟨gb202, 0, none⟩) (Kd.R_types HO200.out BK202.out (by decide)) (fun _ hk => hk.2) (.int .i64 t195)) (fun _ hk => hk.2) (.bool t196)) (fun _ hk => hk.2) (.string t197)) (fun _ hk => hk.2) (.slice Ao53 t198.length co53)) (fun _ hk => hk.1.2)⟩
              have n4_ : Aside0 (((((w50.setCell ⟨gb202, 0, none⟩ (.int .i64 t195)).setCell ⟨gb202, 1, none⟩ (.bool t196)).setCell ⟨gb202, 2, none⟩ (.string t197)).setCell ⟨gb202, 3, none⟩ (.slice Ao53 t198.length co53)).heap[gb191]? = some (.cells #[.int .i64 t184, .bool t185, .string t186, .slice Ao45 t187.length co45] 26 (0, 0))) := ⟨by (with_reducible repeat (first | refine blk_drewN ?_ _ | refine blk_drew ?_ | refine blk_alloc ?_ _)); refine blk_far ?_ NB191_202.out _; (with_reducible repeat (first | refine blk_drewN ?_ _ | refine blk_drew ?_ | refine blk_alloc ?_ _)); refine blk_far ?_ NB191_202.out _; (with_reducible repeat (first | refine blk_drewN ?_ _ | refine blk_drew ?_ | refine blk_alloc ?_ _)); refine blk_far ?_ NB191_202.out _; (with_reducible repeat (first | refine blk_drewN ?_ _ | refine blk_drew ?_ | refine blk_alloc ?_ _)); refine blk_far ?_ NB191_202.out _; (with_reducible repeat (first | refine blk_drewN ?_ _ | refine blk_drew ?_ | refine blk_alloc ?_ _)); exact BK191.out⟩
              have n5_ : Aside0 (((((w50.setCell ⟨gb202, 0, none⟩ (.int .i64 t195)).setCell ⟨gb202, 1, none⟩ (.bool t196)).setCell ⟨gb202, 2, none⟩ (.string t197)).setCell ⟨gb202, 3, none⟩ (.slice Ao53 t198.length co53)).heap[gb202]? = some (.cells #[.int .i64 t195, .bool t196, .string t197, .slice Ao53 t198.length co53] 26 (0, 0))) := ⟨by (with_reducible repeat (first | refine blk_drewN ?_ _ | refine blk_drew ?_ | refine blk_alloc ?_ _)); refine blk_put (cs := #[.int .i64 t195, .bool t196, .string t197, .slice none 0 0]) ?_ 3 _ rfl; (with_reducible repeat (first | refine blk_drewN ?_ _ | refine blk_drew ?_ | refine blk_alloc ?_ _)); refine blk_put (cs := #[.int .i64 t195, .bool t196, .string (⟨#[]⟩ : ByteArray), .slice none 0 0]) ?_ 2 _ rfl; (with_reducible repeat (first | refine blk_drewN ?_ _ | refine blk_drew ?_ | refine blk_alloc ?_ _)); refine blk_put (cs := #[.int .i64 t195, .bool false, .string (⟨#[]⟩ : ByteArray), .slice none 0 0]) ?_ 1 _ rfl; (with_reducible repeat (first | refine blk_drewN ?_ _ | refine blk_drew ?_ | refine blk_alloc ?_ _)); refine blk_put (cs := #[.int .i64 0, .bool false, .string (⟨#[]⟩ : ByteArray), .slice none 0 0]) ?_ 0 _ rfl; (with_reducible repeat (first | refine blk_drewN ?_ _ | refine blk_drew ?_ | refine blk_alloc ?_ _)); exact BK202.out⟩
              have n6_ : Aside0 (Below w.heap.size w ((((w50.setCell ⟨gb202, 0, none⟩ (.int .i64 t195)).setCell ⟨gb202, 1, none⟩ (.bool t196)).setCell ⟨gb202, 2, none⟩ (.string t197)).setCell ⟨gb202, 3, none⟩ (.slice Ao53 t198.length co53))) := ⟨by repeat (first | (with_reducible first | exact HB.out | apply below_alloc | apply pw_below_drewN | apply below_drew1 | refine below_set ?_ GE191.out | refine below_set ?_ GE202.out) | exact HB.out)⟩
              (try clear HO183)
              (try clear HO189)
              (try clear HO194)
              (try clear HO200)
              (try clear BK191)
              (try clear BK202)
              (try clear HB)
              generalize ((((w50.setCell ⟨gb202, 0, none⟩ (.int .i64 t195)).setCell ⟨gb202, 1, none⟩ (.bool t196)).setCell ⟨gb202, 2, none⟩ (.string t197)).setCell ⟨gb202, 3, none⟩ (.slice Ao53 t198.length co53)) = w54 at n0_ n1_ n2_ n3_ n4_ n5_ n6_ ⊢
              have HO183 := n0_
              have HO189 := n1_
              have HO194 := n2_
              have HO200 := n3_
              have BK191 := n4_
              have BK202 := n5_
              have HB := n6_
              clear n0_ n1_ n2_ n3_ n4_ n5_ n6_
              have n0_ := Aside0.mk (Kd.R_drew HO183.out)
              have n1_ := Aside0.mk (Kd.R_drew HO189.out)
              have n2_ := Aside0.mk (Kd.R_drew HO194.out)
              have n3_ := Aside0.mk (Kd.R_drew HO200.out)
              have n4_ := Aside0.mk (blk_drew BK191.out)
              have n5_ := Aside0.mk (blk_drew BK202.out)
              have n6_ := Aside0.mk (below_drew1 HB.out)
              clear HO183
              clear HO189
              clear HO194
              clear HO200
              clear BK191
              clear BK202
              clear HB
              have HO183 := n0_
              have HO189 := n1_
              have HO194 := n2_
              have HO200 := n3_
              have BK191 := n4_
              have BK202 := n5_
              have HB := n6_
              clear n0_ n1_ n2_ n3_ n4_ n5_ n6_
              refine start_ (n := 16) (S := fun w' => True) (ds := []) #[false, false, false, false, false, false, false, false, false, false, false, false, false, false, false, false] (by kernel_rfl) rfl rfl trivial (fun hHeld => ?_); refine with_tabW laws_FnTrieNarrow.tab5 laws_FnTrieNarrow.bits5 (fun HT_ HW_ => ?_)
              generalize w54.drew = w55 at HO183 HO189 HO194 HO200 BK191 BK202 HB hHeld ⊢
              refine pure_ (i := 0) (N := some 42) (v := ?_) (a' := ?_) #[true, false, false, false, false, false, false, false, false, false, false, false, false, false, false, false] rfl rfl (any_of HT_.out (by kernel_rfl)) (fun _ _ _ h => h) (Or.inl ⟨by rfl, ?_⟩) ?_ ?_
              rotate_left
              · intro w'
                go_simp
                with_reducible rfl
              rotate_left
              · simp only [Act.put, List.setIfInBounds_toArray, List.set_cons_zero, List.set_cons_succ, i64_w, i32_w]
                rfl
              refine pure_ (i := 1) (N := some 43) (v := ?_) (a' := ?_) #[true, true, false, false, false, false, false, false, false, false, false, false, false, false, false, false] rfl rfl (any_of HT_.out (by kernel_rfl)) (fun _ _ _ h => h) (Or.inl ⟨by rfl, ?_⟩) ?_ ?_
              rotate_left
              · intro w'
                go_simp
                with_reducible rfl
              rotate_left
              · simp only [Act.put, List.setIfInBounds_toArray, List.set_cons_zero, List.set_cons_succ, i64_w, i32_w]
                rfl
              refine pure_ (i := 2) (N := some 44) (v := ?_) (a' := ?_) #[true, true, true, false, false, false, false, false, false, false, false, false, false, false, false, false] rfl rfl (any_of HT_.out (by kernel_rfl)) (fun _ _ _ h => h) (Or.inl ⟨by rfl, ?_⟩) ?_ ?_
              rotate_left
              · intro w'
                go_simp
                with_reducible rfl
              rotate_left
              · simp only [Act.put, List.setIfInBounds_toArray, List.set_cons_zero, List.set_cons_succ, i64_w, i32_w]
                rfl
              refine pure_ (i := 3) (N := some 45) (v := ?_) (a' := ?_) #[true, true, true, true, false, false, false, false, false, false, false, false, false, false, false, false] rfl rfl (any_of HT_.out (by kernel_rfl)) (fun _ _ _ h => h) (Or.inl ⟨by rfl, ?_⟩) ?_ ?_
              rotate_left
              · intro w'
                go_simp
                with_reducible rfl
              rotate_left
              · simp only [Act.put, List.setIfInBounds_toArray, List.set_cons_zero, List.set_cons_succ, i64_w, i32_w]
                rfl
              refine pure_ (i := 4) (N := some 46) (v := ?_) (a' := ?_) #[true, true, true, true, true, false, false, false, false, false, false, false, false, false, false, false] rfl rfl (any_of HT_.out (by kernel_rfl)) (fun _ _ _ h => h) (Or.inl ⟨by rfl, ?_⟩) ?_ ?_
              rotate_left
              · intro w'
                go_simp
                with_reducible rfl
              rotate_left
              · simp only [Act.put, List.setIfInBounds_toArray, List.set_cons_zero, List.set_cons_succ, i64_w, i32_w]
                rfl
              refine pure_ (i := 5) (N := some 47) (v := undef) (a' := ?_) #[true, true, true, true, true, true, false, false, false, false, false, false, false, false, false, false] rfl rfl (any_of HT_.out (by kernel_rfl)) (fun _ _ _ h => h) (Or.inr ⟨by rfl, rfl⟩) ?_ ?_
              rotate_left
              · simp only [Act.put, List.setIfInBounds_toArray, List.set_cons_zero, List.set_cons_succ, i64_w, i32_w]
                rfl
              refine pure_ (i := 6) (N := some 48) (v := undef) (a' := ?_) #[true, true, true, true, true, true, true, false, false, false, false, false, false, false, false, false] rfl rfl (any_of HT_.out (by kernel_rfl)) (fun _ _ _ h => h) (Or.inr ⟨by rfl, rfl⟩) ?_ ?_
              rotate_left
              · simp only [Act.put, List.setIfInBounds_toArray, List.set_cons_zero, List.set_cons_succ, i64_w, i32_w]
                rfl
              refine pure_ (i := 7) (N := some 49) (v := undef) (a' := ?_) #[true, true, true, true, true, true, true, true, false, false, false, false, false, false, false, false] rfl rfl (any_of HT_.out (by kernel_rfl)) (fun _ _ _ h => h) (Or.inr ⟨by rfl, rfl⟩) ?_ ?_
              rotate_left
              · simp only [Act.put, List.setIfInBounds_toArray, List.set_cons_zero, List.set_cons_succ, i64_w, i32_w]
                rfl
              refine pure_ (i := 8) (N := some 50) (v := undef) (a' := ?_) #[true, true, true, true, true, true, true, true, true, false, false, false, false, false, false, false] rfl rfl (any_of HT_.out (by kernel_rfl)) (fun _ _ _ h => h) (Or.inr ⟨by rfl, rfl⟩) ?_ ?_
              rotate_left
              · simp only [Act.put, List.setIfInBounds_toArray, List.set_cons_zero, List.set_cons_succ, i64_w, i32_w]
                rfl
              refine pure_ (i := 9) (N := some 51) (v := undef) (a' := ?_) #[true, true, true, true, true, true, true, true, true, true, false, false, false, false, false, false] rfl rfl (any_of HT_.out (by kernel_rfl)) (fun _ _ _ h => h) (Or.inr ⟨by rfl, rfl⟩) ?_ ?_
              rotate_left
              · simp only [Act.put, List.setIfInBounds_toArray, List.set_cons_zero, List.set_cons_succ, i64_w, i32_w]
                rfl
              refine pure_ (i := 10) (N := some 52) (v := undef) (a' := ?_) #[true, true, true, true, true, true, true, true, true, true, true, false, false, false, false, false] rfl rfl (any_of HT_.out (by kernel_rfl)) (fun _ _ _ h => h) (Or.inr ⟨by rfl, rfl⟩) ?_ ?_
              rotate_left
              · simp only [Act.put, List.setIfInBounds_toArray, List.set_cons_zero, List.set_cons_succ, i64_w, i32_w]
                rfl
              refine pure_ (i := 11) (N := some 53) (v := undef) (a' := ?_) #[true, true, true, true, true, true, true, true, true, true, true, true, false, false, false, false] rfl rfl (any_of HT_.out (by kernel_rfl)) (fun _ _ _ h => h) (Or.inr ⟨by rfl, rfl⟩) ?_ ?_
              rotate_left
              · simp only [Act.put, List.setIfInBounds_toArray, List.set_cons_zero, List.set_cons_succ, i64_w, i32_w]
                rfl
              refine pure_ (i := 12) (N := some 54) (v := undef) (a' := ?_) #[true, true, true, true, true, true, true, true, true, true, true, true, true, false, false, false] rfl rfl (any_of HT_.out (by kernel_rfl)) (fun _ _ _ h => h) (Or.inr ⟨by rfl, rfl⟩) ?_ ?_
              rotate_left
              · simp only [Act.put, List.setIfInBounds_toArray, List.set_cons_zero, List.set_cons_succ, i64_w, i32_w]
                rfl
              refine pure_ (i := 13) (N := some 55) (v := undef) (a' := ?_) #[true, true, true, true, true, true, true, true, true, true, true, true, true, true, false, false] rfl rfl (any_of HT_.out (by kernel_rfl)) (fun _ _ _ h => h) (Or.inr ⟨by rfl, rfl⟩) ?_ ?_
              rotate_left
              · simp only [Act.put, List.setIfInBounds_toArray, List.set_cons_zero, List.set_cons_succ, i64_w, i32_w]
                rfl
              refine pure_ (i := 14) (N := some 56) (v := ?_) (a' := ?_) #[true, true, true, true, true, true, true, true, true, true, true, true, true, true, true, false] rfl rfl (any_of HT_.out (by kernel_rfl)) (fun _ _ _ h => h) (Or.inl ⟨by rfl, ?_⟩) ?_ ?_
              rotate_left
              · intro w'
                go_simp
                with_reducible rfl
              rotate_left
              · simp only [Act.put, List.setIfInBounds_toArray, List.set_cons_zero, List.set_cons_succ, i64_w, i32_w]
                rfl
              refine pure_ (i := 15) (N := some 6) (v := ?_) (a' := ?_) #[true, true, true, true, true, true, true, true, true, true, true, true, true, true, true, true] rfl rfl (any_of HT_.out (by kernel_rfl)) (fun _ _ _ h => h) (Or.inl ⟨by rfl, ?_⟩) ?_ ?_
              rotate_left
              · intro w'
                go_simp
                with_reducible rfl
              rotate_left
              · simp only [Act.put, List.setIfInBounds_toArray, List.set_cons_zero, List.set_cons_succ, i64_w, i32_w]
                rfl
              refine done_ (done_of HT_.out (by kernel_rfl)) ?_
              try go_wp2
              go_ret
              exact ⟨by first | rfl | (simp [errW_none, errW_some] <;> rfl) | (simp [*, errW_none, errW_some] <;> rfl), by repeat (first | (with_reducible first | exact HB.out | apply below_alloc | apply pw_below_drewN | apply below_drew1 | refine below_set ?_ GE191.out | refine below_set ?_ GE202.out) | exact HB.out)⟩
          · replace c15 := Bool.eq_false_iff.mpr c15
            subst c15
            have H1 : (some false) = some r := by rw [if_neg (show ¬ (false = true) by decide)] at H; exact H
            clear H
            have H := H1
            clear H1
            obtain rfl := Option.some.inj H
            try go_wp2_with (first | ((with_reducible refine gate_dst (N := 28) rfl ?_); (try (refine gate_guard (by rfl) ?_; dsimp only)); refine Kd.R_lit k30 _ 30 ?hg (N := 28) ?hd (xs := ([(⟨5, a1, 0⟩ : S30)] : List (S30))) (inner := [.int .i64 5, .string a1, .int .i64 0]) (ok := fun _ => True) (okp := fun _ => True) ?hr ?hp (fun _ hk => hk) trivial (Below.refl _ _) (Nat.le_refl _) (by simp) ?_; (case hd => rfl); (case hg => rfl); (case hr => first | (go_simp; done) | (go_simp; rfl)); (case hp => exact (Reps.c3 (show Kd.M k30 _ _ _ (⟨5, a1, 0⟩ : S30) [.int .i64 5, .string a1, .int .i64 0] from (k30_mkM _ _ _ (⟨5, a1, 0⟩ : S30) )) (Reps.none _ _))); intro v182 w56 ho57 hb hg_ hnew_; clear hg_ hnew_; (first | rw [← Ny181.out] at ho57 | (simp only [Int.reduceToNat] at ho57; rw [← Ny181.out] at ho57)); have n0_ := Aside0.mk (Kd.R_lower ho57 (below_size (by repeat (first | (with_reducible first | exact HB.out | apply below_alloc | apply pw_below_drewN | apply below_drew1) | exact HB.out)))); have n1_ := Aside0.mk (below_step (by repeat (first | (with_reducible first | exact HB.out | apply below_alloc | apply pw_below_drewN | apply below_drew1) | exact HB.out)) hb); clear HB; have HO183 := n0_; have HB := n1_; clear n0_ n1_; clear hb ho57; obtain ⟨Ao58, co58, eo58⟩ := Kd.R_slice HO183.out; subst eo58) | ((with_reducible refine gate_callee (f := 10) rfl ?_); refine goesL_ (some 29) rfl rfl Try.func10 (by kernel_rfl) rfl #[.slice A0 l0.length c0, .slice Ao58 y181.length co58] rfl (by (try simp only [List.map_toArray, List.map_cons, List.map_nil]); first | done | rfl | (simp only [List.length_drop, List.length_take]; rfl)) ?_; (with_reducible refine (laws_wordLast.calls _ _ l0 _ _ y181 t184 t185 t186 t187 false _ ?side1 ?side2 ?side3 ?side4 A12.out).mono ?_); (case side1 => repeat (first | exact (Kd.C_below HR0.out HB.out) | (with_reducible refine Kd.C_alloc ?_ _) | (with_reducible refine Kd.C_drewN ?_ _) | (with_reducible refine Kd.C_drew ?_))); (case side2 => exact HC0.out); (case side3 => repeat (first | exact (Kd.R_reads' HO183.out).2.2 | (with_reducible refine Kd.C_alloc ?_ _) | (with_reducible refine Kd.C_drewN ?_ _) | (with_reducible refine Kd.C_drew ?_))); (case side4 => exact (Kd.R_reads' HO183.out).2.1); rintro e w59 ⟨v188, rfl, ho0, hb⟩; refine ⟨_, rfl, ?_⟩; have n0_ := Aside0.mk (Kd.R_below (by (with_reducible repeat (first | apply Kd.R_alloc | apply Kd.R_drewN | apply Kd.R_drew)); exact HO183.out) hb); have n1_ := Aside0.mk (Kd.R_lower ho0 (below_size (by repeat (first | (with_reducible first | exact HB.out | apply below_alloc | apply pw_below_drewN | apply below_drew1) | exact HB.out)))); have n2_ := Aside0.mk (below_step (by repeat (first | (with_reducible first | exact HB.out | apply below_alloc | apply pw_below_drewN | apply below_drew1) | exact HB.out)) hb); clear HO183; clear HB; have HO183 := n0_; have HO189 := n1_; have HB := n2_; clear n0_ n1_ n2_; (try clear hb); (try clear hb2); (try clear hk); (try clear hi); (try clear ho0)) | ((with_reducible refine gate_dst (N := 7) rfl ?_); (try (refine gate_guard (by rfl) ?_; dsimp only)); refine box_event ?hg (N := 7) ?hd (cs := #[.int .i64 0, .bool false, .string (⟨#[]⟩ : ByteArray), .slice none 0 0]) (t := 26) ?hr ?_; (case hd => rfl); (case hg => rfl); (case hr => first | (go_simp; done) | (go_simp; rfl)); intro gb191 hg w60 hbox hb; have n0_ := Aside0.mk (Kd.R_below (by (with_reducible repeat (first | apply Kd.R_alloc | apply Kd.R_drewN | apply Kd.R_drew)); exact HO183.out) hb); have n1_ := Aside0.mk (Kd.R_below (by (with_reducible repeat (first | apply Kd.R_alloc | apply Kd.R_drewN | apply Kd.R_drew)); exact HO189.out) hb); have n2_ := Aside0.mk (below_step (by repeat (first | (with_reducible first | exact HB.out | apply below_alloc | apply pw_below_drewN | apply below_drew1) | exact HB.out)) hb); have n3_ := Aside0.mk (hbox); have n4_ := Aside0.mk ((by rw [hg]; exact (below_size (by repeat (first | (with_reducible first | exact HB.out | apply below_alloc | apply pw_below_drewN | apply below_drew1) | exact HB.out))) : w.heap.size ≤ gb191)); have n5_ := Aside0.mk ((by rw [hg]; exact (below_size (by repeat (first | (with_reducible first | exact HB.out | apply below_alloc | apply pw_below_drewN | apply below_drew1) | exact HB.out))) : w.heap.size ≤ gb191)); clear HO183; clear HO189; clear HB; have HO183 := n0_; have HO189 := n1_; have HB := n2_; have BK191 := n3_; have GW191 := n4_; have GE191 := n5_; clear n0_ n1_ n2_ n3_ n4_ n5_; clear hb hbox hg; have hcz61_0 : w60.cell? ⟨gb191, 0, none⟩ = some (.int .i64 0) := (blk_cell BK191.out 0).trans rfl; have hcz61_1 : w60.cell? ⟨gb191, 1, none⟩ = some (.bool false) := (blk_cell BK191.out 1).trans rfl; have hcz61_2 : w60.cell? ⟨gb191, 2, none⟩ = some (.string (⟨#[]⟩ : ByteArray)) := (blk_cell BK191.out 2).trans rfl; have hcz61_3 : w60.cell? ⟨gb191, 3, none⟩ = some (.slice none 0 0) := (blk_cell BK191.out 3).trans rfl; have hfz61_0 := blk_frozen BK191.out 0; have hfz61_1 := blk_frozen BK191.out 1; have hfz61_2 := blk_frozen BK191.out 2; have hfz61_3 := blk_frozen BK191.out 3; obtain ⟨Ao62, co62, eo62⟩ := Kd.R_slice HO189.out; subst eo62) | ((with_reducible refine gate_dst (N := 38) rfl ?_); (try (refine gate_guard (by rfl) ?_; dsimp only)); refine Kd.R_lit k30 _ 30 ?hg (N := 38) ?hd (xs := ([(⟨5, a1 ++ a2, 0⟩ : S30)] : List (S30))) (inner := [.int .i64 5, .string (a1 ++ a2), .int .i64 0]) (ok := fun _ => True) (okp := fun _ => True) ?hr ?hp (fun _ hk => hk) trivial (Below.refl _ _) (Nat.le_refl _) (by simp) ?_; (case hd => rfl); (case hg => rfl); (case hr => first | (go_simp; done) | (go_simp; rfl)); (case hp => exact (Reps.c3 (show Kd.M k30 _ _ _ (⟨5, a1 ++ a2, 0⟩ : S30) [.int .i64 5, .string (a1 ++ a2), .int .i64 0] from (k30_mkM _ _ _ (⟨5, a1 ++ a2, 0⟩ : S30) )) (Reps.none _ _))); intro v193 w63 ho64 hb hg_ hnew_; clear hg_ hnew_; (first | rw [← Ny192.out] at ho64 | (simp only [Int.reduceToNat] at ho64; rw [← Ny192.out] at ho64)); have n0_ := Aside0.mk (Kd.R_elder' (by (with_reducible repeat (first | apply Kd.R_alloc | apply Kd.R_drewN | apply Kd.R_drew)); exact (Kd.R_mono (Kd.R_far (p := ⟨gb191, 3, none⟩) (Kd.R_far (p := ⟨gb191, 2, none⟩) (Kd.R_far (p := ⟨gb191, 1, none⟩) (Kd.R_far (p := ⟨gb191, 0, none⟩) (Kd.R_types HO183.out BK191.out (by decide)) (fun _ hk => hk.2) (.int .i64 t184)) (fun _ hk => hk.2) (.bool t185)) (fun _ hk => hk.2) (.string t186)) (fun _ hk => hk.2) (.slice Ao62 t187.length co62)) (fun _ h_ => h_.1))) (Kd.R_base ho64) hb); have n1_ := Aside0.mk (Kd.R_below (by (with_reducible repeat (first | apply Kd.R_alloc | apply Kd.R_drewN | apply Kd.R_drew)); exact (Kd.R_mono (Kd.R_far (p := ⟨gb191, 3, none⟩) (Kd.R_far (p := ⟨gb191, 2, none⟩) (Kd.R_far (p := ⟨gb191, 1, none⟩) (Kd.R_far (p := ⟨gb191, 0, none⟩) (Kd.R_types HO189.out BK191.out (by decide)) (fun _ hk => hk.2) (.int .i64 t184)) (fun _ hk => hk.2) (.bool t185)) (fun _ hk => hk.2) (.string t186)) (fun _ hk => hk.2) (.slice Ao62 t187.length co62)) (fun _ h_ => h_.1))) hb); have n2_ := Aside0.mk (Kd.R_lower (Kd.R_new' ho64 (Kd.R_lt (by (with_reducible repeat (first | apply Kd.R_alloc | apply Kd.R_drewN | apply Kd.R_drew)); exact (Kd.R_mono (Kd.R_far (p := ⟨gb191, 3, none⟩) (Kd.R_far (p := ⟨gb191, 2, none⟩) (Kd.R_far (p := ⟨gb191, 1, none⟩) (Kd.R_far (p := ⟨gb191, 0, none⟩) (Kd.R_types HO183.out BK191.out (by decide)) (fun _ hk => hk.2) (.int .i64 t184)) (fun _ hk => hk.2) (.bool t185)) (fun _ hk => hk.2) (.string t186)) (fun _ hk => hk.2) (.slice Ao62 t187.length co62)) (fun _ h_ => h_.1))))) (below_size (by repeat (first | (with_reducible first | exact HB.out | apply below_alloc | apply pw_below_drewN | apply below_drew1 | refine below_set ?_ GE191.out) | exact HB.out)))); have n3_ := Aside0.mk (blk_below (g := gb191) (o := .cells #[.int .i64 t184, .bool t185, .string t186, .slice Ao62 t187.length co62] 26 (0, 0)) (by (with_reducible repeat (first | refine blk_drewN ?_ _ | refine blk_drew ?_ | refine blk_alloc ?_ _)); refine blk_put (cs := #[.int .i64 t184, .bool t185, .string t186, .slice none 0 0]) ?_ 3 _ rfl; (with_reducible repeat (first | refine blk_drewN ?_ _ | refine blk_drew ?_ | refine blk_alloc ?_ _)); refine blk_put (cs := #[.int .i64 t184, .bool t185, .string (⟨#[]⟩ : ByteArray), .slice none 0 0]) ?_ 2 _ rfl; (with_reducible repeat (first | refine blk_drewN ?_ _ | refine blk_drew ?_ | refine blk_alloc ?_ _)); refine blk_put (cs := #[.int .i64 t184, .bool false, .string (⟨#[]⟩ : ByteArray), .slice none 0 0]) ?_ 1 _ rfl; (with_reducible repeat (first | refine blk_drewN ?_ _ | refine blk_drew ?_ | refine blk_alloc ?_ _)); refine blk_put (cs := #[.int .i64 0, .bool false, .string (⟨#[]⟩ : ByteArray), .slice none 0 0]) ?_ 0 _ rfl; (with_reducible repeat (first | refine blk_drewN ?_ _ | refine blk_drew ?_ | refine blk_alloc ?_ _)); exact BK191.out) hb); have n4_ := Aside0.mk (below_step (by repeat (first | (with_reducible first | exact HB.out | apply below_alloc | apply pw_below_drewN | apply below_drew1 | refine below_set ?_ GE191.out) | exact HB.out)) hb); clear HO183; clear HO189; clear BK191; clear HB; have HO183 := n0_; have HO189 := n1_; have HO194 := n2_; have BK191 := n3_; have HB := n4_; clear n0_ n1_ n2_ n3_ n4_; clear hb ho64; obtain ⟨Ao65, co65, eo65⟩ := Kd.R_slice HO194.out; subst eo65) | ((with_reducible refine gate_callee (f := 10) rfl ?_); refine goesL_ (some 39) rfl rfl Try.func10 (by kernel_rfl) rfl #[.slice A0 l0.length c0, .slice Ao65 y192.length co65] rfl (by (try simp only [List.map_toArray, List.map_cons, List.map_nil]); first | done | rfl | (simp only [List.length_drop, List.length_take]; rfl)) ?_; (with_reducible refine (laws_wordLast.calls _ _ l0 _ _ y192 t195 t196 t197 t198 t201 _ ?side1 ?side2 ?side3 ?side4 A14.out).mono ?_); (case side1 => repeat (first | exact (Kd.C_below HR0.out HB.out) | (with_reducible refine Kd.C_alloc ?_ _) | (with_reducible refine Kd.C_drewN ?_ _) | (with_reducible refine Kd.C_drew ?_))); (case side2 => exact HC0.out); (case side3 => repeat (first | exact (Kd.R_reads' HO194.out).2.2 | (with_reducible refine Kd.C_alloc ?_ _) | (with_reducible refine Kd.C_drewN ?_ _) | (with_reducible refine Kd.C_drew ?_))); (case side4 => exact (Kd.R_reads' HO194.out).2.1); rintro e w66 ⟨v199, rfl, ho0, hb⟩; refine ⟨_, rfl, ?_⟩; have n0_ := Aside0.mk (Kd.R_below (by (with_reducible repeat (first | apply Kd.R_alloc | apply Kd.R_drewN | apply Kd.R_drew)); exact HO183.out) hb); have n1_ := Aside0.mk (Kd.R_elder' (by (with_reducible repeat (first | apply Kd.R_alloc | apply Kd.R_drewN | apply Kd.R_drew)); exact HO189.out) (Kd.R_base ho0) hb); have n2_ := Aside0.mk (Kd.R_below (by (with_reducible repeat (first | apply Kd.R_alloc | apply Kd.R_drewN | apply Kd.R_drew)); exact HO194.out) hb); have n3_ := Aside0.mk (Kd.R_lower (Kd.R_new' ho0 (Kd.R_lt (by (with_reducible repeat (first | apply Kd.R_alloc | apply Kd.R_drewN | apply Kd.R_drew)); exact HO189.out))) (below_size (by repeat (first | (with_reducible first | exact HB.out | apply below_alloc | apply pw_below_drewN | apply below_drew1 | refine below_set ?_ GE191.out) | exact HB.out)))); have n4_ := Aside0.mk (blk_below (g := gb191) (o := .cells #[.int .i64 t184, .bool t185, .string t186, .slice Ao62 t187.length co62] 26 (0, 0)) (by (with_reducible repeat (first | refine blk_drewN ?_ _ | refine blk_drew ?_ | refine blk_alloc ?_ _)); exact BK191.out) hb); have n5_ := Aside0.mk (below_step (by repeat (first | (with_reducible first | exact HB.out | apply below_alloc | apply pw_below_drewN | apply below_drew1 | refine below_set ?_ GE191.out) | exact HB.out)) hb); clear HO183; clear HO189; clear HO194; clear BK191; clear HB; have HO183 := n0_; have HO189 := n1_; have HO194 := n2_; have HO200 := n3_; have BK191 := n4_; have HB := n5_; clear n0_ n1_ n2_ n3_ n4_ n5_; (try clear hb); (try clear hb2); (try clear hk); (try clear hi); (try clear ho0)) | ((with_reducible refine gate_dst (N := 9) rfl ?_); (try (refine gate_guard (by rfl) ?_; dsimp only)); refine box_event ?hg (N := 9) ?hd (cs := #[.int .i64 0, .bool false, .string (⟨#[]⟩ : ByteArray), .slice none 0 0]) (t := 26) ?hr ?_; (case hd => rfl); (case hg => rfl); (case hr => first | (go_simp; done) | (go_simp; rfl)); intro gb202 hg w67 hbox hb; have n0_ := Aside0.mk (Kd.R_below (by (with_reducible repeat (first | apply Kd.R_alloc | apply Kd.R_drewN | apply Kd.R_drew)); exact HO183.out) hb); have n1_ := Aside0.mk (Kd.R_below (by (with_reducible repeat (first | apply Kd.R_alloc | apply Kd.R_drewN | apply Kd.R_drew)); exact HO189.out) hb); have n2_ := Aside0.mk (Kd.R_below (by (with_reducible repeat (first | apply Kd.R_alloc | apply Kd.R_drewN | apply Kd.R_drew)); exact HO194.out) hb); have n3_ := Aside0.mk (Kd.R_below (by (with_reducible repeat (first | apply Kd.R_alloc | apply Kd.R_drewN | apply Kd.R_drew)); exact HO200.out) hb); have n4_ := Aside0.mk (blk_below (g := gb191) (o := .cells #[.int .i64 t184, .bool t185, .string t186, .slice Ao62 t187.length co62] 26 (0, 0)) (by (with_reducible repeat (first | refine blk_drewN ?_ _ | refine blk_drew ?_ | refine blk_alloc ?_ _)); exact BK191.out) hb); have n5_ := Aside0.mk (below_step (by repeat (first | (with_reducible first | exact HB.out | apply below_alloc | apply pw_below_drewN | apply below_drew1 | refine below_set ?_ GE191.out) | exact HB.out)) hb); have n6_ := Aside0.mk (hbox); have n7_ := Aside0.mk ((by rw [hg]; exact (below_size (by repeat (first | (with_reducible first | exact HB.out | apply below_alloc | apply pw_below_drewN | apply below_drew1 | refine below_set ?_ GE191.out) | exact HB.out))) : w.heap.size ≤ gb202)); have n8_ := Aside0.mk ((by rw [hg]; exact (below_size (by repeat (first | (with_reducible first | exact HB.out | apply below_alloc | apply pw_below_drewN | apply below_drew1 | refine below_set ?_ GE191.out) | exact HB.out))) : w.heap.size ≤ gb202)); have n9_ := Aside0.mk ((by rw [hg]; exact Nat.ne_of_lt (blk_lt (g := gb191) (o := .cells #[.int .i64 t184, .bool t185, .string t186, .slice Ao62 t187.length co62] 26 (0, 0)) (by (with_reducible repeat (first | refine blk_drewN ?_ _ | refine blk_drew ?_ | refine blk_alloc ?_ _)); exact BK191.out)) : gb191 ≠ gb202)); have n10_ := Aside0.mk ((by rw [hg]; exact Nat.ne_of_gt (blk_lt (g := gb191) (o := .cells #[.int .i64 t184, .bool t185, .string t186, .slice Ao62 t187.length co62] 26 (0, 0)) (by (with_reducible repeat (first | refine blk_drewN ?_ _ | refine blk_drew ?_ | refine blk_alloc ?_ _)); exact BK191.out)) : gb202 ≠ gb191)); clear HO183; clear HO189; clear HO194; clear HO200; clear BK191; clear HB; have HO183 := n0_; have HO189 := n1_; have HO194 := n2_; have HO200 := n3_; have BK191 := n4_; have HB := n5_; have BK202 := n6_; have GW202 := n7_; have GE202 := n8_; have NB191_202 := n9_; have NB202_191 := n10_; clear n0_ n1_ n2_ n3_ n4_ n5_ n6_ n7_ n8_ n9_ n10_; clear hb hbox hg; have hnb68 := NB202_191.out; have hnc68 := NB191_202.out; have hcz69_0 : w67.cell? ⟨gb202, 0, none⟩ = some (.int .i64 0) := (blk_cell BK202.out 0).trans rfl; have hcz69_1 : w67.cell? ⟨gb202, 1, none⟩ = some (.bool false) := (blk_cell BK202.out 1).trans rfl; have hcz69_2 : w67.cell? ⟨gb202, 2, none⟩ = some (.string (⟨#[]⟩ : ByteArray)) := (blk_cell BK202.out 2).trans rfl; have hcz69_3 : w67.cell? ⟨gb202, 3, none⟩ = some (.slice none 0 0) := (blk_cell BK202.out 3).trans rfl; have hfz69_0 := blk_frozen BK202.out 0; have hfz69_1 := blk_frozen BK202.out 1; have hfz69_2 := blk_frozen BK202.out 2; have hfz69_3 := blk_frozen BK202.out 3; obtain ⟨Ao70, co70, eo70⟩ := Kd.R_slice HO200.out; subst eo70))
            have n0_ : Aside0 (Kd.R k30 30 ((((w67.setCell ⟨gb202, 0, none⟩ (.int .i64 t195)).setCell ⟨gb202, 1, none⟩ (.bool t196)).setCell ⟨gb202, 2, none⟩ (.string t197)).setCell ⟨gb202, 3, none⟩ (.slice Ao70 t198.length co70)) w.heap.size (fun k_ => some k_ ≠ (.slice Ao65 y192.length co65 : Value).ownBlock) (.slice Ao58 y181.length co58) y181) := ⟨by (with_reducible repeat (first | apply Kd.R_alloc | apply Kd.R_drewN | apply Kd.R_drew)); exact Kd.R_mono (Kd.R_far (p := ⟨gb202, 3, none⟩) (Kd.R_far (p := ⟨gb202, 2, none⟩) (Kd.R_far (p := ⟨gb202, 1, none⟩) (Kd.R_far (p := ⟨gb202, 0, none⟩) (Kd.R_types HO183.out BK202.out (by decide)) (fun _ hk => hk.2) (.int .i64 t195)) (fun _ hk => hk.2) (.bool t196)) (fun _ hk => hk.2) (.string t197)) (fun _ hk => hk.2) (.slice Ao70 t198.length co70)) (fun _ hk => hk.1.2)⟩
            have n1_ : Aside0 (Kd.R Kd.string 9 ((((w67.setCell ⟨gb202, 0, none⟩ (.int .i64 t195)).setCell ⟨gb202, 1, none⟩ (.bool t196)).setCell ⟨gb202, 2, none⟩ (.string t197)).setCell ⟨gb202, 3, none⟩ (.slice Ao70 t198.length co70)) w.heap.size (fun k_ => some k_ ≠ (.slice Ao70 t198.length co70 : Value).ownBlock) (.slice Ao62 t187.length co62) t187) := ⟨by (with_reducible repeat (first | apply Kd.R_alloc | apply Kd.R_drewN | apply Kd.R_drew)); exact Kd.R_mono (Kd.R_far (p := ⟨gb202, 3, none⟩) (Kd.R_far (p := ⟨gb202, 2, none⟩) (Kd.R_far (p := ⟨gb202, 1, none⟩) (Kd.R_far (p := ⟨gb202, 0, none⟩) (Kd.R_types HO189.out BK202.out (by decide)) (fun _ hk => hk.2) (.int .i64 t195)) (fun _ hk => hk.2) (.bool t196)) (fun _ hk => hk.2) (.string t197)) (fun _ hk => hk.2) (.slice Ao70 t198.length co70)) (fun _ hk => hk.1.2)⟩
            have n2_ : Aside0 (Kd.R k30 30 ((((w67.setCell ⟨gb202, 0, none⟩ (.int .i64 t195)).setCell ⟨gb202, 1, none⟩ (.bool t196)).setCell ⟨gb202, 2, none⟩ (.string t197)).setCell ⟨gb202, 3, none⟩ (.slice Ao70 t198.length co70)) w.heap.size (fun k_ => some k_ ≠ (.slice Ao58 y181.length co58 : Value).ownBlock) (.slice Ao65 y192.length co65) y192) := ⟨by (with_reducible repeat (first | apply Kd.R_alloc | apply Kd.R_drewN | apply Kd.R_drew)); exact Kd.R_mono (Kd.R_far (p := ⟨gb202, 3, none⟩) (Kd.R_far (p := ⟨gb202, 2, none⟩) (Kd.R_far (p := ⟨gb202, 1, none⟩) (Kd.R_far (p := ⟨gb202, 0, none⟩) (Kd.R_types HO194.out BK202.out (by decide)) (fun _ hk => hk.2) (.int .i64 t195)) (fun _ hk => hk.2) (.bool t196)) (fun _ hk => hk.2) (.string t197)) (fun _ hk => hk.2) (.slice Ao70 t198.length co70)) (fun _ hk => hk.1.2)⟩
            have n3_ : Aside0 (Kd.R Kd.string 9 ((((w67.setCell ⟨gb202, 0, none⟩ (.int .i64 t195)).setCell ⟨gb202, 1, none⟩ (.bool t196)).setCell ⟨gb202, 2, none⟩ (.string t197)).setCell ⟨gb202, 3, none⟩ (.slice Ao70 t198.length co70)) w.heap.size (fun k_ => some k_ ≠ (.slice Ao62 t187.length co62 : Value).ownBlock) (.slice Ao70 t198.length co70) t198) := ⟨by (with_reducible repeat (first | apply Kd.R_alloc | apply Kd.R_drewN | apply Kd.R_drew)); exact Kd.R_mono (Kd.R_far (p := ⟨gb202, 3, none⟩) (Kd.R_far (p := ⟨gb202, 2, none⟩) (Kd.R_far (p := ⟨gb202, 1, none⟩) (Kd.R_far (p := ⟨gb202, 0, none⟩) (Kd.R_types HO200.out BK202.out (by decide)) (fun _ hk => hk.2) (.int .i64 t195)) (fun _ hk => hk.2) (.bool t196)) (fun _ hk => hk.2) (.string t197)) (fun _ hk => hk.2) (.slice Ao70 t198.length co70)) (fun _ hk => hk.1.2)⟩
            have n4_ : Aside0 (((((w67.setCell ⟨gb202, 0, none⟩ (.int .i64 t195)).setCell ⟨gb202, 1, none⟩ (.bool t196)).setCell ⟨gb202, 2, none⟩ (.string t197)).setCell ⟨gb202, 3, none⟩ (.slice Ao70 t198.length co70)).heap[gb191]? = some (.cells #[.int .i64 t184, .bool t185, .string t186, .slice Ao62 t187.length co62] 26 (0, 0))) := ⟨by (with_reducible repeat (first | refine blk_drewN ?_ _ | refine blk_drew ?_ | refine blk_alloc ?_ _)); refine blk_far ?_ NB191_202.out _; (with_reducible repeat (first | refine blk_drewN ?_ _ | refine blk_drew ?_ | refine blk_alloc ?_ _)); refine blk_far ?_ NB191_202.out _; (with_reducible repeat (first | refine blk_drewN ?_ _ | refine blk_drew ?_ | refine blk_alloc ?_ _)); refine blk_far ?_ NB191_202.out _; (with_reducible repeat (first | refine blk_drewN ?_ _ | refine blk_drew ?_ | refine blk_alloc ?_ _)); refine blk_far ?_ NB191_202.out _; (with_reducible repeat (first | refine blk_drewN ?_ _ | refine blk_drew ?_ | refine blk_alloc ?_ _)); exact BK191.out⟩
            have n5_ : Aside0 (((((w67.setCell ⟨gb202, 0, none⟩ (.int .i64 t195)).setCell ⟨gb202, 1, none⟩ (.bool t196)).setCell ⟨gb202, 2, none⟩ (.string t197)).setCell ⟨gb202, 3, none⟩ (.slice Ao70 t198.length co70)).heap[gb202]? = some (.cells #[.int .i64 t195, .bool t196, .string t197, .slice Ao70 t198.length co70] 26 (0, 0))) := ⟨by (with_reducible repeat (first | refine blk_drewN ?_ _ | refine blk_drew ?_ | refine blk_alloc ?_ _)); refine blk_put (cs := #[.int .i64 t195, .bool t196, .string t197, .slice none 0 0]) ?_ 3 _ rfl; (with_reducible repeat (first | refine blk_drewN ?_ _ | refine blk_drew ?_ | refine blk_alloc ?_ _)); refine blk_put (cs := #[.int .i64 t195, .bool t196, .string (⟨#[]⟩ : ByteArray), .slice none 0 0]) ?_ 2 _ rfl; (with_reducible repeat (first | refine blk_drewN ?_ _ | refine blk_drew ?_ | refine blk_alloc ?_ _)); refine blk_put (cs := #[.int .i64 t195, .bool false, .string (⟨#[]⟩ : ByteArray), .slice none 0 0]) ?_ 1 _ rfl; (with_reducible repeat (first | refine blk_drewN ?_ _ | refine blk_drew ?_ | refine blk_alloc ?_ _)); refine blk_put (cs := #[.int .i64 0, .bool false, .string (⟨#[]⟩ : ByteArray), .slice none 0 0]) ?_ 0 _ rfl; (with_reducible repeat (first | refine blk_drewN ?_ _ | refine blk_drew ?_ | refine blk_alloc ?_ _)); exact BK202.out⟩
            have n6_ : Aside0 (Below w.heap.size w ((((w67.setCell ⟨gb202, 0, none⟩ (.int .i64 t195)).setCell ⟨gb202, 1, none⟩ (.bool t196)).setCell ⟨gb202, 2, none⟩ (.string t197)).setCell ⟨gb202, 3, none⟩ (.slice Ao70 t198.length co70))) := ⟨by repeat (first | (with_reducible first | exact HB.out | apply below_alloc | apply pw_below_drewN | apply below_drew1 | refine below_set ?_ GE191.out | refine below_set ?_ GE202.out) | exact HB.out)⟩
            (try clear HO183)
            (try clear HO189)
            (try clear HO194)
            (try clear HO200)
            (try clear BK191)
            (try clear BK202)
            (try clear HB)
            generalize ((((w67.setCell ⟨gb202, 0, none⟩ (.int .i64 t195)).setCell ⟨gb202, 1, none⟩ (.bool t196)).setCell ⟨gb202, 2, none⟩ (.string t197)).setCell ⟨gb202, 3, none⟩ (.slice Ao70 t198.length co70)) = w71 at n0_ n1_ n2_ n3_ n4_ n5_ n6_ ⊢
            have HO183 := n0_
            have HO189 := n1_
            have HO194 := n2_
            have HO200 := n3_
            have BK191 := n4_
            have BK202 := n5_
            have HB := n6_
            clear n0_ n1_ n2_ n3_ n4_ n5_ n6_
            have n0_ := Aside0.mk (Kd.R_drew HO183.out)
            have n1_ := Aside0.mk (Kd.R_drew HO189.out)
            have n2_ := Aside0.mk (Kd.R_drew HO194.out)
            have n3_ := Aside0.mk (Kd.R_drew HO200.out)
            have n4_ := Aside0.mk (blk_drew BK191.out)
            have n5_ := Aside0.mk (blk_drew BK202.out)
            have n6_ := Aside0.mk (below_drew1 HB.out)
            clear HO183
            clear HO189
            clear HO194
            clear HO200
            clear BK191
            clear BK202
            clear HB
            have HO183 := n0_
            have HO189 := n1_
            have HO194 := n2_
            have HO200 := n3_
            have BK191 := n4_
            have BK202 := n5_
            have HB := n6_
            clear n0_ n1_ n2_ n3_ n4_ n5_ n6_
            refine start_ (n := 16) (S := fun w' => True) (ds := []) #[false, false, false, false, false, false, false, false, false, false, false, false, false, false, false, false] (by kernel_rfl) rfl rfl trivial (fun hHeld => ?_); refine with_tabW laws_FnTrieNarrow.tab5 laws_FnTrieNarrow.bits5 (fun HT_ HW_ => ?_)
            generalize w71.drew = w72 at HO183 HO189 HO194 HO200 BK191 BK202 HB hHeld ⊢
            refine pure_ (i := 0) (N := some 42) (v := ?_) (a' := ?_) #[true, false, false, false, false, false, false, false, false, false, false, false, false, false, false, false] rfl rfl (any_of HT_.out (by kernel_rfl)) (fun _ _ _ h => h) (Or.inl ⟨by rfl, ?_⟩) ?_ ?_
            rotate_left
            · intro w'
              go_simp
              with_reducible rfl
            rotate_left
            · simp only [Act.put, List.setIfInBounds_toArray, List.set_cons_zero, List.set_cons_succ, i64_w, i32_w]
              rfl
            refine pure_ (i := 1) (N := some 43) (v := ?_) (a' := ?_) #[true, true, false, false, false, false, false, false, false, false, false, false, false, false, false, false] rfl rfl (any_of HT_.out (by kernel_rfl)) (fun _ _ _ h => h) (Or.inl ⟨by rfl, ?_⟩) ?_ ?_
            rotate_left
            · intro w'
              go_simp
              with_reducible rfl
            rotate_left
            · simp only [Act.put, List.setIfInBounds_toArray, List.set_cons_zero, List.set_cons_succ, i64_w, i32_w]
              rfl
            refine pure_ (i := 2) (N := some 44) (v := undef) (a' := ?_) #[true, true, true, false, false, false, false, false, false, false, false, false, false, false, false, false] rfl rfl (any_of HT_.out (by kernel_rfl)) (fun _ _ _ h => h) (Or.inr ⟨by rfl, rfl⟩) ?_ ?_
            rotate_left
            · simp only [Act.put, List.setIfInBounds_toArray, List.set_cons_zero, List.set_cons_succ, i64_w, i32_w]
              rfl
            refine pure_ (i := 3) (N := some 45) (v := ?_) (a' := ?_) #[true, true, true, true, false, false, false, false, false, false, false, false, false, false, false, false] rfl rfl (any_of HT_.out (by kernel_rfl)) (fun _ _ _ h => h) (Or.inl ⟨by rfl, ?_⟩) ?_ ?_
            rotate_left
            · intro w'
              go_simp
              with_reducible rfl
            rotate_left
            · simp only [Act.put, List.setIfInBounds_toArray, List.set_cons_zero, List.set_cons_succ, i64_w, i32_w]
              rfl
            refine pure_ (i := 4) (N := some 46) (v := ?_) (a' := ?_) #[true, true, true, true, true, false, false, false, false, false, false, false, false, false, false, false] rfl rfl (any_of HT_.out (by kernel_rfl)) (fun _ _ _ h => h) (Or.inl ⟨by rfl, ?_⟩) ?_ ?_
            rotate_left
            · intro w'
              go_simp
              with_reducible rfl
            rotate_left
            · simp only [Act.put, List.setIfInBounds_toArray, List.set_cons_zero, List.set_cons_succ, i64_w, i32_w]
              rfl
            refine pure_ (i := 5) (N := some 47) (v := undef) (a' := ?_) #[true, true, true, true, true, true, false, false, false, false, false, false, false, false, false, false] rfl rfl (any_of HT_.out (by kernel_rfl)) (fun _ _ _ h => h) (Or.inr ⟨by rfl, rfl⟩) ?_ ?_
            rotate_left
            · simp only [Act.put, List.setIfInBounds_toArray, List.set_cons_zero, List.set_cons_succ, i64_w, i32_w]
              rfl
            refine pure_ (i := 6) (N := some 48) (v := undef) (a' := ?_) #[true, true, true, true, true, true, true, false, false, false, false, false, false, false, false, false] rfl rfl (any_of HT_.out (by kernel_rfl)) (fun _ _ _ h => h) (Or.inr ⟨by rfl, rfl⟩) ?_ ?_
            rotate_left
            · simp only [Act.put, List.setIfInBounds_toArray, List.set_cons_zero, List.set_cons_succ, i64_w, i32_w]
              rfl
            refine pure_ (i := 7) (N := some 49) (v := undef) (a' := ?_) #[true, true, true, true, true, true, true, true, false, false, false, false, false, false, false, false] rfl rfl (any_of HT_.out (by kernel_rfl)) (fun _ _ _ h => h) (Or.inr ⟨by rfl, rfl⟩) ?_ ?_
            rotate_left
            · simp only [Act.put, List.setIfInBounds_toArray, List.set_cons_zero, List.set_cons_succ, i64_w, i32_w]
              rfl
            refine pure_ (i := 8) (N := some 50) (v := undef) (a' := ?_) #[true, true, true, true, true, true, true, true, true, false, false, false, false, false, false, false] rfl rfl (any_of HT_.out (by kernel_rfl)) (fun _ _ _ h => h) (Or.inr ⟨by rfl, rfl⟩) ?_ ?_
            rotate_left
            · simp only [Act.put, List.setIfInBounds_toArray, List.set_cons_zero, List.set_cons_succ, i64_w, i32_w]
              rfl
            refine pure_ (i := 9) (N := some 51) (v := undef) (a' := ?_) #[true, true, true, true, true, true, true, true, true, true, false, false, false, false, false, false] rfl rfl (any_of HT_.out (by kernel_rfl)) (fun _ _ _ h => h) (Or.inr ⟨by rfl, rfl⟩) ?_ ?_
            rotate_left
            · simp only [Act.put, List.setIfInBounds_toArray, List.set_cons_zero, List.set_cons_succ, i64_w, i32_w]
              rfl
            refine pure_ (i := 10) (N := some 52) (v := undef) (a' := ?_) #[true, true, true, true, true, true, true, true, true, true, true, false, false, false, false, false] rfl rfl (any_of HT_.out (by kernel_rfl)) (fun _ _ _ h => h) (Or.inr ⟨by rfl, rfl⟩) ?_ ?_
            rotate_left
            · simp only [Act.put, List.setIfInBounds_toArray, List.set_cons_zero, List.set_cons_succ, i64_w, i32_w]
              rfl
            refine pure_ (i := 11) (N := some 53) (v := undef) (a' := ?_) #[true, true, true, true, true, true, true, true, true, true, true, true, false, false, false, false] rfl rfl (any_of HT_.out (by kernel_rfl)) (fun _ _ _ h => h) (Or.inr ⟨by rfl, rfl⟩) ?_ ?_
            rotate_left
            · simp only [Act.put, List.setIfInBounds_toArray, List.set_cons_zero, List.set_cons_succ, i64_w, i32_w]
              rfl
            refine pure_ (i := 12) (N := some 54) (v := undef) (a' := ?_) #[true, true, true, true, true, true, true, true, true, true, true, true, true, false, false, false] rfl rfl (any_of HT_.out (by kernel_rfl)) (fun _ _ _ h => h) (Or.inr ⟨by rfl, rfl⟩) ?_ ?_
            rotate_left
            · simp only [Act.put, List.setIfInBounds_toArray, List.set_cons_zero, List.set_cons_succ, i64_w, i32_w]
              rfl
            refine pure_ (i := 13) (N := some 55) (v := undef) (a' := ?_) #[true, true, true, true, true, true, true, true, true, true, true, true, true, true, false, false] rfl rfl (any_of HT_.out (by kernel_rfl)) (fun _ _ _ h => h) (Or.inr ⟨by rfl, rfl⟩) ?_ ?_
            rotate_left
            · simp only [Act.put, List.setIfInBounds_toArray, List.set_cons_zero, List.set_cons_succ, i64_w, i32_w]
              rfl
            refine pure_ (i := 14) (N := some 56) (v := ?_) (a' := ?_) #[true, true, true, true, true, true, true, true, true, true, true, true, true, true, true, false] rfl rfl (any_of HT_.out (by kernel_rfl)) (fun _ _ _ h => h) (Or.inl ⟨by rfl, ?_⟩) ?_ ?_
            rotate_left
            · intro w'
              go_simp
              with_reducible rfl
            rotate_left
            · simp only [Act.put, List.setIfInBounds_toArray, List.set_cons_zero, List.set_cons_succ, i64_w, i32_w]
              rfl
            refine pure_ (i := 15) (N := some 6) (v := ?_) (a' := ?_) #[true, true, true, true, true, true, true, true, true, true, true, true, true, true, true, true] rfl rfl (any_of HT_.out (by kernel_rfl)) (fun _ _ _ h => h) (Or.inl ⟨by rfl, ?_⟩) ?_ ?_
            rotate_left
            · intro w'
              go_simp
              with_reducible rfl
            rotate_left
            · simp only [Act.put, List.setIfInBounds_toArray, List.set_cons_zero, List.set_cons_succ, i64_w, i32_w]
              rfl
            refine done_ (done_of HT_.out (by kernel_rfl)) ?_
            try go_wp2
            go_ret
            exact ⟨by first | rfl | (simp [errW_none, errW_some] <;> rfl) | (simp [*, errW_none, errW_some] <;> rfl), by repeat (first | (with_reducible first | exact HB.out | apply below_alloc | apply pw_below_drewN | apply below_drew1 | refine below_set ?_ GE191.out | refine below_set ?_ GE202.out) | exact HB.out)⟩
        · rw [if_neg c13] at H
          exact absurd H (by simp)

end Go.Proofs.Ytkgbflcbeeghoaa.QFnTrieNarrow
