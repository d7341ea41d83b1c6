/- The machine's side of a law, as the kit's print writes it; of the functions that the print doesn't cover this session's own contracts stand in it: no condition. -/
import Derived.Test.YtmhnhfmkcipcpaaStackE
import Derived.Test.YtmhnhfmkcipcpaaQFnStackRunsx0
import Derived.Test.YtmhnhfmkcipcpaaQFnStackRunsx2
namespace Go.Proofs.Ytmhnhfmkcipcpaa.QFnStackRuns
open Go.RowKit Go.Proofs.YtmhnhfmkcipcpaaW.PrintWords Go.Proofs.YtmhnhfmkcipcpaaW.PrintLast Go.Proofs.YtmhnhfmkcipcpaaW.PrintMore
attribute [local go_sem] max2_int min2_int max_two min_two max_three min_three max_four min_four   -- for this text's walks alone
set_option linter.unusedVariables false
set_option linter.unusedSimpArgs false

/-- A state of type 107 at block g of W; what its slices lead to came in by w0. -/
def IsS107 (w0 W : World) (g : Nat) (f0 : List Int) : Prop := ∃ A0 c0, W.heap[g]? = some (.cells #[.slice A0 f0.length c0] 107 (0, 0)) ∧ w0.heap.size ≤ g ∧ Kd.C (Kd.int .i64) w0 A0 f0.length f0
theorem IsS107.grown {w0 W : World} {g : Nat} {f0 : List Int} {W1 : World} {row : Option Nat} (h : IsS107 w0 W g f0) (hw : W.grownBy W1 row) (hne : some g ≠ row) : IsS107 w0 W1 g f0 := by
  obtain ⟨A0, c0, hb, hg, hr0⟩ := h
  exact ⟨A0, c0, blk_grown hb hw hne, hg, hr0⟩
theorem IsS107.own_neN {w0 W : World} {g : Nat} {f0 : List Int} {α : Type} {d : Kd α} {e : Nat} {base : Nat} {ok : Nat → Prop} {v : Value} {xs : List α} (h : IsS107 w0 W g f0) (ho : Kd.N d e W base ok v xs) (ht : e ≠ 107) : some g ≠ v.ownBlock := by
  obtain ⟨A0, c0, hb, hg, hr0⟩ := h
  exact Kd.N_ne ho hb ht
theorem IsS107.fresh {w0 W : World} {g : Nat} {f0 : List Int} (h : IsS107 w0 W g f0) : ∀ k, W.heap.size ≤ k → k ≠ g := by
  obtain ⟨A0, c0, hb, hg, hr0⟩ := h
  exact Kd.freshB hb
theorem IsS107.kept {w0 W : World} {g : Nat} {f0 : List Int} {W1 : World} {S : Nat → Prop} (h : IsS107 w0 W g f0) (hk : Kept W W1 S) (hne : ¬ S g) : IsS107 w0 W1 g f0 := by
  obtain ⟨A0, c0, hb, hg, hr0⟩ := h
  exact ⟨A0, c0, blk_kept hb hk hne, hg, hr0⟩
theorem IsS107.below {w0 W : World} {g : Nat} {f0 : List Int} {W1 : World} (h : IsS107 w0 W g f0) (hw : Below W.heap.size W W1) : IsS107 w0 W1 g f0 := h.grown (grown_of_below hw none) (by simp)
theorem IsS107.alloc {w0 W : World} {g : Nat} {f0 : List Int} (h : IsS107 w0 W g f0) (o : Obj) : IsS107 w0 (W.alloc o) g f0 := h.below (below_alloc (Below.refl _ _) o)
theorem IsS107.drewN {w0 W : World} {g : Nat} {f0 : List Int} (h : IsS107 w0 W g f0) (m : Nat) : IsS107 w0 (W.drewN m) g f0 := h
theorem IsS107.drew {w0 W : World} {g : Nat} {f0 : List Int} (h : IsS107 w0 W g f0) : IsS107 w0 W.drew g f0 := h
theorem IsS107.at_ {w0 W : World} {g : Nat} {f0 : List Int} {w' : World} {m : Nat} (hq : W.drewN m = w') (h : IsS107 w0 W g f0) : IsS107 w0 w' g f0 := by subst hq; exact IsS107.drewN h m
theorem IsS107.apart {w0 W : World} {g : Nat} {f0 : List Int} {α : Type} {d : Kd α} {e : Nat} {base : Nat} {ok : Nat → Prop} {v : Value} {xs : List α} (h : IsS107 w0 W g f0) (ho : d.R e W base ok v xs) (ht : ∀ q, q ∈ e :: d.E → q ≠ 107) : d.R e W base (fun k => ok k ∧ k ≠ g) v xs := by
  obtain ⟨A0, c0, hb, hg, hr0⟩ := h
  exact Kd.R_types ho hb ht
theorem IsS107.own_ne {w0 W : World} {g : Nat} {f0 : List Int} {α : Type} {d : Kd α} {e : Nat} {base : Nat} {ok : Nat → Prop} {v : Value} {xs : List α} (h : IsS107 w0 W g f0) (ho : d.R e W base ok v xs) (ht : e ≠ 107) : some g ≠ v.ownBlock := by
  obtain ⟨A0, c0, hb, hg, hr0⟩ := h
  exact Kd.R_ne ho hb ht
theorem IsS107.apartQ {w0 W : World} {g : Nat} {f0 : List Int} {α : Type} {d : Kd α} {e : Nat} {base : Nat} {ok : Nat → Prop} {v : Value} {xs : List α} (h : IsS107 w0 W g f0) (ho : d.Q e W base ok v xs) (ht : ∀ q, q ∈ e :: d.E → q ≠ 107) : d.Q e W base (fun k => ok k ∧ k ≠ g) v xs := by
  obtain ⟨A0, c0, hb, hg, hr0⟩ := h
  exact Kd.Q_types ho hb ht
theorem IsS107.own_neQ {w0 W : World} {g : Nat} {f0 : List Int} {α : Type} {d : Kd α} {e : Nat} {base : Nat} {ok : Nat → Prop} {v : Value} {xs : List α} (h : IsS107 w0 W g f0) (ho : d.Q e W base ok v xs) (ht : e ≠ 107) : some g ≠ v.ownBlock := by
  obtain ⟨A0, c0, hb, hg, hr0⟩ := h
  exact Kd.Q_ne ho hb ht
theorem IsS107.apartS {w0 W : World} {g : Nat} {f0 : List Int} {α : Type} {d : Kd α} {e : Nat} {base : Nat} {ok : Nat → Prop} {v : Value} {xs : List α} (h : IsS107 w0 W g f0) (ho : d.S e W base ok v xs) (ht : ∀ q, q ∈ e :: d.E → q ≠ 107) : d.S e W base (fun k => ok k ∧ k ≠ g) v xs := by
  obtain ⟨A0, c0, hb, hg, hr0⟩ := h
  exact Kd.S_types ho hb ht
theorem IsS107.own_neS {w0 W : World} {g : Nat} {f0 : List Int} {α : Type} {d : Kd α} {e : Nat} {base : Nat} {ok : Nat → Prop} {v : Value} {xs : List α} (h : IsS107 w0 W g f0) (ho : d.S e W base ok v xs) (ht : e ≠ 107) : some g ≠ v.ownBlock := by
  obtain ⟨A0, c0, hb, hg, hr0⟩ := h
  exact Kd.S_ne ho hb ht
theorem IsS107.lt {w0 W : World} {g : Nat} {f0 : List Int} (h : IsS107 w0 W g f0) : g < W.heap.size := by
  obtain ⟨A0, c0, hb, hg, hr0⟩ := h
  exact blk_lt hb
theorem IsS107.ge {w0 W : World} {g : Nat} {f0 : List Int} (h : IsS107 w0 W g f0) : w0.heap.size ≤ g := by
  obtain ⟨A0, c0, hb, hg, hr0⟩ := h
  exact hg
theorem IsS107.ne_blk {w0 W : World} {g : Nat} {f0 : List Int} {a : Nat} {cs : Array Value} {t : TypeId} {fr : Nat × Nat} (h : IsS107 w0 W g f0) (hb2 : W.heap[a]? = some (.cells cs t fr)) (ht : t ≠ 107) : g ≠ a := by
  obtain ⟨A0, c0, hb, hg, hr0⟩ := h
  rintro rfl
  rw [hb] at hb2
  injection hb2 with hb2
  injection hb2 with _ ht2
  exact ht ht2.symm
theorem IsS107.far {w0 W : World} {g : Nat} {f0 : List Int} {p : Addr} (h : IsS107 w0 W g f0) (hne : g ≠ p.block) (u : Value) : IsS107 w0 (W.setCell p u) g f0 := by
  obtain ⟨A0, c0, hb, hg, hr0⟩ := h
  exact ⟨A0, c0, blk_far hb hne u, hg, hr0⟩
theorem cellS107_0 {W : World} {g : Nat} {A0 : Option Addr} {c0 : Nat} {f0 : List Int} (h : W.heap[g]? = some (.cells #[.slice A0 f0.length c0] 107 (0, 0))) : W.cell? ⟨g, 0, none⟩ = some (.slice A0 f0.length c0) := (blk_cell h 0).trans rfl
theorem IsS107.new (w0 W : World) (A0 : Option Addr) (c0 : Nat) (f0 : List Int) (hB : Below w0.heap.size w0 W) (hr0 : Kd.C (Kd.int .i64) w0 A0 f0.length f0) : IsS107 w0 (W.alloc (.cells #[.slice A0 f0.length c0] 107)) W.heap.size f0 := ⟨A0, c0, by simpa using heap_alloc_new W _, hB.size, hr0⟩

/-! ### stack_New_int: function 30 -/
def stack_New_int.f  : Option (List Int) := some ([] : List Int)
set_option maxHeartbeats 8000000 in
set_option maxRecDepth 100000 in
theorem stack_New_int.calls  (r : List Int) (w0 w : World) (hB : Below w0.heap.size w0 w) (h : stack_New_int.f  = some r) :
    Calls Try.prog 30 #[] w fun e w' => ∃ g_ : Nat, e = .returned (.pointer (some ⟨g_, 0, none⟩)) ∧ IsS107 w0 w' g_ r ∧ Below w0.heap.size w0 w' ∧ Below w.heap.size w w' := by
  have hu107 := Try.underlying107
  have HBW := Aside0.mk (Below.refl w.heap.size w)
  have HW0 := Aside0.mk hB.size
  have HB := Aside0.mk hB
  clear hB
  have H : (some ([] : List Int)) = some r := h
  clear h
  obtain rfl := Option.some.inj H
  go_enter Try.func30, Try.ntmps30
  go_wp2_with (first | ((with_reducible refine gate_dst (N := 2) rfl ?_); refine box_event ?hg (N := 2) ?hd (cs := #[.slice none 0 0]) (t := 107) ?hr ?_; (case hd => rfl); (case hg => rfl); (case hr => first | (go_simp; done) | (go_simp; rfl)); intro gb113 hg w1 hbox hb; have n0_ := Aside0.mk (below_step HBW.out hb); have n1_ := Aside0.mk (below_step (by repeat (first | (with_reducible first | exact HB.out | apply below_alloc | apply pw_below_drewN | apply below_drew1) | exact HB.out)) hb); have n2_ := Aside0.mk (hbox); have n3_ := Aside0.mk ((by rw [hg]; exact (below_size (by repeat (first | (with_reducible first | exact HBW.out | apply below_alloc | apply pw_below_drewN | apply below_drew1) | exact HBW.out))) : w.heap.size ≤ gb113)); have n4_ := Aside0.mk ((Nat.le_trans HW0.out (by rw [hg]; exact (below_size (by repeat (first | (with_reducible first | exact HBW.out | apply below_alloc | apply pw_below_drewN | apply below_drew1) | exact HBW.out))) : w.heap.size ≤ gb113) : w0.heap.size ≤ gb113)); clear HBW; clear HB; have HBW := n0_; have HB := n1_; have BK113 := n2_; have GW113 := n3_; have GE113 := n4_; clear n0_ n1_ n2_ n3_ n4_; clear hb hbox hg))
  go_ret
  exact ⟨_, rfl, (show IsS107 w0 _ gb113 ([] : List Int) from ⟨none, 0, by (with_reducible repeat (first | refine blk_drewN ?_ _ | refine blk_drew ?_ | refine blk_alloc ?_ _)); exact BK113.out, GE113.out, (Kd.C_nil _ _)⟩), by repeat (first | (with_reducible first | exact HB.out | apply below_alloc | apply pw_below_drewN | apply below_drew1 | refine below_set ?_ GE113.out) | exact HB.out), by repeat (first | (with_reducible first | exact HBW.out | apply below_alloc | apply pw_below_drewN | apply below_drew1 | refine below_set ?_ GW113.out) | exact HBW.out)⟩

/-! ### impl_mod: function 31 -/
def impl_mod.f (a0 : Int) (a1 : Int) : Option (Int) := if a1 = 0 then (none) else (some (Int.tmod (wrap64 ((Int.tmod a0 a1) + a1)) a1))
set_option maxHeartbeats 8000000 in
set_option maxRecDepth 100000 in
theorem impl_mod.calls (a0 : Int) (a1 : Int) (r : Int) (w : World) (h : impl_mod.f a0 a1 = some r) :
    Calls Try.prog 31 #[.int .i64 a0, .int .i64 a1] w fun e w' => e = .returned (.int .i64 r) ∧ Drawn0 w w' := by
  have H : (if a1 = 0 then (none) else (some (Int.tmod (wrap64 ((Int.tmod a0 a1) + a1)) a1))) = some r := h
  clear h
  by_cases c3 : a1 = 0
  · rw [if_pos c3] at H
    exact absurd H (by simp)
  · rw [if_neg c3] at H
    have c3b0 : (a1 == 0) = false := beq_eq_false_iff_ne.mpr c3
    have c3b1 : (a1 != 0) = true := bne_iff_ne.mpr c3
    obtain rfl := Option.some.inj H
    go_enter Try.func31, Try.ntmps31
    go_wp2
    go_ret
    exact ⟨by first | rfl | (simp; done) | (simp [*]; done), by repeat (first | exact Drawn0.refl _ | apply Drawn0.step)⟩

-- NOT PRINTED: function 32 (stack_Stack_int_Push)

-- NOT PRINTED: function 33 (stack_Stack_int_Pop)

/-! ### stack_Stack_int_Peek: function 34 -/
def stack_Stack_int_Peek.f (s0_0 : List Int) : Option (Int) := if (s0_0.length : Int) = 0 then (some 0) else (if 0 ≤ (wrap64 ((s0_0.length : Int) - 1)) then (if (wrap64 ((s0_0.length : Int) - 1)) < (s0_0.length : Int) then (some (rd s0_0 (wrap64 ((s0_0.length : Int) - 1)))) else (none)) else (none))
set_option maxHeartbeats 8000000 in
set_option maxRecDepth 100000 in
theorem stack_Stack_int_Peek.calls (g : Nat) (s0_0 : List Int) (r : Int) (w0 w : World) (hI : IsS107 w0 w g s0_0) (hB : Below w0.heap.size w0 w) (h : stack_Stack_int_Peek.f s0_0 = some r) :
    Calls Try.prog 34 #[.pointer (some ⟨g, 0, none⟩)] w fun e w' => e = .returned (.int .i64 r) ∧ IsS107 w0 w' g s0_0 ∧ Below w0.heap.size w0 w' ∧ KeepBut w w' g none := by
  have HI0 := Aside0.mk hI
  have HK := Aside0.mk (KeepBut.refl w g none)
  have HL := Aside0.mk hB.size
  clear hI
  have HW0 := Aside0.mk hB.size
  have HB := Aside0.mk hB
  clear hB
  have H : (if (s0_0.length : Int) = 0 then (some 0) else (if 0 ≤ (wrap64 ((s0_0.length : Int) - 1)) then (if (wrap64 ((s0_0.length : Int) - 1)) < (s0_0.length : Int) then (some (rd s0_0 (wrap64 ((s0_0.length : Int) - 1)))) else (none)) else (none))) = some r := h
  clear h
  by_cases c2 : (s0_0.length : Int) = 0
  · rw [if_pos c2] at H
    have c2b0 : ((s0_0.length : Int) == 0) = true := beq_iff_eq.mpr c2
    have c2b1 : ((s0_0.length : Int) != 0) = false := bne_eq_false_iff_eq.mpr c2
    clear c2
    obtain rfl := Option.some.inj H
    obtain ⟨ASz3_0, cSz3_0, HGz3, hgz3, HSz3_0⟩ := HI0.out
    have hcz3_0 := cellS107_0 HGz3
    clear HGz3 hgz3
    go_enter Try.func34, Try.ntmps34
    go_wp2
    repeat (go_quiet (fail); try go_wp2)
    go_ret
    exact ⟨by first | rfl | (simp [errW_none, errW_some] <;> rfl) | (simp [*, errW_none, errW_some] <;> rfl), by repeat (first | (with_reducible first | exact HI0.out | apply IsS107.alloc | apply IsS107.drewN | apply IsS107.drew) | exact HI0.out), by repeat (first | (with_reducible first | exact HB.out | apply below_alloc | apply pw_below_drewN | apply below_drew1 | refine below_set ?_ (IsS107.ge HI0.out)) | exact HB.out), by repeat (first | (with_reducible first | exact HK.out | apply KeepBut.set_ | apply keep_drewN | apply keep_drew | apply keep_alloc) | exact HK.out)⟩
  · rw [if_neg c2] at H
    have c2b0 : ((s0_0.length : Int) == 0) = false := beq_eq_false_iff_ne.mpr c2
    have c2b1 : ((s0_0.length : Int) != 0) = true := bne_iff_ne.mpr c2
    have c2b2 : ¬ (s0_0 = []) := fun h_ => c2 (by rw [h_]; rfl)
    obtain ⟨ji4, hji4⟩ : ∃ j_ : Int, (wrap64 ((s0_0.length : Int) - 1)) = j_ := ⟨_, rfl⟩
    replace H : (if 0 ≤ (ji4) then (if (ji4) < (s0_0.length : Int) then (some (rd s0_0 (ji4))) else (none)) else (none)) = some r := by first | (rw [hji4] at H; exact H) | (simp only [hji4] at H ⊢; exact H)
    have hji4w : (IntKind.i64.wrap ((s0_0.length : Int) - 1)) = ji4 := (i64_w _).trans hji4
    by_cases c5 : 0 ≤ (ji4)
    · rw [if_pos c5] at H
      have c5b0 : decide (0 ≤ (ji4)) = true := decide_eq_true c5
      clear c5
      by_cases c6 : (ji4) < (s0_0.length : Int)
      · rw [if_pos c6] at H
        have c6b0 : decide ((ji4) < (s0_0.length : Int)) = true := decide_eq_true c6
        clear c6
        obtain rfl := Option.some.inj H
        obtain ⟨ASz7_0, cSz7_0, HGz7, hgz7, HSz7_0⟩ := HI0.out
        have hcz7_0 := cellS107_0 HGz7
        clear HGz7 hgz7
        have p115 : 0 ≤ ((ji4) : Int) := of_decide_eq_true (by first | (with_reducible assumption) | assumption)
        have q115 : (ji4) < (s0_0.length : Int) := of_decide_eq_true (by first | (with_reducible assumption) | assumption)
        obtain ⟨ad115, e115, hx115_0⟩ := Kd.at_int HSz7_0 (ji4) p115 q115
        cases e115
        replace hx115_0 := pw_cell_below HB.out hx115_0
        replace p115 := eq_true p115
        replace q115 := eq_true q115
        go_enter Try.func34, Try.ntmps34
        go_wp2
        repeat (go_quiet (fail); try go_wp2)
        go_ret
        exact ⟨by first | rfl | (simp [errW_none, errW_some] <;> rfl) | (simp only [← hji4]; first | rfl | (simp [errW_none, errW_some] <;> rfl)) | (simp [*, errW_none, errW_some] <;> rfl), by repeat (first | (with_reducible first | exact HI0.out | apply IsS107.alloc | apply IsS107.drewN | apply IsS107.drew) | exact HI0.out), by repeat (first | (with_reducible first | exact HB.out | apply below_alloc | apply pw_below_drewN | apply below_drew1 | refine below_set ?_ (IsS107.ge HI0.out)) | exact HB.out), by repeat (first | (with_reducible first | exact HK.out | apply KeepBut.set_ | apply keep_drewN | apply keep_drew | apply keep_alloc) | exact HK.out)⟩
      · rw [if_neg c6] at H
        exact absurd H (by simp)
    · rw [if_neg c5] at H
      exact absurd H (by simp)

/-! ### stack_Stack_int_Size: function 35 -/
def stack_Stack_int_Size.f (s0_0 : List Int) : Option (Int) := some (s0_0.length : Int)
set_option maxHeartbeats 8000000 in
set_option maxRecDepth 100000 in
theorem stack_Stack_int_Size.calls (g : Nat) (s0_0 : List Int) (r : Int) (w0 w : World) (hI : IsS107 w0 w g s0_0) (hB : Below w0.heap.size w0 w) (h : stack_Stack_int_Size.f s0_0 = some r) :
    Calls Try.prog 35 #[.pointer (some ⟨g, 0, none⟩)] w fun e w' => e = .returned (.int .i64 r) ∧ IsS107 w0 w' g s0_0 ∧ Below w0.heap.size w0 w' ∧ KeepBut w w' g none := by
  have HI0 := Aside0.mk hI
  have HK := Aside0.mk (KeepBut.refl w g none)
  have HL := Aside0.mk hB.size
  clear hI
  have HW0 := Aside0.mk hB.size
  have HB := Aside0.mk hB
  clear hB
  have H : (some (s0_0.length : Int)) = some r := h
  clear h
  obtain rfl := Option.some.inj H
  obtain ⟨ASz2_0, cSz2_0, HGz2, hgz2, HSz2_0⟩ := HI0.out
  have hcz2_0 := cellS107_0 HGz2
  clear HGz2 hgz2
  go_enter Try.func35, Try.ntmps35
  go_wp2
  go_ret
  exact ⟨by first | rfl | (simp [errW_none, errW_some] <;> rfl) | (simp [*, errW_none, errW_some] <;> rfl), by repeat (first | (with_reducible first | exact HI0.out | apply IsS107.alloc | apply IsS107.drewN | apply IsS107.drew) | exact HI0.out), by repeat (first | (with_reducible first | exact HB.out | apply below_alloc | apply pw_below_drewN | apply below_drew1 | refine below_set ?_ (IsS107.ge HI0.out)) | exact HB.out), by repeat (first | (with_reducible first | exact HK.out | apply KeepBut.set_ | apply keep_drewN | apply keep_drew | apply keep_alloc) | exact HK.out)⟩

-- NOT PRINTED: function 36 (stack_Stack_int_Copy)

/-! ### impl_StackRun: function 12 -/
def st_of (x : S27) : Seen.St := (x.f0, x.f1, x.f2, x.f3)
def seen_of (p : Int × Bool) : S34 := ⟨p.1, p.2, [], []⟩
theorem seen_map : ∀ (w : World) (base : Nat) (ok : Nat → Prop) (x : Int × Bool) (cs : List Value), Seen.seenN.M w base ok x cs → (Kd.bare k34).M w base ok (seen_of x) cs := by
  intro w base ok x cs h
  have h' : cs = Seen.cells x := h
  subst h'
  exact k34_mkM w base (fun _ => False) (seen_of x) (Kd.R_nil ..) (Kd.R_nil ..)
def impl_StackRun.f (l0 : List (S27)) : Option (List (S34)) :=
  if l0.length ≤ 274877906944 then some ((StackPure.toldS [[]] (l0.map st_of)).map seen_of) else none
theorem impl_StackRun.calls (A0 : Option Addr) (c0 : Nat) (l0 : List (S27)) (r : List (S34)) (w : World) (hr0 : Kd.C k27 w A0 l0.length l0) (hc0 : l0.length ≤ c0) (h : impl_StackRun.f l0 = some r) :
    Calls Try.prog 12 #[.slice A0 l0.length c0] w fun e w' => ∃ v0_ : Value, e = .returned (v0_) ∧ Kd.S k34 34 w' w.heap.size (fun _ => True) v0_ r ∧ Below w.heap.size w w' := by
  unfold impl_StackRun.f at h
  by_cases q : l0.length ≤ 274877906944
  · rw [if_pos q] at h
    obtain rfl := Option.some.inj h
    have hl : (l0.map st_of).length = l0.length := List.length_map ..
    have hC : Kd.C Seen.stK w A0 (l0.map st_of).length (l0.map st_of) := by rw [hl]; exact Row.C_iso hr0
    have H := Stack.StackRun_any A0 c0 (l0.map st_of) w hC (by rw [hl]; exact q)
    rw [hl] at H
    refine H.mono ?_
    rintro e w' ⟨v, he, hS, hB⟩
    exact ⟨v, he, Kd.S_bare (Seen.R_map (d := Seen.seenN) (d' := Kd.bare k34) (g := seen_of) rfl seen_map hS), hB⟩
  · rw [if_neg q] at h; cases h

/-! ### spec_mod: function 37 -/
def spec_mod.f (a0 : Int) (a1 : Int) : Option (Int) := if a1 = 0 then (none) else (some (Int.tmod (wrap64 ((Int.tmod a0 a1) + a1)) a1))
set_option maxHeartbeats 8000000 in
set_option maxRecDepth 100000 in
theorem spec_mod.calls (a0 : Int) (a1 : Int) (r : Int) (w : World) (h : spec_mod.f a0 a1 = some r) :
    Calls Try.prog 37 #[.int .i64 a0, .int .i64 a1] w fun e w' => e = .returned (.int .i64 r) ∧ Drawn0 w w' := by
  have H : (if a1 = 0 then (none) else (some (Int.tmod (wrap64 ((Int.tmod a0 a1) + a1)) a1))) = some r := h
  clear h
  by_cases c3 : a1 = 0
  · rw [if_pos c3] at H
    exact absurd H (by simp)
  · rw [if_neg c3] at H
    have c3b0 : (a1 == 0) = false := beq_eq_false_iff_ne.mpr c3
    have c3b1 : (a1 != 0) = true := bne_iff_ne.mpr c3
    obtain rfl := Option.some.inj H
    go_enter Try.func37, Try.ntmps37
    go_wp2
    go_ret
    exact ⟨by first | rfl | (simp; done) | (simp [*]; done), by repeat (first | exact Drawn0.refl _ | apply Drawn0.step)⟩

/-! ### spec_Stack: function 13 -/
def spec_Stack.f (l0 : List (S27)) : Option (List (S34)) :=
  if l0.length ≤ 274877906944 then some ((StackPure.toldS [[]] (l0.map st_of)).map seen_of) else none
theorem spec_Stack.calls (A0 : Option Addr) (c0 : Nat) (l0 : List (S27)) (r : List (S34)) (w : World) (hr0 : Kd.C k27 w A0 l0.length l0) (hc0 : l0.length ≤ c0) (h : spec_Stack.f l0 = some r) :
    Calls Try.prog 13 #[.slice A0 l0.length c0] w fun e w' => ∃ v0_ : Value, e = .returned (v0_) ∧ Kd.S k34 34 w' w.heap.size (fun _ => True) v0_ r ∧ Below w.heap.size w w' := by
  unfold spec_Stack.f at h
  by_cases q : l0.length ≤ 274877906944
  · rw [if_pos q] at h
    obtain rfl := Option.some.inj h
    have hl : (l0.map st_of).length = l0.length := List.length_map ..
    have hC : Kd.C Seen.stK w A0 (l0.map st_of).length (l0.map st_of) := by rw [hl]; exact Row.C_iso hr0
    have H := Stack.sStack_any A0 c0 (l0.map st_of) w hC (by rw [hl]; exact q)
    rw [hl] at H
    refine H.mono ?_
    rintro e w' ⟨v, he, hS, hB⟩
    exact ⟨v, he, Kd.S_bare (Seen.R_map (d := Seen.seenN) (d' := Kd.bare k34) (g := seen_of) rfl seen_map hS), hB⟩
  · rw [if_neg q] at h; cases h

/-! ### laws_FnStackRuns: function 3 -/
def laws_FnStackRuns.f (k : Nat) (l0 : List (S27)) : Option (Bool) := if (l0.length : Int) > 2147483647 then (some true) else ((impl_StackRun.f l0).bind fun t122 => ((spec_Stack.f l0).bind fun t125 => ((spec_SeenSame.f k t122 t125).bind fun t128 => (if t128 = true then ((impl_StackRun.f (([(⟨0, 0, 0, 0⟩ : S27)] : List (S27)))).bind fun t132 => (some ((t132.length : Int) == 1))) else (some false)))))
theorem laws_FnStackRuns.mono : ∀ a0 k, LeO (laws_FnStackRuns.f k a0) (laws_FnStackRuns.f (k + 1) a0) := by
  intro a0 k
  unfold laws_FnStackRuns.f
  repeat' first
      | (with_reducible exact spec_SeenSame.mono _ _ _)
      | (with_reducible exact LeO.refl _)
      | (with_reducible exact LeO.none _)
      | (with_reducible refine LeO.ite ?_ ?_)
      | (with_reducible refine LeO.bind ?_ (fun _ => ?_))
      | exact spec_SeenSame.mono _ _ _
      | exact LeO.none _
      | refine LeO.ite ?_ ?_
      | refine LeO.bind ?_ (fun _ => ?_)
set_option maxHeartbeats 8000000 in
set_option maxRecDepth 100000 in
theorem laws_FnStackRuns.calls (k : Nat) (A0 : Option Addr) (c0 : Nat) (l0 : List (S27)) (r : Bool) (w : World) (hr0 : Kd.C k27 w A0 l0.length l0) (hc0 : l0.length ≤ c0) (h : laws_FnStackRuns.f k l0 = some r) :
    Calls Try.prog 3 #[.slice A0 l0.length c0] w fun e w' => e = .returned (.bool r) ∧ Below w.heap.size w w' := by
  have hu27 := Try.underlying27
  have HR0 := Aside0.mk hr0
  have HC0 := Aside0.mk hc0
  clear hr0 hc0
  have HB := Aside0.mk (Below.refl w.heap.size w)
  have H : (if (l0.length : Int) > 2147483647 then (some true) else ((impl_StackRun.f l0).bind fun t122 => ((spec_Stack.f l0).bind fun t125 => ((spec_SeenSame.f k t122 t125).bind fun t128 => (if t128 = true then ((impl_StackRun.f (([(⟨0, 0, 0, 0⟩ : S27)] : List (S27)))).bind fun t132 => (some ((t132.length : Int) == 1))) else (some false)))))) = some r := h
  clear h
  by_cases c2 : (l0.length : Int) > 2147483647
  · rw [if_pos c2] at H
    have c2b0 : decide (2147483647 < (l0.length : Int)) = true := decide_eq_true c2
    have c2b1 : decide (2147483647 < l0.length) = true := decide_eq_true (by omega)
    clear c2
    obtain rfl := Option.some.inj H
    go_enter Try.func3, Try.ntmps3
    go_wp2
    go_ret
    exact ⟨by first | rfl | (simp [errW_none, errW_some] <;> rfl) | (simp [*, errW_none, errW_some] <;> rfl), by repeat (first | (with_reducible first | exact HB.out | apply below_alloc | apply pw_below_drewN | apply below_drew1) | exact HB.out)⟩
  · rw [if_neg c2] at H
    have c2b0 : decide (2147483647 < (l0.length : Int)) = false := decide_eq_false c2
    have c2b1 : decide (2147483647 < l0.length) = false := decide_eq_false (by omega)
    clear c2
    replace H := Option.bind_eq_some_iff.mp H
    obtain ⟨t122, A30, H⟩ := H
    replace H : ((spec_Stack.f l0).bind fun t125 => ((spec_SeenSame.f k t122 t125).bind fun t128 => (if t128 = true then ((impl_StackRun.f (([(⟨0, 0, 0, 0⟩ : S27)] : List (S27)))).bind fun t132 => (some ((t132.length : Int) == 1))) else (some false)))) = some r := H
    have A3 := Aside0.mk A30
    clear A30
    replace H := Option.bind_eq_some_iff.mp H
    obtain ⟨t125, A40, H⟩ := H
    replace H : ((spec_SeenSame.f k t122 t125).bind fun t128 => (if t128 = true then ((impl_StackRun.f (([(⟨0, 0, 0, 0⟩ : S27)] : List (S27)))).bind fun t132 => (some ((t132.length : Int) == 1))) else (some false))) = some r := H
    have A4 := Aside0.mk A40
    clear A40
    replace H := Option.bind_eq_some_iff.mp H
    obtain ⟨t128, A50, H⟩ := H
    replace H : (if t128 = true then ((impl_StackRun.f (([(⟨0, 0, 0, 0⟩ : S27)] : List (S27)))).bind fun t132 => (some ((t132.length : Int) == 1))) else (some false)) = some r := H
    have A5 := Aside0.mk A50
    clear A50
    by_cases c6 : t128 = true
    · subst c6
      have H1 : ((impl_StackRun.f (([(⟨0, 0, 0, 0⟩ : S27)] : List (S27)))).bind fun t132 => (some ((t132.length : Int) == 1))) = some r := by rw [if_pos rfl] at H; exact H
      clear H
      have H := H1
      clear H1
      obtain ⟨y129, hy129⟩ : ∃ y_ : List (S27), y_ = (([(⟨0, 0, 0, 0⟩ : S27)] : List (S27))) := ⟨_, rfl⟩
      replace H : ((impl_StackRun.f y129).bind fun t132 => (some ((t132.length : Int) == 1))) = some r := by first | (rw [hy129]; with_reducible exact H) | (have H2_ := (Option.bind_some _ _).symm.trans H; rw [hy129]; with_reducible exact H2_) | (have H2_ := (Option.bind_some _ _).symm.trans H; with_reducible exact H2_) | with_reducible exact H | (rw [hy129]; exact H) | exact H
      have Ny129 := Aside0.mk hy129
      clear hy129
      replace H := Option.bind_eq_some_iff.mp H
      obtain ⟨t132, A70, H⟩ := H
      replace H : (some ((t132.length : Int) == 1)) = some r := H
      have A7 := Aside0.mk A70
      clear A70
      obtain rfl := Option.some.inj H
      go_enter Try.func3, Try.ntmps3
      go_wp2_with (first | ((with_reducible refine gate_callee (f := 12) rfl ?_); refine goesL_ (some 7) rfl rfl Try.func12 (by kernel_rfl) rfl #[.slice A0 l0.length c0] rfl (by (try simp only [List.map_toArray, List.map_cons, List.map_nil]); first | done | rfl | (simp only [List.length_drop, List.length_take]; rfl)) ?_; (with_reducible refine (impl_StackRun.calls _ _ l0 t122 _ ?side1 ?side2 A3.out).mono ?_); (case side1 => repeat (first | exact HR0.out | (with_reducible refine Kd.C_alloc ?_ _) | (with_reducible refine Kd.C_drewN ?_ _) | (with_reducible refine Kd.C_drew ?_))); (case side2 => exact HC0.out); rintro e w8 ⟨v123, rfl, ho0, hb⟩; refine ⟨_, rfl, ?_⟩; have n0_ := Aside0.mk (Kd.S_lower ho0 (below_size (by repeat (first | (with_reducible first | exact HB.out | apply below_alloc | apply pw_below_drewN | apply below_drew1) | exact HB.out)))); have n1_ := Aside0.mk (below_step (by repeat (first | (with_reducible first | exact HB.out | apply below_alloc | apply pw_below_drewN | apply below_drew1) | exact HB.out)) hb); clear HB; have HO124 := n0_; have HB := n1_; clear n0_ n1_; (try clear hb); (try clear hb2); (try clear hk); (try clear hi); (try clear ho0)) | ((with_reducible refine gate_callee (f := 13) rfl ?_); refine goesL_ (some 9) rfl rfl Try.func13 (by kernel_rfl) rfl #[.slice A0 l0.length c0] rfl (by (try simp only [List.map_toArray, List.map_cons, List.map_nil]); first | done | rfl | (simp only [List.length_drop, List.length_take]; rfl)) ?_; (with_reducible refine (spec_Stack.calls _ _ l0 t125 _ ?side1 ?side2 A4.out).mono ?_); (case side1 => repeat (first | exact (Kd.C_below HR0.out HB.out) | (with_reducible refine Kd.C_alloc ?_ _) | (with_reducible refine Kd.C_drewN ?_ _) | (with_reducible refine Kd.C_drew ?_))); (case side2 => exact HC0.out); rintro e w9 ⟨v126, rfl, ho0, hb⟩; refine ⟨_, rfl, ?_⟩; have n0_ := Aside0.mk (Kd.S_elder' (by (with_reducible repeat (first | apply Kd.S_alloc | apply Kd.S_drewN | apply Kd.S_drew)); exact HO124.out) (Kd.S_base ho0) hb); have n1_ := Aside0.mk (Kd.S_lower (Kd.S_new' ho0 (Kd.S_lt (by (with_reducible repeat (first | apply Kd.S_alloc | apply Kd.S_drewN | apply Kd.S_drew)); exact HO124.out))) (below_size (by repeat (first | (with_reducible first | exact HB.out | apply below_alloc | apply pw_below_drewN | apply below_drew1) | exact HB.out)))); have n2_ := Aside0.mk (below_step (by repeat (first | (with_reducible first | exact HB.out | apply below_alloc | apply pw_below_drewN | apply below_drew1) | exact HB.out)) hb); clear HO124; clear HB; have HO124 := n0_; have HO127 := n1_; have HB := n2_; clear n0_ n1_ n2_; (try clear hb); (try clear hb2); (try clear hk); (try clear hi); (try clear ho0); obtain ⟨Ao10, co10, eo10⟩ := Kd.S_slice HO124.out; subst eo10; obtain ⟨Ao11, co11, eo11⟩ := Kd.S_slice HO127.out; subst eo11) | ((with_reducible refine gate_callee (f := 11) rfl ?_); refine goesL_ (some 10) rfl rfl Try.func11 (by kernel_rfl) rfl #[.slice Ao10 t122.length co10, .slice Ao11 t125.length co11] rfl (by (try simp only [List.map_toArray, List.map_cons, List.map_nil]); first | done | rfl | (simp only [List.length_drop, List.length_take]; rfl)) ?_; (with_reducible refine (spec_SeenSame.calls k _ _ t122 _ _ t125 true _ ?side1 ?side2 ?side3 ?side4 A5.out).mono ?_); (case side1 => repeat (first | exact (Kd.S_reads' HO124.out).2.2 | (with_reducible refine Kd.C_alloc ?_ _) | (with_reducible refine Kd.C_drewN ?_ _) | (with_reducible refine Kd.C_drew ?_))); (case side2 => exact (Kd.S_reads' HO124.out).2.1); (case side3 => repeat (first | exact (Kd.S_reads' HO127.out).2.2 | (with_reducible refine Kd.C_alloc ?_ _) | (with_reducible refine Kd.C_drewN ?_ _) | (with_reducible refine Kd.C_drew ?_))); (case side4 => exact (Kd.S_reads' HO127.out).2.1); rintro e w12 ⟨rfl, hb⟩; refine ⟨_, rfl, ?_⟩; have n0_ := Aside0.mk (Kd.S_below (by (with_reducible repeat (first | apply Kd.S_alloc | apply Kd.S_drewN | apply Kd.S_drew)); exact HO124.out) hb); have n1_ := Aside0.mk (Kd.S_below (by (with_reducible repeat (first | apply Kd.S_alloc | apply Kd.S_drewN | apply Kd.S_drew)); exact HO127.out) hb); have n2_ := Aside0.mk (below_step (by repeat (first | (with_reducible first | exact HB.out | apply below_alloc | apply pw_below_drewN | apply below_drew1) | exact HB.out)) hb); clear HO124; clear HO127; clear HB; have HO124 := n0_; have HO127 := n1_; have HB := n2_; clear n0_ n1_ n2_; (try clear hb); (try clear hb2); (try clear hk); (try clear hi)) | ((with_reducible refine gate_dst (N := 13) rfl ?_); (try (refine gate_guard (by rfl) ?_; dsimp only)); refine Kd.R_lit k27 _ 27 ?hg (N := 13) ?hd (xs := ([(⟨0, 0, 0, 0⟩ : S27)] : List (S27))) (inner := [.int .i64 0, .int .i64 0, .int .i64 0, .int .i64 0]) (ok := fun _ => True) (okp := fun _ => True) ?hr ?hp (fun _ hk => hk) trivial (Below.refl _ _) (Nat.le_refl _) (by simp) ?_; (case hd => rfl); (case hg => rfl); (case hr => first | (go_simp; done) | (go_simp; rfl)); (case hp => exact (Reps.c4 (show Kd.M k27 _ _ _ (⟨0, 0, 0, 0⟩ : S27) [.int .i64 0, .int .i64 0, .int .i64 0, .int .i64 0] from (k27_mkM _ _ _ (⟨0, 0, 0, 0⟩ : S27) )) (Reps.none _ _))); intro v130 w13 ho14 hb hg_ hnew_; clear hg_ hnew_; (first | rw [← Ny129.out] at ho14 | (simp only [Int.reduceToNat] at ho14; rw [← Ny129.out] at ho14)); have n0_ := Aside0.mk (Kd.S_below (by (with_reducible repeat (first | apply Kd.S_alloc | apply Kd.S_drewN | apply Kd.S_drew)); exact HO124.out) hb); have n1_ := Aside0.mk (Kd.S_below (by (with_reducible repeat (first | apply Kd.S_alloc | apply Kd.S_drewN | apply Kd.S_drew)); exact HO127.out) hb); have n2_ := Aside0.mk (Kd.R_lower ho14 (below_size (by repeat (first | (with_reducible first | exact HB.out | apply below_alloc | apply pw_below_drewN | apply below_drew1) | exact HB.out)))); have n3_ := Aside0.mk (below_step (by repeat (first | (with_reducible first | exact HB.out | apply below_alloc | apply pw_below_drewN | apply below_drew1) | exact HB.out)) hb); clear HO124; clear HO127; clear HB; have HO124 := n0_; have HO127 := n1_; have HO131 := n2_; have HB := n3_; clear n0_ n1_ n2_ n3_; clear hb ho14; obtain ⟨Ao15, co15, eo15⟩ := Kd.R_slice HO131.out; subst eo15) | (go_at_call 12; (with_reducible refine (impl_StackRun.calls _ _ y129 t132 _ ?side1 ?side2 A7.out).mono ?_); (case side1 => repeat (first | exact (Kd.R_reads' HO131.out).2.2 | (with_reducible refine Kd.C_alloc ?_ _) | (with_reducible refine Kd.C_drewN ?_ _) | (with_reducible refine Kd.C_drew ?_))); (case side2 => exact (Kd.R_reads' HO131.out).2.1); rintro e w16 ⟨v133, rfl, ho0, hb⟩; have n0_ := Aside0.mk (Kd.S_elder' (by (with_reducible repeat (first | apply Kd.S_alloc | apply Kd.S_drewN | apply Kd.S_drew)); exact HO124.out) (Kd.S_base ho0) hb); have n1_ := Aside0.mk (Kd.S_elder' (by (with_reducible repeat (first | apply Kd.S_alloc | apply Kd.S_drewN | apply Kd.S_drew)); exact HO127.out) (Kd.S_base ho0) hb); have n2_ := Aside0.mk (Kd.R_below (by (with_reducible repeat (first | apply Kd.R_alloc | apply Kd.R_drewN | apply Kd.R_drew)); exact HO131.out) hb); have n3_ := Aside0.mk (Kd.S_lower (Kd.S_new' (Kd.S_new' ho0 (Kd.S_lt (by (with_reducible repeat (first | apply Kd.S_alloc | apply Kd.S_drewN | apply Kd.S_drew)); exact HO124.out))) (Kd.S_lt (by (with_reducible repeat (first | apply Kd.S_alloc | apply Kd.S_drewN | apply Kd.S_drew)); exact HO127.out))) (below_size (by repeat (first | (with_reducible first | exact HB.out | apply below_alloc | apply pw_below_drewN | apply below_drew1) | exact HB.out)))); have n4_ := Aside0.mk (below_step (by repeat (first | (with_reducible first | exact HB.out | apply below_alloc | apply pw_below_drewN | apply below_drew1) | exact HB.out)) hb); clear HO124; clear HO127; clear HO131; clear HB; have HO124 := n0_; have HO127 := n1_; have HO131 := n2_; have HO134 := n3_; have HB := n4_; clear n0_ n1_ n2_ n3_ n4_; (try clear hb); (try clear hb2); (try clear hk); (try clear hi); (try clear ho0); obtain ⟨Ao17, co17, eo17⟩ := Kd.S_slice HO134.out; subst eo17))
      go_ret
      exact ⟨by first | rfl | (simp [errW_none, errW_some] <;> rfl) | (simp [*, errW_none, errW_some] <;> rfl), by repeat (first | (with_reducible first | exact HB.out | apply below_alloc | apply pw_below_drewN | apply below_drew1) | exact HB.out)⟩
    · replace c6 := Bool.eq_false_iff.mpr c6
      subst c6
      have H1 : (some false) = some r := by rw [if_neg (show ¬ (false = true) by decide)] at H; exact H
      clear H
      have H := H1
      clear H1
      obtain rfl := Option.some.inj H
      go_enter Try.func3, Try.ntmps3
      go_wp2_with (first | ((with_reducible refine gate_callee (f := 12) rfl ?_); refine goesL_ (some 7) rfl rfl Try.func12 (by kernel_rfl) rfl #[.slice A0 l0.length c0] rfl (by (try simp only [List.map_toArray, List.map_cons, List.map_nil]); first | done | rfl | (simp only [List.length_drop, List.length_take]; rfl)) ?_; (with_reducible refine (impl_StackRun.calls _ _ l0 t122 _ ?side1 ?side2 A3.out).mono ?_); (case side1 => repeat (first | exact HR0.out | (with_reducible refine Kd.C_alloc ?_ _) | (with_reducible refine Kd.C_drewN ?_ _) | (with_reducible refine Kd.C_drew ?_))); (case side2 => exact HC0.out); rintro e w18 ⟨v123, rfl, ho0, hb⟩; refine ⟨_, rfl, ?_⟩; have n0_ := Aside0.mk (Kd.S_lower ho0 (below_size (by repeat (first | (with_reducible first | exact HB.out | apply below_alloc | apply pw_below_drewN | apply below_drew1) | exact HB.out)))); have n1_ := Aside0.mk (below_step (by repeat (first | (with_reducible first | exact HB.out | apply below_alloc | apply pw_below_drewN | apply below_drew1) | exact HB.out)) hb); clear HB; have HO124 := n0_; have HB := n1_; clear n0_ n1_; (try clear hb); (try clear hb2); (try clear hk); (try clear hi); (try clear ho0)) | ((with_reducible refine gate_callee (f := 13) rfl ?_); refine goesL_ (some 9) rfl rfl Try.func13 (by kernel_rfl) rfl #[.slice A0 l0.length c0] rfl (by (try simp only [List.map_toArray, List.map_cons, List.map_nil]); first | done | rfl | (simp only [List.length_drop, List.length_take]; rfl)) ?_; (with_reducible refine (spec_Stack.calls _ _ l0 t125 _ ?side1 ?side2 A4.out).mono ?_); (case side1 => repeat (first | exact (Kd.C_below HR0.out HB.out) | (with_reducible refine Kd.C_alloc ?_ _) | (with_reducible refine Kd.C_drewN ?_ _) | (with_reducible refine Kd.C_drew ?_))); (case side2 => exact HC0.out); rintro e w19 ⟨v126, rfl, ho0, hb⟩; refine ⟨_, rfl, ?_⟩; have n0_ := Aside0.mk (Kd.S_elder' (by (with_reducible repeat (first | apply Kd.S_alloc | apply Kd.S_drewN | apply Kd.S_drew)); exact HO124.out) (Kd.S_base ho0) hb); have n1_ := Aside0.mk (Kd.S_lower (Kd.S_new' ho0 (Kd.S_lt (by (with_reducible repeat (first | apply Kd.S_alloc | apply Kd.S_drewN | apply Kd.S_drew)); exact HO124.out))) (below_size (by repeat (first | (with_reducible first | exact HB.out | apply below_alloc | apply pw_below_drewN | apply below_drew1) | exact HB.out)))); have n2_ := Aside0.mk (below_step (by repeat (first | (with_reducible first | exact HB.out | apply below_alloc | apply pw_below_drewN | apply below_drew1) | exact HB.out)) hb); clear HO124; clear HB; have HO124 := n0_; have HO127 := n1_; have HB := n2_; clear n0_ n1_ n2_; (try clear hb); (try clear hb2); (try clear hk); (try clear hi); (try clear ho0); obtain ⟨Ao20, co20, eo20⟩ := Kd.S_slice HO124.out; subst eo20; obtain ⟨Ao21, co21, eo21⟩ := Kd.S_slice HO127.out; subst eo21) | ((with_reducible refine gate_callee (f := 11) rfl ?_); refine goesL_ (some 10) rfl rfl Try.func11 (by kernel_rfl) rfl #[.slice Ao20 t122.length co20, .slice Ao21 t125.length co21] rfl (by (try simp only [List.map_toArray, List.map_cons, List.map_nil]); first | done | rfl | (simp only [List.length_drop, List.length_take]; rfl)) ?_; (with_reducible refine (spec_SeenSame.calls k _ _ t122 _ _ t125 false _ ?side1 ?side2 ?side3 ?side4 A5.out).mono ?_); (case side1 => repeat (first | exact (Kd.S_reads' HO124.out).2.2 | (with_reducible refine Kd.C_alloc ?_ _) | (with_reducible refine Kd.C_drewN ?_ _) | (with_reducible refine Kd.C_drew ?_))); (case side2 => exact (Kd.S_reads' HO124.out).2.1); (case side3 => repeat (first | exact (Kd.S_reads' HO127.out).2.2 | (with_reducible refine Kd.C_alloc ?_ _) | (with_reducible refine Kd.C_drewN ?_ _) | (with_reducible refine Kd.C_drew ?_))); (case side4 => exact (Kd.S_reads' HO127.out).2.1); rintro e w22 ⟨rfl, hb⟩; refine ⟨_, rfl, ?_⟩; have n0_ := Aside0.mk (Kd.S_below (by (with_reducible repeat (first | apply Kd.S_alloc | apply Kd.S_drewN | apply Kd.S_drew)); exact HO124.out) hb); have n1_ := Aside0.mk (Kd.S_below (by (with_reducible repeat (first | apply Kd.S_alloc | apply Kd.S_drewN | apply Kd.S_drew)); exact HO127.out) hb); have n2_ := Aside0.mk (below_step (by repeat (first | (with_reducible first | exact HB.out | apply below_alloc | apply pw_below_drewN | apply below_drew1) | exact HB.out)) hb); clear HO124; clear HO127; clear HB; have HO124 := n0_; have HO127 := n1_; have HB := n2_; clear n0_ n1_ n2_; (try clear hb); (try clear hb2); (try clear hk); (try clear hi)))
      go_ret
      exact ⟨by first | rfl | (simp [errW_none, errW_some] <;> rfl) | (simp [*, errW_none, errW_some] <;> rfl), by repeat (first | (with_reducible first | exact HB.out | apply below_alloc | apply pw_below_drewN | apply below_drew1) | exact HB.out)⟩

end Go.Proofs.Ytmhnhfmkcipcpaa.QFnStackRuns
