/- What the law's row stands on, part 3: contracts of functions, for the arguments and worlds that each one names. -/
import Derived.Test.YtmhnhfmkcipcpaaCkFnListRuns2
namespace Go.Proofs.Ytmhnhfmkcipcpaa.QFnListRuns
open Go.RowKit Go.Proofs.YtmhnhfmkcipcpaaW.PrintWords Go.Proofs.YtmhnhfmkcipcpaaW.PrintLast Go.Proofs.YtmhnhfmkcipcpaaW.PrintMore
attribute [local go_sem] max2_int min2_int max_two min_two max_three min_three max_four min_four   -- for this text's walks alone
set_option linter.unusedVariables false
set_option linter.unusedSimpArgs false
abbrev t_ : Bool := true
abbrev f_ : Bool := false
theorem A0_ {p : Prop} (h : p) : Aside0 p := ⟨h⟩
theorem od_ {p : Prop} [Decidable p] (h : decide p = true) : p := of_decide_eq_true h
theorem bl_ (w : Go.World) (p : Go.Addr) {v : Go.Value} (h : w.cell? p = some v) : p.block < w.heap.size := Go.World.block_lt_of_cell? w p h
def spec_SeenSame.l0 : Nat → List (S34) → List (S34) → Int → Option (Bool)
 | 0, _, _, _ => none
 | k + 1, x0, x1, x5 => if x5 < (x0.length : Int) then (if 0 ≤ x5 then (if x5 < (x1.length : Int) then (if ((rd_T34 x0 x5).f0) = ((rd_T34 x1 x5).f0) then (if (((rd_T34 x0 x5).f1) != ((rd_T34 x1 x5).f1)) = true then (some false) else ((spec_Same.f k ((rd_T34 x0 x5).f2) ((rd_T34 x1 x5).f2)).bind fun t109 => (if t109 = true then ((spec_Same.f k ((rd_T34 x0 x5).f3) ((rd_T34 x1 x5).f3)).bind fun t112 => (if t112 = true then (spec_SeenSame.l0 k x0 x1 (wrap64 (x5 + 1))) else (some false))) else (some false)))) else (some false)) else (none)) else (none)) else (some true)
def spec_SeenSame.f (k : Nat) (l0 : List (S34)) (l1 : List (S34)) : Option (Bool) := if (l0.length : Int) = (l1.length : Int) then (spec_SeenSame.l0 k l0 l1 0) else (some false)
def spec_SeenSame.T6 : Bool × List (List Nat × List Nat) := (true, [([], []), ([], []), ([0, 1], [0, 1]), ([2], [2]), ([3], [3]), ([], []), ([], []), ([5, 6], [5, 6]), ([7], [7]), ([8], [8]), ([4, 9], [4, 9]), ([10], [10]), ([11], [11]), ([11], [11]), ([12, 13, 11], [11, 12, 13]), ([14, 11], [11, 14]), ([15, 11], [11, 15]), ([11], [11]), ([11], [11]), ([17, 18, 11], [11, 17, 18]), ([19, 11], [11, 19]), ([20, 11], [11, 20]), ([16, 21, 11], [11, 16, 21]), ([11, 22], [11, 22]), ([23, 11], [23]), ([24], [24]), ([24], [24]), ([25, 26, 24], [24, 25, 26]), ([27, 24], [24, 27]), ([28, 24], [24, 28]), ([24], [24]), ([24], [24]), ([30, 31, 24], [24, 30, 31]), ([32, 24], [24, 32]), ([33, 24], [24, 33]), ([29, 34, 24, 24], [24, 29, 34]), ([35, 24], [24, 35]), ([24, 36], [24, 36]), ([37, 35], [37]), ([38], [38]), ([38], [38]), ([39, 40, 38], [38, 39, 40]), ([41, 38], [38, 41]), ([42, 38], [38, 42]), ([38], [38]), ([38], [38]), ([44, 45, 38], [38, 44, 45]), ([46, 38], [38, 46]), ([47, 38], [38, 47]), ([43, 48, 38, 38], [38, 43, 48]), ([49, 38], [38, 49]), ([38, 50], [38, 50])])
def spec_SeenSame.B6 : List Nat := [0, 0, 3, 7, 15, 0, 0, 96, 224, 480, 1023, 2047, 4095, 4095, 16383, 32767, 65535, 4095, 4095, 397311, 921599, 1970175, 4194303, 8388607, 16777215, 33554431, 33554431, 134217727, 268435455, 536870911, 33554431, 33554431, 3254779903, 7549747199, 16139681791, 34359738367, 68719476735, 137438953471, 274877906943, 549755813887, 549755813887, 2199023255551, 4398046511103, 8796093022207, 549755813887, 549755813887, 53326313947135, 123695058124799, 264432546480127, 562949953421311, 1125899906842623, 2251799813685247]
theorem spec_SeenSame.tab6 : rtab .any (opsOf Try.f11 6) = spec_SeenSame.T6 := by kernel_rfl
theorem spec_SeenSame.bits6 : waitsOk spec_SeenSame.T6.2 spec_SeenSame.B6 = true := by kernel_rfl
set_option maxHeartbeats 8000000 in
set_option maxRecDepth 100000 in
theorem spec_SeenSame.calls (k : Nat) (A0 : Option Addr) (c0 : Nat) (l0 : List (S34)) (A1 : Option Addr) (c1 : Nat) (l1 : List (S34)) (r : Bool) (w : World) (hr0 : Kd.C k34 w A0 l0.length l0) (hc0 : l0.length ≤ c0) (hr1 : Kd.C k34 w A1 l1.length l1) (hc1 : l1.length ≤ c1) (h : spec_SeenSame.f k l0 l1 = some r) :
 Calls Try.prog 11 #[.slice A0 l0.length c0, .slice A1 l1.length c1] w fun e w' => e = .returned (.bool r) ∧ Below w.heap.size w w' := by
 have HR0 := A0_ hr0
 have HC0 := A0_ hc0
 clear hr0 hc0
 have HR1 := A0_ hr1
 have HC1 := A0_ hc1
 clear hr1 hc1
 have HB := A0_ (Below.refl w.heap.size w)
 have H : (if (l0.length : Int) = (l1.length : Int) then (spec_SeenSame.l0 k l0 l1 0) else (some false)) = some r := h
 clear h
 by_cases c3 : (l0.length : Int) = (l1.length : Int)
 · rw [if_pos c3] at H
   have c3b0 : ((l0.length : Int) == (l1.length : Int)) = true := beq_iff_eq.mpr c3
   have c3b1 : ((l0.length : Int) != (l1.length : Int)) = false := bne_eq_false_iff_eq.mpr c3
   have c3b2 : (l0.length == l1.length) = true := by first | simpa using c3 | (simp at c3 ⊢; omega)
   clear c3
   have H' := A0_ H
   clear H
   go_enter Try.func11, Try.ntmps11
   go_wp2
   go_loopg [5] k (fun kq v5 w' => ∃ (x5_1 : Int), v5 = .int .i64 x5_1 ∧ Aside0 (spec_SeenSame.l0 kq l0 l1 x5_1 = some r) ∧ Aside0 (kq ≤ k) ∧ Aside0 (Below w.heap.size w w'))
   case atStart => exact ⟨(0), (by first | rfl | (simp; done) | (simp [*]; done)), H', ⟨Nat.le_refl _⟩, ⟨by repeat (first | (with_reducible first | exact HB.out | apply below_alloc | apply pw_below_drewN | apply below_drew1) | exact HB.out)⟩⟩
   case round =>
    clear H'
    try clear c1
    try clear p2
    try clear c3
    try clear c3b0
    try clear c3b1
    try clear c3b2
    obtain ⟨x5_1, rfl, HA, HK1, HB⟩ := hrel
    cases gk with
    | zero => exact absurd HA.out (by simp [spec_SeenSame.l0])
    | succ k1 =>
     have H := HA.out
     clear HA
     simp only [spec_SeenSame.l0] at H
     by_cases c4 : x5_1 < (l0.length : Int)
     · rw [if_pos c4] at H
       have c4b0 : decide (x5_1 < (l0.length : Int)) = true := decide_eq_true c4
       clear c4
       by_cases c5 : 0 ≤ x5_1
       · rw [if_pos c5] at H
         have c5b0 : decide (0 ≤ x5_1) = true := decide_eq_true c5
         clear c5
         by_cases c6 : x5_1 < (l1.length : Int)
         · rw [if_pos c6] at H
           have c6b0 : decide (x5_1 < (l1.length : Int)) = true := decide_eq_true c6
           clear c6
           by_cases c7 : ((rd_T34 l0 x5_1).f0) = ((rd_T34 l1 x5_1).f0)
           · rw [if_pos c7] at H
             have c7b0 : (((rd_T34 l0 x5_1).f0) == ((rd_T34 l1 x5_1).f0)) = true := beq_iff_eq.mpr c7
             have c7b1 : (((rd_T34 l0 x5_1).f0) != ((rd_T34 l1 x5_1).f0)) = false := bne_eq_false_iff_eq.mpr c7
             clear c7
             by_cases c8 : (((rd_T34 l0 x5_1).f1) != ((rd_T34 l1 x5_1).f1)) = true
             · rw [if_pos c8] at H
               have c8b0 : (((rd_T34 l0 x5_1).f1) != ((rd_T34 l1 x5_1).f1)) = true := c8
               (try (have c8b1 : decide (((rd_T34 l0 x5_1).f1) = ((rd_T34 l1 x5_1).f1)) = false := by simpa using c8))
               (try (have c8b2 : (((rd_T34 l0 x5_1).f1) == ((rd_T34 l1 x5_1).f1)) = false := by simpa using c8))
               (try (have c8b3 : ¬ (((rd_T34 l0 x5_1).f1) = ((rd_T34 l1 x5_1).f1)) := by simpa using c8))
               clear c8
               obtain rfl := Option.some.inj H
               try go_wp2
               have n0_ := A0_ (below_drew1 HB.out)
               clear HB
               have HB := n0_
               clear n0_
               have p103 : 0 ≤ (x5_1 : Int) := od_ (by first | (with_reducible assumption) | assumption)
               have q103 : x5_1 < (l0.length : Int) := od_ (by first | (with_reducible assumption) | assumption)
               obtain ⟨ad103, A103_2, c103_2, A103_3, c103_3, e103, hx103_0, hx103_1, hx103_2, hx103_3, hl103_2, hi103_2, hl103_3, hi103_3⟩ := at_T34 HR0.out x5_1 p103 q103
               have hw103_3 := hx103_3
               have hw103_2 := hx103_2
               have hw103_1 := hx103_1
               have hw103_0 := hx103_0
               cases e103
               replace hx103_0 := (HB.out.cell (bl_ w _ hx103_0)).trans hx103_0
               replace hx103_1 := (HB.out.cell (bl_ w _ hx103_1)).trans hx103_1
               replace hx103_2 := (HB.out.cell (bl_ w _ hx103_2)).trans hx103_2
               replace hx103_3 := (HB.out.cell (bl_ w _ hx103_3)).trans hx103_3
               have HR103_2 := A0_ hi103_2
               have HC103_2 := A0_ hl103_2
               clear hi103_2 hl103_2
               have HR103_3 := A0_ hi103_3
               have HC103_3 := A0_ hl103_3
               clear hi103_3 hl103_3
               replace p103 := eq_true p103
               replace q103 := eq_true q103
               have p104 : 0 ≤ (x5_1 : Int) := od_ (by first | (with_reducible assumption) | assumption)
               have q104 : x5_1 < (l1.length : Int) := od_ (by first | (with_reducible assumption) | assumption)
               obtain ⟨ad104, A104_2, c104_2, A104_3, c104_3, e104, hx104_0, hx104_1, hx104_2, hx104_3, hl104_2, hi104_2, hl104_3, hi104_3⟩ := at_T34 HR1.out x5_1 p104 q104
               have hw104_3 := hx104_3
               have hw104_2 := hx104_2
               have hw104_1 := hx104_1
               have hw104_0 := hx104_0
               cases e104
               replace hx104_0 := (HB.out.cell (bl_ w _ hx104_0)).trans hx104_0
               replace hx104_1 := (HB.out.cell (bl_ w _ hx104_1)).trans hx104_1
               replace hx104_2 := (HB.out.cell (bl_ w _ hx104_2)).trans hx104_2
               replace hx104_3 := (HB.out.cell (bl_ w _ hx104_3)).trans hx104_3
               have HR104_2 := A0_ hi104_2
               have HC104_2 := A0_ hl104_2
               clear hi104_2 hl104_2
               have HR104_3 := A0_ hi104_3
               have HC104_3 := A0_ hl104_3
               clear hi104_3 hl104_3
               replace p104 := eq_true p104
               replace q104 := eq_true q104
               have p105 : 0 ≤ (x5_1 : Int) := od_ (by first | (with_reducible assumption) | assumption)
               have q105 : x5_1 < (l0.length : Int) := od_ (by first | (with_reducible assumption) | assumption)
               obtain ⟨ad105, A105_2, c105_2, A105_3, c105_3, e105, hx105_0, hx105_1, hx105_2, hx105_3, hl105_2, hi105_2, hl105_3, hi105_3⟩ := at_T34 HR0.out x5_1 p105 q105
               have hw105_3 := hx105_3
               have hw105_2 := hx105_2
               have hw105_1 := hx105_1
               have hw105_0 := hx105_0
               obtain rfl : ad103 = ad105 := (by injection e105)
               replace hx105_0 := (HB.out.cell (bl_ w _ hx105_0)).trans hx105_0
               replace hx105_1 := (HB.out.cell (bl_ w _ hx105_1)).trans hx105_1
               replace hx105_2 := (HB.out.cell (bl_ w _ hx105_2)).trans hx105_2
               replace hx105_3 := (HB.out.cell (bl_ w _ hx105_3)).trans hx105_3
               have HR105_2 := A0_ hi105_2
               have HC105_2 := A0_ hl105_2
               clear hi105_2 hl105_2
               have HR105_3 := A0_ hi105_3
               have HC105_3 := A0_ hl105_3
               clear hi105_3 hl105_3
               replace p105 := eq_true p105
               replace q105 := eq_true q105
               have ea_ := Option.some.inj (hx103_2.symm.trans hx105_2)
               injection ea_ with ea_ en_ ec_
               subst ea_
               subst ec_
               clear en_
               have ea_ := Option.some.inj (hx103_3.symm.trans hx105_3)
               injection ea_ with ea_ en_ ec_
               subst ea_
               subst ec_
               clear en_
               have p106 : 0 ≤ (x5_1 : Int) := od_ (by first | (with_reducible assumption) | assumption)
               have q106 : x5_1 < (l1.length : Int) := od_ (by first | (with_reducible assumption) | assumption)
               obtain ⟨ad106, A106_2, c106_2, A106_3, c106_3, e106, hx106_0, hx106_1, hx106_2, hx106_3, hl106_2, hi106_2, hl106_3, hi106_3⟩ := at_T34 HR1.out x5_1 p106 q106
               have hw106_3 := hx106_3
               have hw106_2 := hx106_2
               have hw106_1 := hx106_1
               have hw106_0 := hx106_0
               obtain rfl : ad104 = ad106 := (by injection e106)
               replace hx106_0 := (HB.out.cell (bl_ w _ hx106_0)).trans hx106_0
               replace hx106_1 := (HB.out.cell (bl_ w _ hx106_1)).trans hx106_1
               replace hx106_2 := (HB.out.cell (bl_ w _ hx106_2)).trans hx106_2
               replace hx106_3 := (HB.out.cell (bl_ w _ hx106_3)).trans hx106_3
               have HR106_2 := A0_ hi106_2
               have HC106_2 := A0_ hl106_2
               clear hi106_2 hl106_2
               have HR106_3 := A0_ hi106_3
               have HC106_3 := A0_ hl106_3
               clear hi106_3 hl106_3
               replace p106 := eq_true p106
               replace q106 := eq_true q106
               have ea_ := Option.some.inj (hx104_2.symm.trans hx106_2)
               injection ea_ with ea_ en_ ec_
               subst ea_
               subst ec_
               clear en_
               have ea_ := Option.some.inj (hx104_3.symm.trans hx106_3)
               injection ea_ with ea_ en_ ec_
               subst ea_
               subst ec_
               clear en_
               refine start_ (n := 52) (S := fun w' => w'.cell? (ad103.add ((x5_1).toNat * 4)) = some (.int .i64 ((rd_T34 l0 x5_1).f0)) ∧ w'.cell? ⟨(ad103.add ((x5_1).toNat * 4)).block, (ad103.add ((x5_1).toNat * 4)).off + 1, none⟩ = some (.bool ((rd_T34 l0 x5_1).f1)) ∧ w'.cell? ⟨(ad103.add ((x5_1).toNat * 4)).block, (ad103.add ((x5_1).toNat * 4)).off + 2, none⟩ = some (.slice A103_2 ((rd_T34 l0 x5_1).f2).length c103_2) ∧ w'.cell? ⟨(ad103.add ((x5_1).toNat * 4)).block, (ad103.add ((x5_1).toNat * 4)).off + 3, none⟩ = some (.slice A103_3 ((rd_T34 l0 x5_1).f3).length c103_3) ∧ w'.cell? (ad104.add ((x5_1).toNat * 4)) = some (.int .i64 ((rd_T34 l1 x5_1).f0)) ∧ w'.cell? ⟨(ad104.add ((x5_1).toNat * 4)).block, (ad104.add ((x5_1).toNat * 4)).off + 1, none⟩ = some (.bool ((rd_T34 l1 x5_1).f1)) ∧ w'.cell? ⟨(ad104.add ((x5_1).toNat * 4)).block, (ad104.add ((x5_1).toNat * 4)).off + 2, none⟩ = some (.slice A104_2 ((rd_T34 l1 x5_1).f2).length c104_2) ∧ w'.cell? ⟨(ad104.add ((x5_1).toNat * 4)).block, (ad104.add ((x5_1).toNat * 4)).off + 3, none⟩ = some (.slice A104_3 ((rd_T34 l1 x5_1).f3).length c104_3) ∧ w'.cell? (ad103.add ((x5_1).toNat * 4)) = some (.int .i64 ((rd_T34 l0 x5_1).f0)) ∧ w'.cell? ⟨(ad103.add ((x5_1).toNat * 4)).block, (ad103.add ((x5_1).toNat * 4)).off + 1, none⟩ = some (.bool ((rd_T34 l0 x5_1).f1)) ∧ w'.cell? ⟨(ad103.add ((x5_1).toNat * 4)).block, (ad103.add ((x5_1).toNat * 4)).off + 2, none⟩ = some (.slice A103_2 ((rd_T34 l0 x5_1).f2).length c103_2) ∧ w'.cell? ⟨(ad103.add ((x5_1).toNat * 4)).block, (ad103.add ((x5_1).toNat * 4)).off + 3, none⟩ = some (.slice A103_3 ((rd_T34 l0 x5_1).f3).length c103_3) ∧ w'.cell? (ad104.add ((x5_1).toNat * 4)) = some (.int .i64 ((rd_T34 l1 x5_1).f0)) ∧ w'.cell? ⟨(ad104.add ((x5_1).toNat * 4)).block, (ad104.add ((x5_1).toNat * 4)).off + 1, none⟩ = some (.bool ((rd_T34 l1 x5_1).f1)) ∧ w'.cell? ⟨(ad104.add ((x5_1).toNat * 4)).block, (ad104.add ((x5_1).toNat * 4)).off + 2, none⟩ = some (.slice A104_2 ((rd_T34 l1 x5_1).f2).length c104_2) ∧ w'.cell? ⟨(ad104.add ((x5_1).toNat * 4)).block, (ad104.add ((x5_1).toNat * 4)).off + 3, none⟩ = some (.slice A104_3 ((rd_T34 l1 x5_1).f3).length c104_3)) (ds := []) #[f_, f_, f_, f_, f_, f_, f_, f_, f_, f_, f_, f_, f_, f_, f_, f_, f_, f_, f_, f_, f_, f_, f_, f_, f_, f_, f_, f_, f_, f_, f_, f_, f_, f_, f_, f_, f_, f_, f_, f_, f_, f_, f_, f_, f_, f_, f_, f_, f_, f_, f_, f_] (by kernel_rfl) rfl rfl ⟨((HB.out.cell (bl_ w _ hw103_0)).trans hw103_0), ((HB.out.cell (bl_ w _ hw103_1)).trans hw103_1), ((HB.out.cell (bl_ w _ hw103_2)).trans hw103_2), ((HB.out.cell (bl_ w _ hw103_3)).trans hw103_3), ((HB.out.cell (bl_ w _ hw104_0)).trans hw104_0), ((HB.out.cell (bl_ w _ hw104_1)).trans hw104_1), ((HB.out.cell (bl_ w _ hw104_2)).trans hw104_2), ((HB.out.cell (bl_ w _ hw104_3)).trans hw104_3), ((HB.out.cell (bl_ w _ hw105_0)).trans hw105_0), ((HB.out.cell (bl_ w _ hw105_1)).trans hw105_1), ((HB.out.cell (bl_ w _ hw105_2)).trans hw105_2), ((HB.out.cell (bl_ w _ hw105_3)).trans hw105_3), ((HB.out.cell (bl_ w _ hw106_0)).trans hw106_0), ((HB.out.cell (bl_ w _ hw106_1)).trans hw106_1), ((HB.out.cell (bl_ w _ hw106_2)).trans hw106_2), ((HB.out.cell (bl_ w _ hw106_3)).trans hw106_3)⟩ (fun hHeld => ?_); refine with_tabW spec_SeenSame.tab6 spec_SeenSame.bits6 (fun HT_ HW_ => ?_)
               generalize wr.drew = w9 at HB HR103_2 HR103_3 HR104_2 HR104_3 HR105_2 HR105_3 HR106_2 HR106_3 hx103_0 hx103_1 hx103_2 hx103_3 hx104_0 hx104_1 hx104_2 hx104_3 hx105_0 hx105_1 hx105_2 hx105_3 hx106_0 hx106_1 hx106_2 hx106_3 hHeld ⊢
               refine pure_ (i := 0) (N := some 17) (v := ?_) (a' := ?_) #[t_, f_, f_, f_, f_, f_, f_, f_, f_, f_, f_, f_, f_, f_, f_, f_, f_, f_, f_, f_, f_, f_, f_, f_, f_, f_, f_, f_, f_, f_, f_, f_, f_, f_, f_, f_, f_, f_, f_, f_, f_, f_, f_, f_, f_, f_, f_, f_, f_, f_, f_, f_] rfl rfl (any_of HT_.out (by kernel_rfl)) (fun _ _ _ h => h) (Or.inl ⟨by rfl, ?_⟩) ?_ ?_
               rotate_left
               · intro w'
                 go_simp
                 with_reducible rfl
               rotate_left
               · simp only [Act.put, List.setIfInBounds_toArray, List.set_cons_zero, List.set_cons_succ, i64_w, i32_w]
                 rfl
               refine pure_ (i := 1) (N := some 18) (v := ?_) (a' := ?_) #[t_, t_, f_, f_, f_, f_, f_, f_, f_, f_, f_, f_, f_, f_, f_, f_, f_, f_, f_, f_, f_, f_, f_, f_, f_, f_, f_, f_, f_, f_, f_, f_, f_, f_, f_, f_, f_, f_, f_, f_, f_, f_, f_, f_, f_, f_, f_, f_, f_, f_, f_, f_] rfl rfl (any_of HT_.out (by kernel_rfl)) (fun _ _ _ h => h) (Or.inl ⟨by rfl, ?_⟩) ?_ ?_
               rotate_left
               · intro w'
                 go_simp
                 with_reducible rfl
               rotate_left
               · simp only [Act.put, List.setIfInBounds_toArray, List.set_cons_zero, List.set_cons_succ, i64_w, i32_w]
                 rfl
               refine pure_ (i := 2) (N := some 19) (v := ?_) (a' := ?_) #[t_, t_, t_, f_, f_, f_, f_, f_, f_, f_, f_, f_, f_, f_, f_, f_, f_, f_, f_, f_, f_, f_, f_, f_, f_, f_, f_, f_, f_, f_, f_, f_, f_, f_, f_, f_, f_, f_, f_, f_, f_, f_, f_, f_, f_, f_, f_, f_, f_, f_, f_, f_] rfl rfl (any_of HT_.out (by kernel_rfl)) (fun _ _ _ h => h) (Or.inl ⟨by rfl, ?_⟩) ?_ ?_
               rotate_left
               · intro w'
                 go_simp
                 with_reducible rfl
               rotate_left
               · simp only [Act.put, List.setIfInBounds_toArray, List.set_cons_zero, List.set_cons_succ, i64_w, i32_w]
                 rfl
               refine pure_ (i := 3) (N := some 20) (v := ?_) (a' := ?_) #[t_, t_, t_, t_, f_, f_, f_, f_, f_, f_, f_, f_, f_, f_, f_, f_, f_, f_, f_, f_, f_, f_, f_, f_, f_, f_, f_, f_, f_, f_, f_, f_, f_, f_, f_, f_, f_, f_, f_, f_, f_, f_, f_, f_, f_, f_, f_, f_, f_, f_, f_, f_] rfl rfl (any_of HT_.out (by kernel_rfl)) (fun _ _ _ h => h) (Or.inl ⟨by rfl, ?_⟩) ?_ ?_
               rotate_left
               · intro w'
                 go_simp
                 with_reducible rfl
               rotate_left
               · simp only [Act.put, List.setIfInBounds_toArray, List.set_cons_zero, List.set_cons_succ, i64_w, i32_w]
                 rfl
               refine pure_ (i := 5) (N := some 22) (v := ?_) (a' := ?_) #[t_, t_, t_, t_, f_, t_, f_, f_, f_, f_, f_, f_, f_, f_, f_, f_, f_, f_, f_, f_, f_, f_, f_, f_, f_, f_, f_, f_, f_, f_, f_, f_, f_, f_, f_, f_, f_, f_, f_, f_, f_, f_, f_, f_, f_, f_, f_, f_, f_, f_, f_, f_] rfl rfl (any_of HT_.out (by kernel_rfl)) (fun _ _ _ h => h) (Or.inl ⟨by rfl, ?_⟩) ?_ ?_
               rotate_left
               · intro w'
                 go_simp
                 with_reducible rfl
               rotate_left
               · simp only [Act.put, List.setIfInBounds_toArray, List.set_cons_zero, List.set_cons_succ, i64_w, i32_w]
                 rfl
               refine pure_ (i := 6) (N := some 23) (v := ?_) (a' := ?_) #[t_, t_, t_, t_, f_, t_, t_, f_, f_, f_, f_, f_, f_, f_, f_, f_, f_, f_, f_, f_, f_, f_, f_, f_, f_, f_, f_, f_, f_, f_, f_, f_, f_, f_, f_, f_, f_, f_, f_, f_, f_, f_, f_, f_, f_, f_, f_, f_, f_, f_, f_, f_] rfl rfl (any_of HT_.out (by kernel_rfl)) (fun _ _ _ h => h) (Or.inl ⟨by rfl, ?_⟩) ?_ ?_
               rotate_left
               · intro w'
                 go_simp
                 with_reducible rfl
               rotate_left
               · simp only [Act.put, List.setIfInBounds_toArray, List.set_cons_zero, List.set_cons_succ, i64_w, i32_w]
                 rfl
               refine pure_ (i := 7) (N := some 24) (v := ?_) (a' := ?_) #[t_, t_, t_, t_, f_, t_, t_, t_, f_, f_, f_, f_, f_, f_, f_, f_, f_, f_, f_, f_, f_, f_, f_, f_, f_, f_, f_, f_, f_, f_, f_, f_, f_, f_, f_, f_, f_, f_, f_, f_, f_, f_, f_, f_, f_, f_, f_, f_, f_, f_, f_, f_] rfl rfl (any_of HT_.out (by kernel_rfl)) (fun _ _ _ h => h) (Or.inl ⟨by rfl, ?_⟩) ?_ ?_
               rotate_left
               · intro w'
                 go_simp
                 with_reducible rfl
               rotate_left
               · simp only [Act.put, List.setIfInBounds_toArray, List.set_cons_zero, List.set_cons_succ, i64_w, i32_w]
                 rfl
               refine pure_ (i := 8) (N := some 25) (v := ?_) (a' := ?_) #[t_, t_, t_, t_, f_, t_, t_, t_, t_, f_, f_, f_, f_, f_, f_, f_, f_, f_, f_, f_, f_, f_, f_, f_, f_, f_, f_, f_, f_, f_, f_, f_, f_, f_, f_, f_, f_, f_, f_, f_, f_, f_, f_, f_, f_, f_, f_, f_, f_, f_, f_, f_] rfl rfl (any_of HT_.out (by kernel_rfl)) (fun _ _ _ h => h) (Or.inl ⟨by rfl, ?_⟩) ?_ ?_
               rotate_left
               · intro w'
                 go_simp
                 with_reducible rfl
               rotate_left
               · simp only [Act.put, List.setIfInBounds_toArray, List.set_cons_zero, List.set_cons_succ, i64_w, i32_w]
                 rfl
               refine take_ (i := 4) (N := some 21) (v := ?_) (a' := ?_) #[t_, t_, t_, t_, t_, t_, t_, t_, t_, f_, f_, f_, f_, f_, f_, f_, f_, f_, f_, f_, f_, f_, f_, f_, f_, f_, f_, f_, f_, f_, f_, f_, f_, f_, f_, f_, f_, f_, f_, f_, f_, f_, f_, f_, f_, f_, f_, f_, f_, f_, f_, f_] rfl rfl (take_ofW HT_.out HW_.out (by kernel_rfl)) (fun _ _ _ h => h) (Or.inl ⟨by rfl, ?_⟩) hHeld ?_ ?_
               rotate_left
               · rintro w' ⟨s0, s1, s2, s3, s4, s5, s6, s7, s8, s9, s10, s11, s12, s13, s14, s15⟩
                 go_simp
                 with_reducible rfl
               rotate_left
               · simp only [Act.put, List.setIfInBounds_toArray, List.set_cons_zero, List.set_cons_succ, i64_w, i32_w]
                 rfl
               refine take_ (i := 9) (N := some 26) (v := ?_) (a' := ?_) #[t_, t_, t_, t_, t_, t_, t_, t_, t_, t_, f_, f_, f_, f_, f_, f_, f_, f_, f_, f_, f_, f_, f_, f_, f_, f_, f_, f_, f_, f_, f_, f_, f_, f_, f_, f_, f_, f_, f_, f_, f_, f_, f_, f_, f_, f_, f_, f_, f_, f_, f_, f_] rfl rfl (take_ofW HT_.out HW_.out (by kernel_rfl)) (fun _ _ _ h => h) (Or.inl ⟨by rfl, ?_⟩) hHeld ?_ ?_
               rotate_left
               · rintro w' ⟨s0, s1, s2, s3, s4, s5, s6, s7, s8, s9, s10, s11, s12, s13, s14, s15⟩
                 go_simp
                 with_reducible rfl
               rotate_left
               · simp only [Act.put, List.setIfInBounds_toArray, List.set_cons_zero, List.set_cons_succ, i64_w, i32_w]
                 rfl
               refine pure_ (i := 10) (N := some 27) (v := ?_) (a' := ?_) #[t_, t_, t_, t_, t_, t_, t_, t_, t_, t_, t_, f_, f_, f_, f_, f_, f_, f_, f_, f_, f_, f_, f_, f_, f_, f_, f_, f_, f_, f_, f_, f_, f_, f_, f_, f_, f_, f_, f_, f_, f_, f_, f_, f_, f_, f_, f_, f_, f_, f_, f_, f_] rfl rfl (any_of HT_.out (by kernel_rfl)) (fun _ _ _ h => h) (Or.inl ⟨by rfl, ?_⟩) ?_ ?_
               rotate_left
               · intro w'
                 go_simp
                 with_reducible rfl
               rotate_left
               · simp only [Act.put, List.setIfInBounds_toArray, List.set_cons_zero, List.set_cons_succ, i64_w, i32_w]
                 rfl
               refine pure_ (i := 11) (N := some 28) (v := ?_) (a' := ?_) #[t_, t_, t_, t_, t_, t_, t_, t_, t_, t_, t_, t_, f_, f_, f_, f_, f_, f_, f_, f_, f_, f_, f_, f_, f_, f_, f_, f_, f_, f_, f_, f_, f_, f_, f_, f_, f_, f_, f_, f_, f_, f_, f_, f_, f_, f_, f_, f_, f_, f_, f_, f_] rfl rfl (any_of HT_.out (by kernel_rfl)) (fun _ _ _ h => h) (Or.inl ⟨by rfl, ?_⟩) ?_ ?_
               rotate_left
               · intro w'
                 go_simp
                 with_reducible rfl
               rotate_left
               · simp only [Act.put, List.setIfInBounds_toArray, List.set_cons_zero, List.set_cons_succ, i64_w, i32_w]
                 rfl
               refine pure_ (i := 12) (N := some 29) (v := ?_) (a' := ?_) #[t_, t_, t_, t_, t_, t_, t_, t_, t_, t_, t_, t_, t_, f_, f_, f_, f_, f_, f_, f_, f_, f_, f_, f_, f_, f_, f_, f_, f_, f_, f_, f_, f_, f_, f_, f_, f_, f_, f_, f_, f_, f_, f_, f_, f_, f_, f_, f_, f_, f_, f_, f_] rfl rfl (any_of HT_.out (by kernel_rfl)) (fun _ _ _ h => h) (Or.inl ⟨by rfl, ?_⟩) ?_ ?_
               rotate_left
               · intro w'
                 go_simp
                 with_reducible rfl
               rotate_left
               · simp only [Act.put, List.setIfInBounds_toArray, List.set_cons_zero, List.set_cons_succ, i64_w, i32_w]
                 rfl
               refine pure_ (i := 13) (N := some 30) (v := ?_) (a' := ?_) #[t_, t_, t_, t_, t_, t_, t_, t_, t_, t_, t_, t_, t_, t_, f_, f_, f_, f_, f_, f_, f_, f_, f_, f_, f_, f_, f_, f_, f_, f_, f_, f_, f_, f_, f_, f_, f_, f_, f_, f_, f_, f_, f_, f_, f_, f_, f_, f_, f_, f_, f_, f_] rfl rfl (any_of HT_.out (by kernel_rfl)) (fun _ _ _ h => h) (Or.inl ⟨by rfl, ?_⟩) ?_ ?_
               rotate_left
               · intro w'
                 go_simp
                 with_reducible rfl
               rotate_left
               · simp only [Act.put, List.setIfInBounds_toArray, List.set_cons_zero, List.set_cons_succ, i64_w, i32_w]
                 rfl
               refine pure_ (i := 14) (N := some 31) (v := ?_) (a' := ?_) #[t_, t_, t_, t_, t_, t_, t_, t_, t_, t_, t_, t_, t_, t_, t_, f_, f_, f_, f_, f_, f_, f_, f_, f_, f_, f_, f_, f_, f_, f_, f_, f_, f_, f_, f_, f_, f_, f_, f_, f_, f_, f_, f_, f_, f_, f_, f_, f_, f_, f_, f_, f_] rfl rfl (any_of HT_.out (by kernel_rfl)) (fun _ _ _ h => h) (Or.inl ⟨by rfl, ?_⟩) ?_ ?_
               rotate_left
               · intro w'
                 go_simp
                 with_reducible rfl
               rotate_left
               · simp only [Act.put, List.setIfInBounds_toArray, List.set_cons_zero, List.set_cons_succ, i64_w, i32_w]
                 rfl
               refine pure_ (i := 15) (N := some 32) (v := ?_) (a' := ?_) #[t_, t_, t_, t_, t_, t_, t_, t_, t_, t_, t_, t_, t_, t_, t_, t_, f_, f_, f_, f_, f_, f_, f_, f_, f_, f_, f_, f_, f_, f_, f_, f_, f_, f_, f_, f_, f_, f_, f_, f_, f_, f_, f_, f_, f_, f_, f_, f_, f_, f_, f_, f_] rfl rfl (any_of HT_.out (by kernel_rfl)) (fun _ _ _ h => h) (Or.inl ⟨by rfl, ?_⟩) ?_ ?_
               rotate_left
               · intro w'
                 go_simp
                 with_reducible rfl
               rotate_left
               · simp only [Act.put, List.setIfInBounds_toArray, List.set_cons_zero, List.set_cons_succ, i64_w, i32_w]
                 rfl
               refine pure_ (i := 17) (N := some 34) (v := ?_) (a' := ?_) #[t_, t_, t_, t_, t_, t_, t_, t_, t_, t_, t_, t_, t_, t_, t_, t_, f_, t_, f_, f_, f_, f_, f_, f_, f_, f_, f_, f_, f_, f_, f_, f_, f_, f_, f_, f_, f_, f_, f_, f_, f_, f_, f_, f_, f_, f_, f_, f_, f_, f_, f_, f_] rfl rfl (any_of HT_.out (by kernel_rfl)) (fun _ _ _ h => h) (Or.inl ⟨by rfl, ?_⟩) ?_ ?_
               rotate_left
               · intro w'
                 go_simp
                 with_reducible rfl
               rotate_left
               · simp only [Act.put, List.setIfInBounds_toArray, List.set_cons_zero, List.set_cons_succ, i64_w, i32_w]
                 rfl
               refine pure_ (i := 18) (N := some 35) (v := ?_) (a' := ?_) #[t_, t_, t_, t_, t_, t_, t_, t_, t_, t_, t_, t_, t_, t_, t_, t_, f_, t_, t_, f_, f_, f_, f_, f_, f_, f_, f_, f_, f_, f_, f_, f_, f_, f_, f_, f_, f_, f_, f_, f_, f_, f_, f_, f_, f_, f_, f_, f_, f_, f_, f_, f_] rfl rfl (any_of HT_.out (by kernel_rfl)) (fun _ _ _ h => h) (Or.inl ⟨by rfl, ?_⟩) ?_ ?_
               rotate_left
               · intro w'
                 go_simp
                 with_reducible rfl
               rotate_left
               · simp only [Act.put, List.setIfInBounds_toArray, List.set_cons_zero, List.set_cons_succ, i64_w, i32_w]
                 rfl
               refine pure_ (i := 19) (N := some 36) (v := ?_) (a' := ?_) #[t_, t_, t_, t_, t_, t_, t_, t_, t_, t_, t_, t_, t_, t_, t_, t_, f_, t_, t_, t_, f_, f_, f_, f_, f_, f_, f_, f_, f_, f_, f_, f_, f_, f_, f_, f_, f_, f_, f_, f_, f_, f_, f_, f_, f_, f_, f_, f_, f_, f_, f_, f_] rfl rfl (any_of HT_.out (by kernel_rfl)) (fun _ _ _ h => h) (Or.inl ⟨by rfl, ?_⟩) ?_ ?_
               rotate_left
               · intro w'
                 go_simp
                 with_reducible rfl
               rotate_left
               · simp only [Act.put, List.setIfInBounds_toArray, List.set_cons_zero, List.set_cons_succ, i64_w, i32_w]
                 rfl
               refine pure_ (i := 20) (N := some 37) (v := ?_) (a' := ?_) #[t_, t_, t_, t_, t_, t_, t_, t_, t_, t_, t_, t_, t_, t_, t_, t_, f_, t_, t_, t_, t_, f_, f_, f_, f_, f_, f_, f_, f_, f_, f_, f_, f_, f_, f_, f_, f_, f_, f_, f_, f_, f_, f_, f_, f_, f_, f_, f_, f_, f_, f_, f_] rfl rfl (any_of HT_.out (by kernel_rfl)) (fun _ _ _ h => h) (Or.inl ⟨by rfl, ?_⟩) ?_ ?_
               rotate_left
               · intro w'
                 go_simp
                 with_reducible rfl
               rotate_left
               · simp only [Act.put, List.setIfInBounds_toArray, List.set_cons_zero, List.set_cons_succ, i64_w, i32_w]
                 rfl
               refine take_ (i := 16) (N := some 33) (v := ?_) (a' := ?_) #[t_, t_, t_, t_, t_, t_, t_, t_, t_, t_, t_, t_, t_, t_, t_, t_, t_, t_, t_, t_, t_, f_, f_, f_, f_, f_, f_, f_, f_, f_, f_, f_, f_, f_, f_, f_, f_, f_, f_, f_, f_, f_, f_, f_, f_, f_, f_, f_, f_, f_, f_, f_] rfl rfl (take_ofW HT_.out HW_.out (by kernel_rfl)) (fun _ _ _ h => h) (Or.inl ⟨by rfl, ?_⟩) hHeld ?_ ?_
               rotate_left
               · rintro w' ⟨s0, s1, s2, s3, s4, s5, s6, s7, s8, s9, s10, s11, s12, s13, s14, s15⟩
                 go_simp
                 with_reducible rfl
               rotate_left
               · simp only [Act.put, List.setIfInBounds_toArray, List.set_cons_zero, List.set_cons_succ, i64_w, i32_w]
                 rfl
               refine take_ (i := 21) (N := some 38) (v := ?_) (a' := ?_) #[t_, t_, t_, t_, t_, t_, t_, t_, t_, t_, t_, t_, t_, t_, t_, t_, t_, t_, t_, t_, t_, t_, f_, f_, f_, f_, f_, f_, f_, f_, f_, f_, f_, f_, f_, f_, f_, f_, f_, f_, f_, f_, f_, f_, f_, f_, f_, f_, f_, f_, f_, f_] rfl rfl (take_ofW HT_.out HW_.out (by kernel_rfl)) (fun _ _ _ h => h) (Or.inl ⟨by rfl, ?_⟩) hHeld ?_ ?_
               rotate_left
               · rintro w' ⟨s0, s1, s2, s3, s4, s5, s6, s7, s8, s9, s10, s11, s12, s13, s14, s15⟩
                 go_simp
                 with_reducible rfl
               rotate_left
               · simp only [Act.put, List.setIfInBounds_toArray, List.set_cons_zero, List.set_cons_succ, i64_w, i32_w]
                 rfl
               refine pure_ (i := 22) (N := some 39) (v := ?_) (a' := ?_) #[t_, t_, t_, t_, t_, t_, t_, t_, t_, t_, t_, t_, t_, t_, t_, t_, t_, t_, t_, t_, t_, t_, t_, f_, f_, f_, f_, f_, f_, f_, f_, f_, f_, f_, f_, f_, f_, f_, f_, f_, f_, f_, f_, f_, f_, f_, f_, f_, f_, f_, f_, f_] rfl rfl (any_of HT_.out (by kernel_rfl)) (fun _ _ _ h => h) (Or.inl ⟨by rfl, ?_⟩) ?_ ?_
               rotate_left
               · intro w'
                 go_simp
                 with_reducible rfl
               rotate_left
               · simp only [Act.put, List.setIfInBounds_toArray, List.set_cons_zero, List.set_cons_succ, i64_w, i32_w]
                 rfl
               refine pure_ (i := 23) (N := some 40) (v := ?_) (a' := ?_) #[t_, t_, t_, t_, t_, t_, t_, t_, t_, t_, t_, t_, t_, t_, t_, t_, t_, t_, t_, t_, t_, t_, t_, t_, f_, f_, f_, f_, f_, f_, f_, f_, f_, f_, f_, f_, f_, f_, f_, f_, f_, f_, f_, f_, f_, f_, f_, f_, f_, f_, f_, f_] rfl rfl (any_of HT_.out (by kernel_rfl)) (fun _ _ _ h => h) (Or.inl ⟨by rfl, ?_⟩) ?_ ?_
               rotate_left
               · intro w'
                 go_simp
                 with_reducible rfl
               rotate_left
               · simp only [Act.put, List.setIfInBounds_toArray, List.set_cons_zero, List.set_cons_succ, i64_w, i32_w]
                 rfl
               refine pure_ (i := 24) (N := some 41) (v := ?_) (a' := ?_) #[t_, t_, t_, t_, t_, t_, t_, t_, t_, t_, t_, t_, t_, t_, t_, t_, t_, t_, t_, t_, t_, t_, t_, t_, t_, f_, f_, f_, f_, f_, f_, f_, f_, f_, f_, f_, f_, f_, f_, f_, f_, f_, f_, f_, f_, f_, f_, f_, f_, f_, f_, f_] rfl rfl (any_of HT_.out (by kernel_rfl)) (fun _ _ _ h => h) (Or.inl ⟨by rfl, ?_⟩) ?_ ?_
               rotate_left
               · intro w'
                 go_simp
                 with_reducible rfl
               rotate_left
               · simp only [Act.put, List.setIfInBounds_toArray, List.set_cons_zero, List.set_cons_succ, i64_w, i32_w]
                 rfl
               refine pure_ (i := 25) (N := some 42) (v := undef) (a' := ?_) #[t_, t_, t_, t_, t_, t_, t_, t_, t_, t_, t_, t_, t_, t_, t_, t_, t_, t_, t_, t_, t_, t_, t_, t_, t_, t_, f_, f_, f_, f_, f_, f_, f_, f_, f_, f_, f_, f_, f_, f_, f_, f_, f_, f_, f_, f_, f_, f_, f_, f_, f_, f_] rfl rfl (any_of HT_.out (by kernel_rfl)) (fun _ _ _ h => h) (Or.inr ⟨by rfl, rfl⟩) ?_ ?_
               rotate_left
               · simp only [Act.put, List.setIfInBounds_toArray, List.set_cons_zero, List.set_cons_succ, i64_w, i32_w]
                 rfl
               refine pure_ (i := 26) (N := some 43) (v := undef) (a' := ?_) #[t_, t_, t_, t_, t_, t_, t_, t_, t_, t_, t_, t_, t_, t_, t_, t_, t_, t_, t_, t_, t_, t_, t_, t_, t_, t_, t_, f_, f_, f_, f_, f_, f_, f_, f_, f_, f_, f_, f_, f_, f_, f_, f_, f_, f_, f_, f_, f_, f_, f_, f_, f_] rfl rfl (any_of HT_.out (by kernel_rfl)) (fun _ _ _ h => h) (Or.inr ⟨by rfl, rfl⟩) ?_ ?_
               rotate_left
               · simp only [Act.put, List.setIfInBounds_toArray, List.set_cons_zero, List.set_cons_succ, i64_w, i32_w]
                 rfl
               refine pure_ (i := 27) (N := some 44) (v := undef) (a' := ?_) #[t_, t_, t_, t_, t_, t_, t_, t_, t_, t_, t_, t_, t_, t_, t_, t_, t_, t_, t_, t_, t_, t_, t_, t_, t_, t_, t_, t_, f_, f_, f_, f_, f_, f_, f_, f_, f_, f_, f_, f_, f_, f_, f_, f_, f_, f_, f_, f_, f_, f_, f_, f_] rfl rfl (any_of HT_.out (by kernel_rfl)) (fun _ _ _ h => h) (Or.inr ⟨by rfl, rfl⟩) ?_ ?_
               rotate_left
               · simp only [Act.put, List.setIfInBounds_toArray, List.set_cons_zero, List.set_cons_succ, i64_w, i32_w]
                 rfl
               refine pure_ (i := 28) (N := some 45) (v := undef) (a' := ?_) #[t_, t_, t_, t_, t_, t_, t_, t_, t_, t_, t_, t_, t_, t_, t_, t_, t_, t_, t_, t_, t_, t_, t_, t_, t_, t_, t_, t_, t_, f_, f_, f_, f_, f_, f_, f_, f_, f_, f_, f_, f_, f_, f_, f_, f_, f_, f_, f_, f_, f_, f_, f_] rfl rfl (any_of HT_.out (by kernel_rfl)) (fun _ _ _ h => h) (Or.inr ⟨by rfl, rfl⟩) ?_ ?_
               rotate_left
               · simp only [Act.put, List.setIfInBounds_toArray, List.set_cons_zero, List.set_cons_succ, i64_w, i32_w]
                 rfl
               refine pure_ (i := 29) (N := some 46) (v := undef) (a' := ?_) #[t_, t_, t_, t_, t_, t_, t_, t_, t_, t_, t_, t_, t_, t_, t_, t_, t_, t_, t_, t_, t_, t_, t_, t_, t_, t_, t_, t_, t_, t_, f_, f_, f_, f_, f_, f_, f_, f_, f_, f_, f_, f_, f_, f_, f_, f_, f_, f_, f_, f_, f_, f_] rfl rfl (any_of HT_.out (by kernel_rfl)) (fun _ _ _ h => h) (Or.inr ⟨by rfl, rfl⟩) ?_ ?_
               rotate_left
               · simp only [Act.put, List.setIfInBounds_toArray, List.set_cons_zero, List.set_cons_succ, i64_w, i32_w]
                 rfl
               refine pure_ (i := 30) (N := some 47) (v := undef) (a' := ?_) #[t_, t_, t_, t_, t_, t_, t_, t_, t_, t_, t_, t_, t_, t_, t_, t_, t_, t_, t_, t_, t_, t_, t_, t_, t_, t_, t_, t_, t_, t_, t_, f_, f_, f_, f_, f_, f_, f_, f_, f_, f_, f_, f_, f_, f_, f_, f_, f_, f_, f_, f_, f_] rfl rfl (any_of HT_.out (by kernel_rfl)) (fun _ _ _ h => h) (Or.inr ⟨by rfl, rfl⟩) ?_ ?_
               rotate_left
               · simp only [Act.put, List.setIfInBounds_toArray, List.set_cons_zero, List.set_cons_succ, i64_w, i32_w]
                 rfl
               refine pure_ (i := 31) (N := some 48) (v := undef) (a' := ?_) #[t_, t_, t_, t_, t_, t_, t_, t_, t_, t_, t_, t_, t_, t_, t_, t_, t_, t_, t_, t_, t_, t_, t_, t_, t_, t_, t_, t_, t_, t_, t_, t_, f_, f_, f_, f_, f_, f_, f_, f_, f_, f_, f_, f_, f_, f_, f_, f_, f_, f_, f_, f_] rfl rfl (any_of HT_.out (by kernel_rfl)) (fun _ _ _ h => h) (Or.inr ⟨by rfl, rfl⟩) ?_ ?_
               rotate_left
               · simp only [Act.put, List.setIfInBounds_toArray, List.set_cons_zero, List.set_cons_succ, i64_w, i32_w]
                 rfl
               refine pure_ (i := 32) (N := some 49) (v := undef) (a' := ?_) #[t_, t_, t_, t_, t_, t_, t_, t_, t_, t_, t_, t_, t_, t_, t_, t_, t_, t_, t_, t_, t_, t_, t_, t_, t_, t_, t_, t_, t_, t_, t_, t_, t_, f_, f_, f_, f_, f_, f_, f_, f_, f_, f_, f_, f_, f_, f_, f_, f_, f_, f_, f_] rfl rfl (any_of HT_.out (by kernel_rfl)) (fun _ _ _ h => h) (Or.inr ⟨by rfl, rfl⟩) ?_ ?_
               rotate_left
               · simp only [Act.put, List.setIfInBounds_toArray, List.set_cons_zero, List.set_cons_succ, i64_w, i32_w]
                 rfl
               refine pure_ (i := 33) (N := some 50) (v := undef) (a' := ?_) #[t_, t_, t_, t_, t_, t_, t_, t_, t_, t_, t_, t_, t_, t_, t_, t_, t_, t_, t_, t_, t_, t_, t_, t_, t_, t_, t_, t_, t_, t_, t_, t_, t_, t_, f_, f_, f_, f_, f_, f_, f_, f_, f_, f_, f_, f_, f_, f_, f_, f_, f_, f_] rfl rfl (any_of HT_.out (by kernel_rfl)) (fun _ _ _ h => h) (Or.inr ⟨by rfl, rfl⟩) ?_ ?_
               rotate_left
               · simp only [Act.put, List.setIfInBounds_toArray, List.set_cons_zero, List.set_cons_succ, i64_w, i32_w]
                 rfl
               refine pure_ (i := 34) (N := some 51) (v := undef) (a' := ?_) #[t_, t_, t_, t_, t_, t_, t_, t_, t_, t_, t_, t_, t_, t_, t_, t_, t_, t_, t_, t_, t_, t_, t_, t_, t_, t_, t_, t_, t_, t_, t_, t_, t_, t_, t_, f_, f_, f_, f_, f_, f_, f_, f_, f_, f_, f_, f_, f_, f_, f_, f_, f_] rfl rfl (any_of HT_.out (by kernel_rfl)) (fun _ _ _ h => h) (Or.inr ⟨by rfl, rfl⟩) ?_ ?_
               rotate_left
               · simp only [Act.put, List.setIfInBounds_toArray, List.set_cons_zero, List.set_cons_succ, i64_w, i32_w]
                 rfl
               refine pure_ (i := 35) (N := some 52) (v := undef) (a' := ?_) #[t_, t_, t_, t_, t_, t_, t_, t_, t_, t_, t_, t_, t_, t_, t_, t_, t_, t_, t_, t_, t_, t_, t_, t_, t_, t_, t_, t_, t_, t_, t_, t_, t_, t_, t_, t_, f_, f_, f_, f_, f_, f_, f_, f_, f_, f_, f_, f_, f_, f_, f_, f_] rfl rfl (any_of HT_.out (by kernel_rfl)) (fun _ _ _ h => h) (Or.inr ⟨by rfl, rfl⟩) ?_ ?_
               rotate_left
               · simp only [Act.put, List.setIfInBounds_toArray, List.set_cons_zero, List.set_cons_succ, i64_w, i32_w]
                 rfl
               refine pure_ (i := 36) (N := some 53) (v := undef) (a' := ?_) #[t_, t_, t_, t_, t_, t_, t_, t_, t_, t_, t_, t_, t_, t_, t_, t_, t_, t_, t_, t_, t_, t_, t_, t_, t_, t_, t_, t_, t_, t_, t_, t_, t_, t_, t_, t_, t_, f_, f_, f_, f_, f_, f_, f_, f_, f_, f_, f_, f_, f_, f_, f_] rfl rfl (any_of HT_.out (by kernel_rfl)) (fun _ _ _ h => h) (Or.inr ⟨by rfl, rfl⟩) ?_ ?_
               rotate_left
               · simp only [Act.put, List.setIfInBounds_toArray, List.set_cons_zero, List.set_cons_succ, i64_w, i32_w]
                 rfl
               refine pure_ (i := 37) (N := some 54) (v := ?_) (a' := ?_) #[t_, t_, t_, t_, t_, t_, t_, t_, t_, t_, t_, t_, t_, t_, t_, t_, t_, t_, t_, t_, t_, t_, t_, t_, t_, t_, t_, t_, t_, t_, t_, t_, t_, t_, t_, t_, t_, t_, f_, f_, f_, f_, f_, f_, f_, f_, f_, f_, f_, f_, f_, f_] rfl rfl (any_of HT_.out (by kernel_rfl)) (fun _ _ _ h => h) (Or.inl ⟨by rfl, ?_⟩) ?_ ?_
               rotate_left
               · intro w'
                 go_simp
                 with_reducible rfl
               rotate_left
               · simp only [Act.put, List.setIfInBounds_toArray, List.set_cons_zero, List.set_cons_succ, i64_w, i32_w]
                 rfl
               refine pure_ (i := 38) (N := some 55) (v := ?_) (a' := ?_) #[t_, t_, t_, t_, t_, t_, t_, t_, t_, t_, t_, t_, t_, t_, t_, t_, t_, t_, t_, t_, t_, t_, t_, t_, t_, t_, t_, t_, t_, t_, t_, t_, t_, t_, t_, t_, t_, t_, t_, f_, f_, f_, f_, f_, f_, f_, f_, f_, f_, f_, f_, f_] rfl rfl (any_of HT_.out (by kernel_rfl)) (fun _ _ _ h => h) (Or.inl ⟨by rfl, ?_⟩) ?_ ?_
               rotate_left
               · intro w'
                 go_simp
                 with_reducible rfl
               rotate_left
               · simp only [Act.put, List.setIfInBounds_toArray, List.set_cons_zero, List.set_cons_succ, i64_w, i32_w]
                 rfl
               refine pure_ (i := 39) (N := some 56) (v := undef) (a' := ?_) #[t_, t_, t_, t_, t_, t_, t_, t_, t_, t_, t_, t_, t_, t_, t_, t_, t_, t_, t_, t_, t_, t_, t_, t_, t_, t_, t_, t_, t_, t_, t_, t_, t_, t_, t_, t_, t_, t_, t_, t_, f_, f_, f_, f_, f_, f_, f_, f_, f_, f_, f_, f_] rfl rfl (any_of HT_.out (by kernel_rfl)) (fun _ _ _ h => h) (Or.inr ⟨by rfl, rfl⟩) ?_ ?_
               rotate_left
               · simp only [Act.put, List.setIfInBounds_toArray, List.set_cons_zero, List.set_cons_succ, i64_w, i32_w]
                 rfl
               refine pure_ (i := 40) (N := some 57) (v := undef) (a' := ?_) #[t_, t_, t_, t_, t_, t_, t_, t_, t_, t_, t_, t_, t_, t_, t_, t_, t_, t_, t_, t_, t_, t_, t_, t_, t_, t_, t_, t_, t_, t_, t_, t_, t_, t_, t_, t_, t_, t_, t_, t_, t_, f_, f_, f_, f_, f_, f_, f_, f_, f_, f_, f_] rfl rfl (any_of HT_.out (by kernel_rfl)) (fun _ _ _ h => h) (Or.inr ⟨by rfl, rfl⟩) ?_ ?_
               rotate_left
               · simp only [Act.put, List.setIfInBounds_toArray, List.set_cons_zero, List.set_cons_succ, i64_w, i32_w]
                 rfl
               refine pure_ (i := 41) (N := some 58) (v := undef) (a' := ?_) #[t_, t_, t_, t_, t_, t_, t_, t_, t_, t_, t_, t_, t_, t_, t_, t_, t_, t_, t_, t_, t_, t_, t_, t_, t_, t_, t_, t_, t_, t_, t_, t_, t_, t_, t_, t_, t_, t_, t_, t_, t_, t_, f_, f_, f_, f_, f_, f_, f_, f_, f_, f_] rfl rfl (any_of HT_.out (by kernel_rfl)) (fun _ _ _ h => h) (Or.inr ⟨by rfl, rfl⟩) ?_ ?_
               rotate_left
               · simp only [Act.put, List.setIfInBounds_toArray, List.set_cons_zero, List.set_cons_succ, i64_w, i32_w]
                 rfl
               refine pure_ (i := 42) (N := some 59) (v := undef) (a' := ?_) #[t_, t_, t_, t_, t_, t_, t_, t_, t_, t_, t_, t_, t_, t_, t_, t_, t_, t_, t_, t_, t_, t_, t_, t_, t_, t_, t_, t_, t_, t_, t_, t_, t_, t_, t_, t_, t_, t_, t_, t_, t_, t_, t_, f_, f_, f_, f_, f_, f_, f_, f_, f_] rfl rfl (any_of HT_.out (by kernel_rfl)) (fun _ _ _ h => h) (Or.inr ⟨by rfl, rfl⟩) ?_ ?_
               rotate_left
               · simp only [Act.put, List.setIfInBounds_toArray, List.set_cons_zero, List.set_cons_succ, i64_w, i32_w]
                 rfl
               refine pure_ (i := 43) (N := some 60) (v := undef) (a' := ?_) #[t_, t_, t_, t_, t_, t_, t_, t_, t_, t_, t_, t_, t_, t_, t_, t_, t_, t_, t_, t_, t_, t_, t_, t_, t_, t_, t_, t_, t_, t_, t_, t_, t_, t_, t_, t_, t_, t_, t_, t_, t_, t_, t_, t_, f_, f_, f_, f_, f_, f_, f_, f_] rfl rfl (any_of HT_.out (by kernel_rfl)) (fun _ _ _ h => h) (Or.inr ⟨by rfl, rfl⟩) ?_ ?_
               rotate_left
               · simp only [Act.put, List.setIfInBounds_toArray, List.set_cons_zero, List.set_cons_succ, i64_w, i32_w]
                 rfl
               refine pure_ (i := 44) (N := some 61) (v := undef) (a' := ?_) #[t_, t_, t_, t_, t_, t_, t_, t_, t_, t_, t_, t_, t_, t_, t_, t_, t_, t_, t_, t_, t_, t_, t_, t_, t_, t_, t_, t_, t_, t_, t_, t_, t_, t_, t_, t_, t_, t_, t_, t_, t_, t_, t_, t_, t_, f_, f_, f_, f_, f_, f_, f_] rfl rfl (any_of HT_.out (by kernel_rfl)) (fun _ _ _ h => h) (Or.inr ⟨by rfl, rfl⟩) ?_ ?_
               rotate_left
               · simp only [Act.put, List.setIfInBounds_toArray, List.set_cons_zero, List.set_cons_succ, i64_w, i32_w]
                 rfl
               refine pure_ (i := 45) (N := some 62) (v := undef) (a' := ?_) #[t_, t_, t_, t_, t_, t_, t_, t_, t_, t_, t_, t_, t_, t_, t_, t_, t_, t_, t_, t_, t_, t_, t_, t_, t_, t_, t_, t_, t_, t_, t_, t_, t_, t_, t_, t_, t_, t_, t_, t_, t_, t_, t_, t_, t_, t_, f_, f_, f_, f_, f_, f_] rfl rfl (any_of HT_.out (by kernel_rfl)) (fun _ _ _ h => h) (Or.inr ⟨by rfl, rfl⟩) ?_ ?_
               rotate_left
               · simp only [Act.put, List.setIfInBounds_toArray, List.set_cons_zero, List.set_cons_succ, i64_w, i32_w]
                 rfl
               refine pure_ (i := 46) (N := some 63) (v := undef) (a' := ?_) #[t_, t_, t_, t_, t_, t_, t_, t_, t_, t_, t_, t_, t_, t_, t_, t_, t_, t_, t_, t_, t_, t_, t_, t_, t_, t_, t_, t_, t_, t_, t_, t_, t_, t_, t_, t_, t_, t_, t_, t_, t_, t_, t_, t_, t_, t_, t_, f_, f_, f_, f_, f_] rfl rfl (any_of HT_.out (by kernel_rfl)) (fun _ _ _ h => h) (Or.inr ⟨by rfl, rfl⟩) ?_ ?_
               rotate_left
               · simp only [Act.put, List.setIfInBounds_toArray, List.set_cons_zero, List.set_cons_succ, i64_w, i32_w]
                 rfl
               refine pure_ (i := 47) (N := some 64) (v := undef) (a' := ?_) #[t_, t_, t_, t_, t_, t_, t_, t_, t_, t_, t_, t_, t_, t_, t_, t_, t_, t_, t_, t_, t_, t_, t_, t_, t_, t_, t_, t_, t_, t_, t_, t_, t_, t_, t_, t_, t_, t_, t_, t_, t_, t_, t_, t_, t_, t_, t_, t_, f_, f_, f_, f_] rfl rfl (any_of HT_.out (by kernel_rfl)) (fun _ _ _ h => h) (Or.inr ⟨by rfl, rfl⟩) ?_ ?_
               rotate_left
               · simp only [Act.put, List.setIfInBounds_toArray, List.set_cons_zero, List.set_cons_succ, i64_w, i32_w]
                 rfl
               refine pure_ (i := 48) (N := some 65) (v := undef) (a' := ?_) #[t_, t_, t_, t_, t_, t_, t_, t_, t_, t_, t_, t_, t_, t_, t_, t_, t_, t_, t_, t_, t_, t_, t_, t_, t_, t_, t_, t_, t_, t_, t_, t_, t_, t_, t_, t_, t_, t_, t_, t_, t_, t_, t_, t_, t_, t_, t_, t_, t_, f_, f_, f_] rfl rfl (any_of HT_.out (by kernel_rfl)) (fun _ _ _ h => h) (Or.inr ⟨by rfl, rfl⟩) ?_ ?_
               rotate_left
               · simp only [Act.put, List.setIfInBounds_toArray, List.set_cons_zero, List.set_cons_succ, i64_w, i32_w]
                 rfl
               refine pure_ (i := 49) (N := some 66) (v := undef) (a' := ?_) #[t_, t_, t_, t_, t_, t_, t_, t_, t_, t_, t_, t_, t_, t_, t_, t_, t_, t_, t_, t_, t_, t_, t_, t_, t_, t_, t_, t_, t_, t_, t_, t_, t_, t_, t_, t_, t_, t_, t_, t_, t_, t_, t_, t_, t_, t_, t_, t_, t_, t_, f_, f_] rfl rfl (any_of HT_.out (by kernel_rfl)) (fun _ _ _ h => h) (Or.inr ⟨by rfl, rfl⟩) ?_ ?_
               rotate_left
               · simp only [Act.put, List.setIfInBounds_toArray, List.set_cons_zero, List.set_cons_succ, i64_w, i32_w]
                 rfl
               refine pure_ (i := 50) (N := some 67) (v := undef) (a' := ?_) #[t_, t_, t_, t_, t_, t_, t_, t_, t_, t_, t_, t_, t_, t_, t_, t_, t_, t_, t_, t_, t_, t_, t_, t_, t_, t_, t_, t_, t_, t_, t_, t_, t_, t_, t_, t_, t_, t_, t_, t_, t_, t_, t_, t_, t_, t_, t_, t_, t_, t_, t_, f_] rfl rfl (any_of HT_.out (by kernel_rfl)) (fun _ _ _ h => h) (Or.inr ⟨by rfl, rfl⟩) ?_ ?_
               rotate_left
               · simp only [Act.put, List.setIfInBounds_toArray, List.set_cons_zero, List.set_cons_succ, i64_w, i32_w]
                 rfl
               refine pure_ (i := 51) (N := some 68) (v := ?_) (a' := ?_) #[t_, t_, t_, t_, t_, t_, t_, t_, t_, t_, t_, t_, t_, t_, t_, t_, t_, t_, t_, t_, t_, t_, t_, t_, t_, t_, t_, t_, t_, t_, t_, t_, t_, t_, t_, t_, t_, t_, t_, t_, t_, t_, t_, t_, t_, t_, t_, t_, t_, t_, t_, t_] rfl rfl (any_of HT_.out (by kernel_rfl)) (fun _ _ _ h => h) (Or.inl ⟨by rfl, ?_⟩) ?_ ?_
               rotate_left
               · intro w'
                 go_simp
                 with_reducible rfl
               rotate_left
               · simp only [Act.put, List.setIfInBounds_toArray, List.set_cons_zero, List.set_cons_succ, i64_w, i32_w]
                 rfl
               refine done_ (done_of HT_.out (by kernel_rfl)) ?_
               try go_wp2
               go_ret
               exact ⟨by first | rfl | (simp [errW_none, errW_some] <;> rfl) | (simp [*, errW_none, errW_some] <;> rfl), by repeat (first | (with_reducible first | exact HB.out | apply below_alloc | apply pw_below_drewN | apply below_drew1) | exact HB.out)⟩
             · rw [if_neg c8] at H
               have c8b0 : (((rd_T34 l0 x5_1).f1) != ((rd_T34 l1 x5_1).f1)) = false := by simpa using c8
               (try (have c8b1 : decide (((rd_T34 l0 x5_1).f1) = ((rd_T34 l1 x5_1).f1)) = true := by simpa using c8))
               (try (have c8b2 : (((rd_T34 l0 x5_1).f1) == ((rd_T34 l1 x5_1).f1)) = true := by simpa using c8))
               clear c8
               replace H := Option.bind_eq_some_iff.mp H
               obtain ⟨t109, A100, H⟩ := H
               replace H : (if t109 = true then ((spec_Same.f k1 ((rd_T34 l0 x5_1).f3) ((rd_T34 l1 x5_1).f3)).bind fun t112 => (if t112 = true then (spec_SeenSame.l0 k1 l0 l1 (wrap64 (x5_1 + 1))) else (some false))) else (some false)) = some r := H
               have A10 := A0_ A100
               clear A100
               by_cases c11 : t109 = true
               · subst c11
                 have H1 : ((spec_Same.f k1 ((rd_T34 l0 x5_1).f3) ((rd_T34 l1 x5_1).f3)).bind fun t112 => (if t112 = true then (spec_SeenSame.l0 k1 l0 l1 (wrap64 (x5_1 + 1))) else (some false))) = some r := by rw [if_pos rfl] at H; exact H
                 clear H
                 have H := H1
                 clear H1
                 replace H := Option.bind_eq_some_iff.mp H
                 obtain ⟨t112, A120, H⟩ := H
                 replace H : (if t112 = true then (spec_SeenSame.l0 k1 l0 l1 (wrap64 (x5_1 + 1))) else (some false)) = some r := H
                 have A12 := A0_ A120
                 clear A120
                 by_cases c13 : t112 = true
                 · subst c13
                   have H1 : (spec_SeenSame.l0 k1 l0 l1 (wrap64 (x5_1 + 1))) = some r := by rw [if_pos rfl] at H; exact H
                   clear H
                   have H := H1
                   clear H1
                   have H' := A0_ H
                   clear H
                   try go_wp2
                   have n0_ := A0_ (below_drew1 HB.out)
                   clear HB
                   have HB := n0_
                   clear n0_
                   have p103 : 0 ≤ (x5_1 : Int) := od_ (by first | (with_reducible assumption) | assumption)
                   have q103 : x5_1 < (l0.length : Int) := od_ (by first | (with_reducible assumption) | assumption)
                   obtain ⟨ad103, A103_2, c103_2, A103_3, c103_3, e103, hx103_0, hx103_1, hx103_2, hx103_3, hl103_2, hi103_2, hl103_3, hi103_3⟩ := at_T34 HR0.out x5_1 p103 q103
                   have hw103_3 := hx103_3
                   have hw103_2 := hx103_2
                   have hw103_1 := hx103_1
                   have hw103_0 := hx103_0
                   cases e103
                   replace hx103_0 := (HB.out.cell (bl_ w _ hx103_0)).trans hx103_0
                   replace hx103_1 := (HB.out.cell (bl_ w _ hx103_1)).trans hx103_1
                   replace hx103_2 := (HB.out.cell (bl_ w _ hx103_2)).trans hx103_2
                   replace hx103_3 := (HB.out.cell (bl_ w _ hx103_3)).trans hx103_3
                   have HR103_2 := A0_ hi103_2
                   have HC103_2 := A0_ hl103_2
                   clear hi103_2 hl103_2
                   have HR103_3 := A0_ hi103_3
                   have HC103_3 := A0_ hl103_3
                   clear hi103_3 hl103_3
                   replace p103 := eq_true p103
                   replace q103 := eq_true q103
                   have p104 : 0 ≤ (x5_1 : Int) := od_ (by first | (with_reducible assumption) | assumption)
                   have q104 : x5_1 < (l1.length : Int) := od_ (by first | (with_reducible assumption) | assumption)
                   obtain ⟨ad104, A104_2, c104_2, A104_3, c104_3, e104, hx104_0, hx104_1, hx104_2, hx104_3, hl104_2, hi104_2, hl104_3, hi104_3⟩ := at_T34 HR1.out x5_1 p104 q104
                   have hw104_3 := hx104_3
                   have hw104_2 := hx104_2
                   have hw104_1 := hx104_1
                   have hw104_0 := hx104_0
                   cases e104
                   replace hx104_0 := (HB.out.cell (bl_ w _ hx104_0)).trans hx104_0
                   replace hx104_1 := (HB.out.cell (bl_ w _ hx104_1)).trans hx104_1
                   replace hx104_2 := (HB.out.cell (bl_ w _ hx104_2)).trans hx104_2
                   replace hx104_3 := (HB.out.cell (bl_ w _ hx104_3)).trans hx104_3
                   have HR104_2 := A0_ hi104_2
                   have HC104_2 := A0_ hl104_2
                   clear hi104_2 hl104_2
                   have HR104_3 := A0_ hi104_3
                   have HC104_3 := A0_ hl104_3
                   clear hi104_3 hl104_3
                   replace p104 := eq_true p104
                   replace q104 := eq_true q104
                   have p105 : 0 ≤ (x5_1 : Int) := od_ (by first | (with_reducible assumption) | assumption)
                   have q105 : x5_1 < (l0.length : Int) := od_ (by first | (with_reducible assumption) | assumption)
                   obtain ⟨ad105, A105_2, c105_2, A105_3, c105_3, e105, hx105_0, hx105_1, hx105_2, hx105_3, hl105_2, hi105_2, hl105_3, hi105_3⟩ := at_T34 HR0.out x5_1 p105 q105
                   have hw105_3 := hx105_3
                   have hw105_2 := hx105_2
                   have hw105_1 := hx105_1
                   have hw105_0 := hx105_0
                   obtain rfl : ad103 = ad105 := (by injection e105)
                   replace hx105_0 := (HB.out.cell (bl_ w _ hx105_0)).trans hx105_0
                   replace hx105_1 := (HB.out.cell (bl_ w _ hx105_1)).trans hx105_1
                   replace hx105_2 := (HB.out.cell (bl_ w _ hx105_2)).trans hx105_2
                   replace hx105_3 := (HB.out.cell (bl_ w _ hx105_3)).trans hx105_3
                   have HR105_2 := A0_ hi105_2
                   have HC105_2 := A0_ hl105_2
                   clear hi105_2 hl105_2
                   have HR105_3 := A0_ hi105_3
                   have HC105_3 := A0_ hl105_3
                   clear hi105_3 hl105_3
                   replace p105 := eq_true p105
                   replace q105 := eq_true q105
                   have ea_ := Option.some.inj (hx103_2.symm.trans hx105_2)
                   injection ea_ with ea_ en_ ec_
                   subst ea_
                   subst ec_
                   clear en_
                   have ea_ := Option.some.inj (hx103_3.symm.trans hx105_3)
                   injection ea_ with ea_ en_ ec_
                   subst ea_
                   subst ec_
                   clear en_
                   have p106 : 0 ≤ (x5_1 : Int) := od_ (by first | (with_reducible assumption) | assumption)
                   have q106 : x5_1 < (l1.length : Int) := od_ (by first | (with_reducible assumption) | assumption)
                   obtain ⟨ad106, A106_2, c106_2, A106_3, c106_3, e106, hx106_0, hx106_1, hx106_2, hx106_3, hl106_2, hi106_2, hl106_3, hi106_3⟩ := at_T34 HR1.out x5_1 p106 q106
                   have hw106_3 := hx106_3
                   have hw106_2 := hx106_2
                   have hw106_1 := hx106_1
                   have hw106_0 := hx106_0
                   obtain rfl : ad104 = ad106 := (by injection e106)
                   replace hx106_0 := (HB.out.cell (bl_ w _ hx106_0)).trans hx106_0
                   replace hx106_1 := (HB.out.cell (bl_ w _ hx106_1)).trans hx106_1
                   replace hx106_2 := (HB.out.cell (bl_ w _ hx106_2)).trans hx106_2
                   replace hx106_3 := (HB.out.cell (bl_ w _ hx106_3)).trans hx106_3
                   have HR106_2 := A0_ hi106_2
                   have HC106_2 := A0_ hl106_2
                   clear hi106_2 hl106_2
                   have HR106_3 := A0_ hi106_3
                   have HC106_3 := A0_ hl106_3
                   clear hi106_3 hl106_3
                   replace p106 := eq_true p106
                   replace q106 := eq_true q106
                   have ea_ := Option.some.inj (hx104_2.symm.trans hx106_2)
                   injection ea_ with ea_ en_ ec_
                   subst ea_
                   subst ec_
                   clear en_
                   have ea_ := Option.some.inj (hx104_3.symm.trans hx106_3)
                   injection ea_ with ea_ en_ ec_
                   subst ea_
                   subst ec_
                   clear en_
                   have p107 : 0 ≤ (x5_1 : Int) := od_ (by first | (with_reducible assumption) | assumption)
                   have q107 : x5_1 < (l0.length : Int) := od_ (by first | (with_reducible assumption) | assumption)
                   obtain ⟨ad107, A107_2, c107_2, A107_3, c107_3, e107, hx107_0, hx107_1, hx107_2, hx107_3, hl107_2, hi107_2, hl107_3, hi107_3⟩ := at_T34 HR0.out x5_1 p107 q107
                   have hw107_3 := hx107_3
                   have hw107_2 := hx107_2
                   have hw107_1 := hx107_1
                   have hw107_0 := hx107_0
                   obtain rfl : ad103 = ad107 := (by injection e107)
                   replace hx107_0 := (HB.out.cell (bl_ w _ hx107_0)).trans hx107_0
                   replace hx107_1 := (HB.out.cell (bl_ w _ hx107_1)).trans hx107_1
                   replace hx107_2 := (HB.out.cell (bl_ w _ hx107_2)).trans hx107_2
                   replace hx107_3 := (HB.out.cell (bl_ w _ hx107_3)).trans hx107_3
                   have HR107_2 := A0_ hi107_2
                   have HC107_2 := A0_ hl107_2
                   clear hi107_2 hl107_2
                   have HR107_3 := A0_ hi107_3
                   have HC107_3 := A0_ hl107_3
                   clear hi107_3 hl107_3
                   replace p107 := eq_true p107
                   replace q107 := eq_true q107
                   have ea_ := Option.some.inj (hx103_2.symm.trans hx107_2)
                   injection ea_ with ea_ en_ ec_
                   subst ea_
                   subst ec_
                   clear en_
                   have ea_ := Option.some.inj (hx103_3.symm.trans hx107_3)
                   injection ea_ with ea_ en_ ec_
                   subst ea_
                   subst ec_
                   clear en_
                   have p108 : 0 ≤ (x5_1 : Int) := od_ (by first | (with_reducible assumption) | assumption)
                   have q108 : x5_1 < (l1.length : Int) := od_ (by first | (with_reducible assumption) | assumption)
                   obtain ⟨ad108, A108_2, c108_2, A108_3, c108_3, e108, hx108_0, hx108_1, hx108_2, hx108_3, hl108_2, hi108_2, hl108_3, hi108_3⟩ := at_T34 HR1.out x5_1 p108 q108
                   have hw108_3 := hx108_3
                   have hw108_2 := hx108_2
                   have hw108_1 := hx108_1
                   have hw108_0 := hx108_0
                   obtain rfl : ad104 = ad108 := (by injection e108)
                   replace hx108_0 := (HB.out.cell (bl_ w _ hx108_0)).trans hx108_0
                   replace hx108_1 := (HB.out.cell (bl_ w _ hx108_1)).trans hx108_1
                   replace hx108_2 := (HB.out.cell (bl_ w _ hx108_2)).trans hx108_2
                   replace hx108_3 := (HB.out.cell (bl_ w _ hx108_3)).trans hx108_3
                   have HR108_2 := A0_ hi108_2
                   have HC108_2 := A0_ hl108_2
                   clear hi108_2 hl108_2
                   have HR108_3 := A0_ hi108_3
                   have HC108_3 := A0_ hl108_3
                   clear hi108_3 hl108_3
                   replace p108 := eq_true p108
                   replace q108 := eq_true q108
                   have ea_ := Option.some.inj (hx104_2.symm.trans hx108_2)
                   injection ea_ with ea_ en_ ec_
                   subst ea_
                   subst ec_
                   clear en_
                   have ea_ := Option.some.inj (hx104_3.symm.trans hx108_3)
                   injection ea_ with ea_ en_ ec_
                   subst ea_
                   subst ec_
                   clear en_
                   have p110 : 0 ≤ (x5_1 : Int) := od_ (by first | (with_reducible assumption) | assumption)
                   have q110 : x5_1 < (l0.length : Int) := od_ (by first | (with_reducible assumption) | assumption)
                   obtain ⟨ad110, A110_2, c110_2, A110_3, c110_3, e110, hx110_0, hx110_1, hx110_2, hx110_3, hl110_2, hi110_2, hl110_3, hi110_3⟩ := at_T34 HR0.out x5_1 p110 q110
                   have hw110_3 := hx110_3
                   have hw110_2 := hx110_2
                   have hw110_1 := hx110_1
                   have hw110_0 := hx110_0
                   obtain rfl : ad103 = ad110 := (by injection e110)
                   replace hx110_0 := (HB.out.cell (bl_ w _ hx110_0)).trans hx110_0
                   replace hx110_1 := (HB.out.cell (bl_ w _ hx110_1)).trans hx110_1
                   replace hx110_2 := (HB.out.cell (bl_ w _ hx110_2)).trans hx110_2
                   replace hx110_3 := (HB.out.cell (bl_ w _ hx110_3)).trans hx110_3
                   have HR110_2 := A0_ hi110_2
                   have HC110_2 := A0_ hl110_2
                   clear hi110_2 hl110_2
                   have HR110_3 := A0_ hi110_3
                   have HC110_3 := A0_ hl110_3
                   clear hi110_3 hl110_3
                   replace p110 := eq_true p110
                   replace q110 := eq_true q110
                   have ea_ := Option.some.inj (hx103_2.symm.trans hx110_2)
                   injection ea_ with ea_ en_ ec_
                   subst ea_
                   subst ec_
                   clear en_
                   have ea_ := Option.some.inj (hx103_3.symm.trans hx110_3)
                   injection ea_ with ea_ en_ ec_
                   subst ea_
                   subst ec_
                   clear en_
                   have p111 : 0 ≤ (x5_1 : Int) := od_ (by first | (with_reducible assumption) | assumption)
                   have q111 : x5_1 < (l1.length : Int) := od_ (by first | (with_reducible assumption) | assumption)
                   obtain ⟨ad111, A111_2, c111_2, A111_3, c111_3, e111, hx111_0, hx111_1, hx111_2, hx111_3, hl111_2, hi111_2, hl111_3, hi111_3⟩ := at_T34 HR1.out x5_1 p111 q111
                   have hw111_3 := hx111_3
                   have hw111_2 := hx111_2
                   have hw111_1 := hx111_1
                   have hw111_0 := hx111_0
                   obtain rfl : ad104 = ad111 := (by injection e111)
                   replace hx111_0 := (HB.out.cell (bl_ w _ hx111_0)).trans hx111_0
                   replace hx111_1 := (HB.out.cell (bl_ w _ hx111_1)).trans hx111_1
                   replace hx111_2 := (HB.out.cell (bl_ w _ hx111_2)).trans hx111_2
                   replace hx111_3 := (HB.out.cell (bl_ w _ hx111_3)).trans hx111_3
                   have HR111_2 := A0_ hi111_2
                   have HC111_2 := A0_ hl111_2
                   clear hi111_2 hl111_2
                   have HR111_3 := A0_ hi111_3
                   have HC111_3 := A0_ hl111_3
                   clear hi111_3 hl111_3
                   replace p111 := eq_true p111
                   replace q111 := eq_true q111
                   have ea_ := Option.some.inj (hx104_2.symm.trans hx111_2)
                   injection ea_ with ea_ en_ ec_
                   subst ea_
                   subst ec_
                   clear en_
                   have ea_ := Option.some.inj (hx104_3.symm.trans hx111_3)
                   injection ea_ with ea_ en_ ec_
                   subst ea_
                   subst ec_
                   clear en_
                   refine start_ (n := 52) (S := fun w' => w'.cell? (ad103.add ((x5_1).toNat * 4)) = some (.int .i64 ((rd_T34 l0 x5_1).f0)) ∧ w'.cell? ⟨(ad103.add ((x5_1).toNat * 4)).block, (ad103.add ((x5_1).toNat * 4)).off + 1, none⟩ = some (.bool ((rd_T34 l0 x5_1).f1)) ∧ w'.cell? ⟨(ad103.add ((x5_1).toNat * 4)).block, (ad103.add ((x5_1).toNat * 4)).off + 2, none⟩ = some (.slice A103_2 ((rd_T34 l0 x5_1).f2).length c103_2) ∧ w'.cell? ⟨(ad103.add ((x5_1).toNat * 4)).block, (ad103.add ((x5_1).toNat * 4)).off + 3, none⟩ = some (.slice A103_3 ((rd_T34 l0 x5_1).f3).length c103_3) ∧ w'.cell? (ad104.add ((x5_1).toNat * 4)) = some (.int .i64 ((rd_T34 l1 x5_1).f0)) ∧ w'.cell? ⟨(ad104.add ((x5_1).toNat * 4)).block, (ad104.add ((x5_1).toNat * 4)).off + 1, none⟩ = some (.bool ((rd_T34 l1 x5_1).f1)) ∧ w'.cell? ⟨(ad104.add ((x5_1).toNat * 4)).block, (ad104.add ((x5_1).toNat * 4)).off + 2, none⟩ = some (.slice A104_2 ((rd_T34 l1 x5_1).f2).length c104_2) ∧ w'.cell? ⟨(ad104.add ((x5_1).toNat * 4)).block, (ad104.add ((x5_1).toNat * 4)).off + 3, none⟩ = some (.slice A104_3 ((rd_T34 l1 x5_1).f3).length c104_3) ∧ w'.cell? (ad103.add ((x5_1).toNat * 4)) = some (.int .i64 ((rd_T34 l0 x5_1).f0)) ∧ w'.cell? ⟨(ad103.add ((x5_1).toNat * 4)).block, (ad103.add ((x5_1).toNat * 4)).off + 1, none⟩ = some (.bool ((rd_T34 l0 x5_1).f1)) ∧ w'.cell? ⟨(ad103.add ((x5_1).toNat * 4)).block, (ad103.add ((x5_1).toNat * 4)).off + 2, none⟩ = some (.slice A103_2 ((rd_T34 l0 x5_1).f2).length c103_2) ∧ w'.cell? ⟨(ad103.add ((x5_1).toNat * 4)).block, (ad103.add ((x5_1).toNat * 4)).off + 3, none⟩ = some (.slice A103_3 ((rd_T34 l0 x5_1).f3).length c103_3) ∧ w'.cell? (ad104.add ((x5_1).toNat * 4)) = some (.int .i64 ((rd_T34 l1 x5_1).f0)) ∧ w'.cell? ⟨(ad104.add ((x5_1).toNat * 4)).block, (ad104.add ((x5_1).toNat * 4)).off + 1, none⟩ = some (.bool ((rd_T34 l1 x5_1).f1)) ∧ w'.cell? ⟨(ad104.add ((x5_1).toNat * 4)).block, (ad104.add ((x5_1).toNat * 4)).off + 2, none⟩ = some (.slice A104_2 ((rd_T34 l1 x5_1).f2).length c104_2) ∧ w'.cell? ⟨(ad104.add ((x5_1).toNat * 4)).block, (ad104.add ((x5_1).toNat * 4)).off + 3, none⟩ = some (.slice A104_3 ((rd_T34 l1 x5_1).f3).length c104_3) ∧ w'.cell? (ad103.add ((x5_1).toNat * 4)) = some (.int .i64 ((rd_T34 l0 x5_1).f0)) ∧ w'.cell? ⟨(ad103.add ((x5_1).toNat * 4)).block, (ad103.add ((x5_1).toNat * 4)).off + 1, none⟩ = some (.bool ((rd_T34 l0 x5_1).f1)) ∧ w'.cell? ⟨(ad103.add ((x5_1).toNat * 4)).block, (ad103.add ((x5_1).toNat * 4)).off + 2, none⟩ = some (.slice A103_2 ((rd_T34 l0 x5_1).f2).length c103_2) ∧ w'.cell? ⟨(ad103.add ((x5_1).toNat * 4)).block, (ad103.add ((x5_1).toNat * 4)).off + 3, none⟩ = some (.slice A103_3 ((rd_T34 l0 x5_1).f3).length c103_3) ∧ w'.cell? (ad104.add ((x5_1).toNat * 4)) = some (.int .i64 ((rd_T34 l1 x5_1).f0)) ∧ w'.cell? ⟨(ad104.add ((x5_1).toNat * 4)).block, (ad104.add ((x5_1).toNat * 4)).off + 1, none⟩ = some (.bool ((rd_T34 l1 x5_1).f1)) ∧ w'.cell? ⟨(ad104.add ((x5_1).toNat * 4)).block, (ad104.add ((x5_1).toNat * 4)).off + 2, none⟩ = some (.slice A104_2 ((rd_T34 l1 x5_1).f2).length c104_2) ∧ w'.cell? ⟨(ad104.add ((x5_1).toNat * 4)).block, (ad104.add ((x5_1).toNat * 4)).off + 3, none⟩ = some (.slice A104_3 ((rd_T34 l1 x5_1).f3).length c104_3) ∧ w'.cell? (ad103.add ((x5_1).toNat * 4)) = some (.int .i64 ((rd_T34 l0 x5_1).f0)) ∧ w'.cell? ⟨(ad103.add ((x5_1).toNat * 4)).block, (ad103.add ((x5_1).toNat * 4)).off + 1, none⟩ = some (.bool ((rd_T34 l0 x5_1).f1)) ∧ w'.cell? ⟨(ad103.add ((x5_1).toNat * 4)).block, (ad103.add ((x5_1).toNat * 4)).off + 2, none⟩ = some (.slice A103_2 ((rd_T34 l0 x5_1).f2).length c103_2) ∧ w'.cell? ⟨(ad103.add ((x5_1).toNat * 4)).block, (ad103.add ((x5_1).toNat * 4)).off + 3, none⟩ = some (.slice A103_3 ((rd_T34 l0 x5_1).f3).length c103_3) ∧ w'.cell? (ad104.add ((x5_1).toNat * 4)) = some (.int .i64 ((rd_T34 l1 x5_1).f0)) ∧ w'.cell? ⟨(ad104.add ((x5_1).toNat * 4)).block, (ad104.add ((x5_1).toNat * 4)).off + 1, none⟩ = some (.bool ((rd_T34 l1 x5_1).f1)) ∧ w'.cell? ⟨(ad104.add ((x5_1).toNat * 4)).block, (ad104.add ((x5_1).toNat * 4)).off + 2, none⟩ = some (.slice A104_2 ((rd_T34 l1 x5_1).f2).length c104_2) ∧ w'.cell? ⟨(ad104.add ((x5_1).toNat * 4)).block, (ad104.add ((x5_1).toNat * 4)).off + 3, none⟩ = some (.slice A104_3 ((rd_T34 l1 x5_1).f3).length c104_3)) (ds := []) #[f_, f_, f_, f_, f_, f_, f_, f_, f_, f_, f_, f_, f_, f_, f_, f_, f_, f_, f_, f_, f_, f_, f_, f_, f_, f_, f_, f_, f_, f_, f_, f_, f_, f_, f_, f_, f_, f_, f_, f_, f_, f_, f_, f_, f_, f_, f_, f_, f_, f_, f_, f_] (by kernel_rfl) rfl rfl ⟨((HB.out.cell (bl_ w _ hw103_0)).trans hw103_0), ((HB.out.cell (bl_ w _ hw103_1)).trans hw103_1), ((HB.out.cell (bl_ w _ hw103_2)).trans hw103_2), ((HB.out.cell (bl_ w _ hw103_3)).trans hw103_3), ((HB.out.cell (bl_ w _ hw104_0)).trans hw104_0), ((HB.out.cell (bl_ w _ hw104_1)).trans hw104_1), ((HB.out.cell (bl_ w _ hw104_2)).trans hw104_2), ((HB.out.cell (bl_ w _ hw104_3)).trans hw104_3), ((HB.out.cell (bl_ w _ hw105_0)).trans hw105_0), ((HB.out.cell (bl_ w _ hw105_1)).trans hw105_1), ((HB.out.cell (bl_ w _ hw105_2)).trans hw105_2), ((HB.out.cell (bl_ w _ hw105_3)).trans hw105_3), ((HB.out.cell (bl_ w _ hw106_0)).trans hw106_0), ((HB.out.cell (bl_ w _ hw106_1)).trans hw106_1), ((HB.out.cell (bl_ w _ hw106_2)).trans hw106_2), ((HB.out.cell (bl_ w _ hw106_3)).trans hw106_3), ((HB.out.cell (bl_ w _ hw107_0)).trans hw107_0), ((HB.out.cell (bl_ w _ hw107_1)).trans hw107_1), ((HB.out.cell (bl_ w _ hw107_2)).trans hw107_2), ((HB.out.cell (bl_ w _ hw107_3)).trans hw107_3), ((HB.out.cell (bl_ w _ hw108_0)).trans hw108_0), ((HB.out.cell (bl_ w _ hw108_1)).trans hw108_1), ((HB.out.cell (bl_ w _ hw108_2)).trans hw108_2), ((HB.out.cell (bl_ w _ hw108_3)).trans hw108_3), ((HB.out.cell (bl_ w _ hw110_0)).trans hw110_0), ((HB.out.cell (bl_ w _ hw110_1)).trans hw110_1), ((HB.out.cell (bl_ w _ hw110_2)).trans hw110_2), ((HB.out.cell (bl_ w _ hw110_3)).trans hw110_3), ((HB.out.cell (bl_ w _ hw111_0)).trans hw111_0), ((HB.out.cell (bl_ w _ hw111_1)).trans hw111_1), ((HB.out.cell (bl_ w _ hw111_2)).trans hw111_2), ((HB.out.cell (bl_ w _ hw111_3)).trans hw111_3)⟩ (fun hHeld => ?_); refine with_tabW spec_SeenSame.tab6 spec_SeenSame.bits6 (fun HT_ HW_ => ?_)
                   generalize wr.drew = w14 at HB HR103_2 HR103_3 HR104_2 HR104_3 HR105_2 HR105_3 HR106_2 HR106_3 HR107_2 HR107_3 HR108_2 HR108_3 HR110_2 HR110_3 HR111_2 HR111_3 hx103_0 hx103_1 hx103_2 hx103_3 hx104_0 hx104_1 hx104_2 hx104_3 hx105_0 hx105_1 hx105_2 hx105_3 hx106_0 hx106_1 hx106_2 hx106_3 hx107_0 hx107_1 hx107_2 hx107_3 hx108_0 hx108_1 hx108_2 hx108_3 hx110_0 hx110_1 hx110_2 hx110_3 hx111_0 hx111_1 hx111_2 hx111_3 hHeld ⊢
                   refine pure_ (i := 0) (N := some 17) (v := ?_) (a' := ?_) #[t_, f_, f_, f_, f_, f_, f_, f_, f_, f_, f_, f_, f_, f_, f_, f_, f_, f_, f_, f_, f_, f_, f_, f_, f_, f_, f_, f_, f_, f_, f_, f_, f_, f_, f_, f_, f_, f_, f_, f_, f_, f_, f_, f_, f_, f_, f_, f_, f_, f_, f_, f_] rfl rfl (any_of HT_.out (by kernel_rfl)) (fun _ _ _ h => h) (Or.inl ⟨by rfl, ?_⟩) ?_ ?_
                   rotate_left
                   · intro w'
                     go_simp
                     with_reducible rfl
                   rotate_left
                   · simp only [Act.put, List.setIfInBounds_toArray, List.set_cons_zero, List.set_cons_succ, i64_w, i32_w]
                     rfl
                   refine pure_ (i := 1) (N := some 18) (v := ?_) (a' := ?_) #[t_, t_, f_, f_, f_, f_, f_, f_, f_, f_, f_, f_, f_, f_, f_, f_, f_, f_, f_, f_, f_, f_, f_, f_, f_, f_, f_, f_, f_, f_, f_, f_, f_, f_, f_, f_, f_, f_, f_, f_, f_, f_, f_, f_, f_, f_, f_, f_, f_, f_, f_, f_] rfl rfl (any_of HT_.out (by kernel_rfl)) (fun _ _ _ h => h) (Or.inl ⟨by rfl, ?_⟩) ?_ ?_
                   rotate_left
                   · intro w'
                     go_simp
                     with_reducible rfl
                   rotate_left
                   · simp only [Act.put, List.setIfInBounds_toArray, List.set_cons_zero, List.set_cons_succ, i64_w, i32_w]
                     rfl
                   refine pure_ (i := 2) (N := some 19) (v := ?_) (a' := ?_) #[t_, t_, t_, f_, f_, f_, f_, f_, f_, f_, f_, f_, f_, f_, f_, f_, f_, f_, f_, f_, f_, f_, f_, f_, f_, f_, f_, f_, f_, f_, f_, f_, f_, f_, f_, f_, f_, f_, f_, f_, f_, f_, f_, f_, f_, f_, f_, f_, f_, f_, f_, f_] rfl rfl (any_of HT_.out (by kernel_rfl)) (fun _ _ _ h => h) (Or.inl ⟨by rfl, ?_⟩) ?_ ?_
                   rotate_left
                   · intro w'
                     go_simp
                     with_reducible rfl
                   rotate_left
                   · simp only [Act.put, List.setIfInBounds_toArray, List.set_cons_zero, List.set_cons_succ, i64_w, i32_w]
                     rfl
                   refine pure_ (i := 3) (N := some 20) (v := ?_) (a' := ?_) #[t_, t_, t_, t_, f_, f_, f_, f_, f_, f_, f_, f_, f_, f_, f_, f_, f_, f_, f_, f_, f_, f_, f_, f_, f_, f_, f_, f_, f_, f_, f_, f_, f_, f_, f_, f_, f_, f_, f_, f_, f_, f_, f_, f_, f_, f_, f_, f_, f_, f_, f_, f_] rfl rfl (any_of HT_.out (by kernel_rfl)) (fun _ _ _ h => h) (Or.inl ⟨by rfl, ?_⟩) ?_ ?_
                   rotate_left
                   · intro w'
                     go_simp
                     with_reducible rfl
                   rotate_left
                   · simp only [Act.put, List.setIfInBounds_toArray, List.set_cons_zero, List.set_cons_succ, i64_w, i32_w]
                     rfl
                   refine pure_ (i := 5) (N := some 22) (v := ?_) (a' := ?_) #[t_, t_, t_, t_, f_, t_, f_, f_, f_, f_, f_, f_, f_, f_, f_, f_, f_, f_, f_, f_, f_, f_, f_, f_, f_, f_, f_, f_, f_, f_, f_, f_, f_, f_, f_, f_, f_, f_, f_, f_, f_, f_, f_, f_, f_, f_, f_, f_, f_, f_, f_, f_] rfl rfl (any_of HT_.out (by kernel_rfl)) (fun _ _ _ h => h) (Or.inl ⟨by rfl, ?_⟩) ?_ ?_
                   rotate_left
                   · intro w'
                     go_simp
                     with_reducible rfl
                   rotate_left
                   · simp only [Act.put, List.setIfInBounds_toArray, List.set_cons_zero, List.set_cons_succ, i64_w, i32_w]
                     rfl
                   refine pure_ (i := 6) (N := some 23) (v := ?_) (a' := ?_) #[t_, t_, t_, t_, f_, t_, t_, f_, f_, f_, f_, f_, f_, f_, f_, f_, f_, f_, f_, f_, f_, f_, f_, f_, f_, f_, f_, f_, f_, f_, f_, f_, f_, f_, f_, f_, f_, f_, f_, f_, f_, f_, f_, f_, f_, f_, f_, f_, f_, f_, f_, f_] rfl rfl (any_of HT_.out (by kernel_rfl)) (fun _ _ _ h => h) (Or.inl ⟨by rfl, ?_⟩) ?_ ?_
                   rotate_left
                   · intro w'
                     go_simp
                     with_reducible rfl
                   rotate_left
                   · simp only [Act.put, List.setIfInBounds_toArray, List.set_cons_zero, List.set_cons_succ, i64_w, i32_w]
                     rfl
                   refine pure_ (i := 7) (N := some 24) (v := ?_) (a' := ?_) #[t_, t_, t_, t_, f_, t_, t_, t_, f_, f_, f_, f_, f_, f_, f_, f_, f_, f_, f_, f_, f_, f_, f_, f_, f_, f_, f_, f_, f_, f_, f_, f_, f_, f_, f_, f_, f_, f_, f_, f_, f_, f_, f_, f_, f_, f_, f_, f_, f_, f_, f_, f_] rfl rfl (any_of HT_.out (by kernel_rfl)) (fun _ _ _ h => h) (Or.inl ⟨by rfl, ?_⟩) ?_ ?_
                   rotate_left
                   · intro w'
                     go_simp
                     with_reducible rfl
                   rotate_left
                   · simp only [Act.put, List.setIfInBounds_toArray, List.set_cons_zero, List.set_cons_succ, i64_w, i32_w]
                     rfl
                   refine pure_ (i := 8) (N := some 25) (v := ?_) (a' := ?_) #[t_, t_, t_, t_, f_, t_, t_, t_, t_, f_, f_, f_, f_, f_, f_, f_, f_, f_, f_, f_, f_, f_, f_, f_, f_, f_, f_, f_, f_, f_, f_, f_, f_, f_, f_, f_, f_, f_, f_, f_, f_, f_, f_, f_, f_, f_, f_, f_, f_, f_, f_, f_] rfl rfl (any_of HT_.out (by kernel_rfl)) (fun _ _ _ h => h) (Or.inl ⟨by rfl, ?_⟩) ?_ ?_
                   rotate_left
                   · intro w'
                     go_simp
                     with_reducible rfl
                   rotate_left
                   · simp only [Act.put, List.setIfInBounds_toArray, List.set_cons_zero, List.set_cons_succ, i64_w, i32_w]
                     rfl
                   refine take_ (i := 4) (N := some 21) (v := ?_) (a' := ?_) #[t_, t_, t_, t_, t_, t_, t_, t_, t_, f_, f_, f_, f_, f_, f_, f_, f_, f_, f_, f_, f_, f_, f_, f_, f_, f_, f_, f_, f_, f_, f_, f_, f_, f_, f_, f_, f_, f_, f_, f_, f_, f_, f_, f_, f_, f_, f_, f_, f_, f_, f_, f_] rfl rfl (take_ofW HT_.out HW_.out (by kernel_rfl)) (fun _ _ _ h => h) (Or.inl ⟨by rfl, ?_⟩) hHeld ?_ ?_
                   rotate_left
                   · rintro w' ⟨s0, s1, s2, s3, s4, s5, s6, s7, s8, s9, s10, s11, s12, s13, s14, s15, s16, s17, s18, s19, s20, s21, s22, s23, s24, s25, s26, s27, s28, s29, s30, s31⟩
                     go_simp
                     with_reducible rfl
                   rotate_left
                   · simp only [Act.put, List.setIfInBounds_toArray, List.set_cons_zero, List.set_cons_succ, i64_w, i32_w]
                     rfl
                   refine take_ (i := 9) (N := some 26) (v := ?_) (a' := ?_) #[t_, t_, t_, t_, t_, t_, t_, t_, t_, t_, f_, f_, f_, f_, f_, f_, f_, f_, f_, f_, f_, f_, f_, f_, f_, f_, f_, f_, f_, f_, f_, f_, f_, f_, f_, f_, f_, f_, f_, f_, f_, f_, f_, f_, f_, f_, f_, f_, f_, f_, f_, f_] rfl rfl (take_ofW HT_.out HW_.out (by kernel_rfl)) (fun _ _ _ h => h) (Or.inl ⟨by rfl, ?_⟩) hHeld ?_ ?_
                   rotate_left
                   · rintro w' ⟨s0, s1, s2, s3, s4, s5, s6, s7, s8, s9, s10, s11, s12, s13, s14, s15, s16, s17, s18, s19, s20, s21, s22, s23, s24, s25, s26, s27, s28, s29, s30, s31⟩
                     go_simp
                     with_reducible rfl
                   rotate_left
                   · simp only [Act.put, List.setIfInBounds_toArray, List.set_cons_zero, List.set_cons_succ, i64_w, i32_w]
                     rfl
                   refine pure_ (i := 10) (N := some 27) (v := ?_) (a' := ?_) #[t_, t_, t_, t_, t_, t_, t_, t_, t_, t_, t_, f_, f_, f_, f_, f_, f_, f_, f_, f_, f_, f_, f_, f_, f_, f_, f_, f_, f_, f_, f_, f_, f_, f_, f_, f_, f_, f_, f_, f_, f_, f_, f_, f_, f_, f_, f_, f_, f_, f_, f_, f_] rfl rfl (any_of HT_.out (by kernel_rfl)) (fun _ _ _ h => h) (Or.inl ⟨by rfl, ?_⟩) ?_ ?_
                   rotate_left
                   · intro w'
                     go_simp
                     with_reducible rfl
                   rotate_left
                   · simp only [Act.put, List.setIfInBounds_toArray, List.set_cons_zero, List.set_cons_succ, i64_w, i32_w]
                     rfl
                   refine pure_ (i := 11) (N := some 28) (v := ?_) (a' := ?_) #[t_, t_, t_, t_, t_, t_, t_, t_, t_, t_, t_, t_, f_, f_, f_, f_, f_, f_, f_, f_, f_, f_, f_, f_, f_, f_, f_, f_, f_, f_, f_, f_, f_, f_, f_, f_, f_, f_, f_, f_, f_, f_, f_, f_, f_, f_, f_, f_, f_, f_, f_, f_] rfl rfl (any_of HT_.out (by kernel_rfl)) (fun _ _ _ h => h) (Or.inl ⟨by rfl, ?_⟩) ?_ ?_
                   rotate_left
                   · intro w'
                     go_simp
                     with_reducible rfl
                   rotate_left
                   · simp only [Act.put, List.setIfInBounds_toArray, List.set_cons_zero, List.set_cons_succ, i64_w, i32_w]
                     rfl
                   refine pure_ (i := 12) (N := some 29) (v := ?_) (a' := ?_) #[t_, t_, t_, t_, t_, t_, t_, t_, t_, t_, t_, t_, t_, f_, f_, f_, f_, f_, f_, f_, f_, f_, f_, f_, f_, f_, f_, f_, f_, f_, f_, f_, f_, f_, f_, f_, f_, f_, f_, f_, f_, f_, f_, f_, f_, f_, f_, f_, f_, f_, f_, f_] rfl rfl (any_of HT_.out (by kernel_rfl)) (fun _ _ _ h => h) (Or.inl ⟨by rfl, ?_⟩) ?_ ?_
                   rotate_left
                   · intro w'
                     go_simp
                     with_reducible rfl
                   rotate_left
                   · simp only [Act.put, List.setIfInBounds_toArray, List.set_cons_zero, List.set_cons_succ, i64_w, i32_w]
                     rfl
                   refine pure_ (i := 13) (N := some 30) (v := ?_) (a' := ?_) #[t_, t_, t_, t_, t_, t_, t_, t_, t_, t_, t_, t_, t_, t_, f_, f_, f_, f_, f_, f_, f_, f_, f_, f_, f_, f_, f_, f_, f_, f_, f_, f_, f_, f_, f_, f_, f_, f_, f_, f_, f_, f_, f_, f_, f_, f_, f_, f_, f_, f_, f_, f_] rfl rfl (any_of HT_.out (by kernel_rfl)) (fun _ _ _ h => h) (Or.inl ⟨by rfl, ?_⟩) ?_ ?_
                   rotate_left
                   · intro w'
                     go_simp
                     with_reducible rfl
                   rotate_left
                   · simp only [Act.put, List.setIfInBounds_toArray, List.set_cons_zero, List.set_cons_succ, i64_w, i32_w]
                     rfl
                   refine pure_ (i := 14) (N := some 31) (v := ?_) (a' := ?_) #[t_, t_, t_, t_, t_, t_, t_, t_, t_, t_, t_, t_, t_, t_, t_, f_, f_, f_, f_, f_, f_, f_, f_, f_, f_, f_, f_, f_, f_, f_, f_, f_, f_, f_, f_, f_, f_, f_, f_, f_, f_, f_, f_, f_, f_, f_, f_, f_, f_, f_, f_, f_] rfl rfl (any_of HT_.out (by kernel_rfl)) (fun _ _ _ h => h) (Or.inl ⟨by rfl, ?_⟩) ?_ ?_
                   rotate_left
                   · intro w'
                     go_simp
                     with_reducible rfl
                   rotate_left
                   · simp only [Act.put, List.setIfInBounds_toArray, List.set_cons_zero, List.set_cons_succ, i64_w, i32_w]
                     rfl
                   refine pure_ (i := 15) (N := some 32) (v := ?_) (a' := ?_) #[t_, t_, t_, t_, t_, t_, t_, t_, t_, t_, t_, t_, t_, t_, t_, t_, f_, f_, f_, f_, f_, f_, f_, f_, f_, f_, f_, f_, f_, f_, f_, f_, f_, f_, f_, f_, f_, f_, f_, f_, f_, f_, f_, f_, f_, f_, f_, f_, f_, f_, f_, f_] rfl rfl (any_of HT_.out (by kernel_rfl)) (fun _ _ _ h => h) (Or.inl ⟨by rfl, ?_⟩) ?_ ?_
                   rotate_left
                   · intro w'
                     go_simp
                     with_reducible rfl
                   rotate_left
                   · simp only [Act.put, List.setIfInBounds_toArray, List.set_cons_zero, List.set_cons_succ, i64_w, i32_w]
                     rfl
                   refine pure_ (i := 17) (N := some 34) (v := ?_) (a' := ?_) #[t_, t_, t_, t_, t_, t_, t_, t_, t_, t_, t_, t_, t_, t_, t_, t_, f_, t_, f_, f_, f_, f_, f_, f_, f_, f_, f_, f_, f_, f_, f_, f_, f_, f_, f_, f_, f_, f_, f_, f_, f_, f_, f_, f_, f_, f_, f_, f_, f_, f_, f_, f_] rfl rfl (any_of HT_.out (by kernel_rfl)) (fun _ _ _ h => h) (Or.inl ⟨by rfl, ?_⟩) ?_ ?_
                   rotate_left
                   · intro w'
                     go_simp
                     with_reducible rfl
                   rotate_left
                   · simp only [Act.put, List.setIfInBounds_toArray, List.set_cons_zero, List.set_cons_succ, i64_w, i32_w]
                     rfl
                   refine pure_ (i := 18) (N := some 35) (v := ?_) (a' := ?_) #[t_, t_, t_, t_, t_, t_, t_, t_, t_, t_, t_, t_, t_, t_, t_, t_, f_, t_, t_, f_, f_, f_, f_, f_, f_, f_, f_, f_, f_, f_, f_, f_, f_, f_, f_, f_, f_, f_, f_, f_, f_, f_, f_, f_, f_, f_, f_, f_, f_, f_, f_, f_] rfl rfl (any_of HT_.out (by kernel_rfl)) (fun _ _ _ h => h) (Or.inl ⟨by rfl, ?_⟩) ?_ ?_
                   rotate_left
                   · intro w'
                     go_simp
                     with_reducible rfl
                   rotate_left
                   · simp only [Act.put, List.setIfInBounds_toArray, List.set_cons_zero, List.set_cons_succ, i64_w, i32_w]
                     rfl
                   refine pure_ (i := 19) (N := some 36) (v := ?_) (a' := ?_) #[t_, t_, t_, t_, t_, t_, t_, t_, t_, t_, t_, t_, t_, t_, t_, t_, f_, t_, t_, t_, f_, f_, f_, f_, f_, f_, f_, f_, f_, f_, f_, f_, f_, f_, f_, f_, f_, f_, f_, f_, f_, f_, f_, f_, f_, f_, f_, f_, f_, f_, f_, f_] rfl rfl (any_of HT_.out (by kernel_rfl)) (fun _ _ _ h => h) (Or.inl ⟨by rfl, ?_⟩) ?_ ?_
                   rotate_left
                   · intro w'
                     go_simp
                     with_reducible rfl
                   rotate_left
                   · simp only [Act.put, List.setIfInBounds_toArray, List.set_cons_zero, List.set_cons_succ, i64_w, i32_w]
                     rfl
                   refine pure_ (i := 20) (N := some 37) (v := ?_) (a' := ?_) #[t_, t_, t_, t_, t_, t_, t_, t_, t_, t_, t_, t_, t_, t_, t_, t_, f_, t_, t_, t_, t_, f_, f_, f_, f_, f_, f_, f_, f_, f_, f_, f_, f_, f_, f_, f_, f_, f_, f_, f_, f_, f_, f_, f_, f_, f_, f_, f_, f_, f_, f_, f_] rfl rfl (any_of HT_.out (by kernel_rfl)) (fun _ _ _ h => h) (Or.inl ⟨by rfl, ?_⟩) ?_ ?_
                   rotate_left
                   · intro w'
                     go_simp
                     with_reducible rfl
                   rotate_left
                   · simp only [Act.put, List.setIfInBounds_toArray, List.set_cons_zero, List.set_cons_succ, i64_w, i32_w]
                     rfl
                   refine take_ (i := 16) (N := some 33) (v := ?_) (a' := ?_) #[t_, t_, t_, t_, t_, t_, t_, t_, t_, t_, t_, t_, t_, t_, t_, t_, t_, t_, t_, t_, t_, f_, f_, f_, f_, f_, f_, f_, f_, f_, f_, f_, f_, f_, f_, f_, f_, f_, f_, f_, f_, f_, f_, f_, f_, f_, f_, f_, f_, f_, f_, f_] rfl rfl (take_ofW HT_.out HW_.out (by kernel_rfl)) (fun _ _ _ h => h) (Or.inl ⟨by rfl, ?_⟩) hHeld ?_ ?_
                   rotate_left
                   · rintro w' ⟨s0, s1, s2, s3, s4, s5, s6, s7, s8, s9, s10, s11, s12, s13, s14, s15, s16, s17, s18, s19, s20, s21, s22, s23, s24, s25, s26, s27, s28, s29, s30, s31⟩
                     go_simp
                     with_reducible rfl
                   rotate_left
                   · simp only [Act.put, List.setIfInBounds_toArray, List.set_cons_zero, List.set_cons_succ, i64_w, i32_w]
                     rfl
                   refine take_ (i := 21) (N := some 38) (v := ?_) (a' := ?_) #[t_, t_, t_, t_, t_, t_, t_, t_, t_, t_, t_, t_, t_, t_, t_, t_, t_, t_, t_, t_, t_, t_, f_, f_, f_, f_, f_, f_, f_, f_, f_, f_, f_, f_, f_, f_, f_, f_, f_, f_, f_, f_, f_, f_, f_, f_, f_, f_, f_, f_, f_, f_] rfl rfl (take_ofW HT_.out HW_.out (by kernel_rfl)) (fun _ _ _ h => h) (Or.inl ⟨by rfl, ?_⟩) hHeld ?_ ?_
                   rotate_left
                   · rintro w' ⟨s0, s1, s2, s3, s4, s5, s6, s7, s8, s9, s10, s11, s12, s13, s14, s15, s16, s17, s18, s19, s20, s21, s22, s23, s24, s25, s26, s27, s28, s29, s30, s31⟩
                     go_simp
                     with_reducible rfl
                   rotate_left
                   · simp only [Act.put, List.setIfInBounds_toArray, List.set_cons_zero, List.set_cons_succ, i64_w, i32_w]
                     rfl
                   refine pure_ (i := 22) (N := some 39) (v := ?_) (a' := ?_) #[t_, t_, t_, t_, t_, t_, t_, t_, t_, t_, t_, t_, t_, t_, t_, t_, t_, t_, t_, t_, t_, t_, t_, f_, f_, f_, f_, f_, f_, f_, f_, f_, f_, f_, f_, f_, f_, f_, f_, f_, f_, f_, f_, f_, f_, f_, f_, f_, f_, f_, f_, f_] rfl rfl (any_of HT_.out (by kernel_rfl)) (fun _ _ _ h => h) (Or.inl ⟨by rfl, ?_⟩) ?_ ?_
                   rotate_left
                   · intro w'
                     go_simp
                     with_reducible rfl
                   rotate_left
                   · simp only [Act.put, List.setIfInBounds_toArray, List.set_cons_zero, List.set_cons_succ, i64_w, i32_w]
                     rfl
                   refine pure_ (i := 23) (N := some 40) (v := ?_) (a' := ?_) #[t_, t_, t_, t_, t_, t_, t_, t_, t_, t_, t_, t_, t_, t_, t_, t_, t_, t_, t_, t_, t_, t_, t_, t_, f_, f_, f_, f_, f_, f_, f_, f_, f_, f_, f_, f_, f_, f_, f_, f_, f_, f_, f_, f_, f_, f_, f_, f_, f_, f_, f_, f_] rfl rfl (any_of HT_.out (by kernel_rfl)) (fun _ _ _ h => h) (Or.inl ⟨by rfl, ?_⟩) ?_ ?_
                   rotate_left
                   · intro w'
                     go_simp
                     with_reducible rfl
                   rotate_left
                   · simp only [Act.put, List.setIfInBounds_toArray, List.set_cons_zero, List.set_cons_succ, i64_w, i32_w]
                     rfl
                   refine pure_ (i := 24) (N := some 41) (v := ?_) (a' := ?_) #[t_, t_, t_, t_, t_, t_, t_, t_, t_, t_, t_, t_, t_, t_, t_, t_, t_, t_, t_, t_, t_, t_, t_, t_, t_, f_, f_, f_, f_, f_, f_, f_, f_, f_, f_, f_, f_, f_, f_, f_, f_, f_, f_, f_, f_, f_, f_, f_, f_, f_, f_, f_] rfl rfl (any_of HT_.out (by kernel_rfl)) (fun _ _ _ h => h) (Or.inl ⟨by rfl, ?_⟩) ?_ ?_
                   rotate_left
                   · intro w'
                     go_simp
                     with_reducible rfl
                   rotate_left
                   · simp only [Act.put, List.setIfInBounds_toArray, List.set_cons_zero, List.set_cons_succ, i64_w, i32_w]
                     rfl
                   refine pure_ (i := 25) (N := some 42) (v := ?_) (a' := ?_) #[t_, t_, t_, t_, t_, t_, t_, t_, t_, t_, t_, t_, t_, t_, t_, t_, t_, t_, t_, t_, t_, t_, t_, t_, t_, t_, f_, f_, f_, f_, f_, f_, f_, f_, f_, f_, f_, f_, f_, f_, f_, f_, f_, f_, f_, f_, f_, f_, f_, f_, f_, f_] rfl rfl (any_of HT_.out (by kernel_rfl)) (fun _ _ _ h => h) (Or.inl ⟨by rfl, ?_⟩) ?_ ?_
                   rotate_left
                   · intro w'
                     go_simp
                     with_reducible rfl
                   rotate_left
                   · simp only [Act.put, List.setIfInBounds_toArray, List.set_cons_zero, List.set_cons_succ, i64_w, i32_w]
                     rfl
                   refine pure_ (i := 26) (N := some 43) (v := ?_) (a' := ?_) #[t_, t_, t_, t_, t_, t_, t_, t_, t_, t_, t_, t_, t_, t_, t_, t_, t_, t_, t_, t_, t_, t_, t_, t_, t_, t_, t_, f_, f_, f_, f_, f_, f_, f_, f_, f_, f_, f_, f_, f_, f_, f_, f_, f_, f_, f_, f_, f_, f_, f_, f_, f_] rfl rfl (any_of HT_.out (by kernel_rfl)) (fun _ _ _ h => h) (Or.inl ⟨by rfl, ?_⟩) ?_ ?_
                   rotate_left
                   · intro w'
                     go_simp
                     with_reducible rfl
                   rotate_left
                   · simp only [Act.put, List.setIfInBounds_toArray, List.set_cons_zero, List.set_cons_succ, i64_w, i32_w]
                     rfl
                   refine pure_ (i := 27) (N := some 44) (v := ?_) (a' := ?_) #[t_, t_, t_, t_, t_, t_, t_, t_, t_, t_, t_, t_, t_, t_, t_, t_, t_, t_, t_, t_, t_, t_, t_, t_, t_, t_, t_, t_, f_, f_, f_, f_, f_, f_, f_, f_, f_, f_, f_, f_, f_, f_, f_, f_, f_, f_, f_, f_, f_, f_, f_, f_] rfl rfl (any_of HT_.out (by kernel_rfl)) (fun _ _ _ h => h) (Or.inl ⟨by rfl, ?_⟩) ?_ ?_
                   rotate_left
                   · intro w'
                     go_simp
                     with_reducible rfl
                   rotate_left
                   · simp only [Act.put, List.setIfInBounds_toArray, List.set_cons_zero, List.set_cons_succ, i64_w, i32_w]
                     rfl
                   refine pure_ (i := 28) (N := some 45) (v := ?_) (a' := ?_) #[t_, t_, t_, t_, t_, t_, t_, t_, t_, t_, t_, t_, t_, t_, t_, t_, t_, t_, t_, t_, t_, t_, t_, t_, t_, t_, t_, t_, t_, f_, f_, f_, f_, f_, f_, f_, f_, f_, f_, f_, f_, f_, f_, f_, f_, f_, f_, f_, f_, f_, f_, f_] rfl rfl (any_of HT_.out (by kernel_rfl)) (fun _ _ _ h => h) (Or.inl ⟨by rfl, ?_⟩) ?_ ?_
                   rotate_left
                   · intro w'
                     go_simp
                     with_reducible rfl
                   rotate_left
                   · simp only [Act.put, List.setIfInBounds_toArray, List.set_cons_zero, List.set_cons_succ, i64_w, i32_w]
                     rfl
                   refine pure_ (i := 30) (N := some 47) (v := ?_) (a' := ?_) #[t_, t_, t_, t_, t_, t_, t_, t_, t_, t_, t_, t_, t_, t_, t_, t_, t_, t_, t_, t_, t_, t_, t_, t_, t_, t_, t_, t_, t_, f_, t_, f_, f_, f_, f_, f_, f_, f_, f_, f_, f_, f_, f_, f_, f_, f_, f_, f_, f_, f_, f_, f_] rfl rfl (any_of HT_.out (by kernel_rfl)) (fun _ _ _ h => h) (Or.inl ⟨by rfl, ?_⟩) ?_ ?_
                   rotate_left
                   · intro w'
                     go_simp
                     with_reducible rfl
                   rotate_left
                   · simp only [Act.put, List.setIfInBounds_toArray, List.set_cons_zero, List.set_cons_succ, i64_w, i32_w]
                     rfl
                   refine pure_ (i := 31) (N := some 48) (v := ?_) (a' := ?_) #[t_, t_, t_, t_, t_, t_, t_, t_, t_, t_, t_, t_, t_, t_, t_, t_, t_, t_, t_, t_, t_, t_, t_, t_, t_, t_, t_, t_, t_, f_, t_, t_, f_, f_, f_, f_, f_, f_, f_, f_, f_, f_, f_, f_, f_, f_, f_, f_, f_, f_, f_, f_] rfl rfl (any_of HT_.out (by kernel_rfl)) (fun _ _ _ h => h) (Or.inl ⟨by rfl, ?_⟩) ?_ ?_
                   rotate_left
                   · intro w'
                     go_simp
                     with_reducible rfl
                   rotate_left
                   · simp only [Act.put, List.setIfInBounds_toArray, List.set_cons_zero, List.set_cons_succ, i64_w, i32_w]
                     rfl
                   refine pure_ (i := 32) (N := some 49) (v := ?_) (a' := ?_) #[t_, t_, t_, t_, t_, t_, t_, t_, t_, t_, t_, t_, t_, t_, t_, t_, t_, t_, t_, t_, t_, t_, t_, t_, t_, t_, t_, t_, t_, f_, t_, t_, t_, f_, f_, f_, f_, f_, f_, f_, f_, f_, f_, f_, f_, f_, f_, f_, f_, f_, f_, f_] rfl rfl (any_of HT_.out (by kernel_rfl)) (fun _ _ _ h => h) (Or.inl ⟨by rfl, ?_⟩) ?_ ?_
                   rotate_left
                   · intro w'
                     go_simp
                     with_reducible rfl
                   rotate_left
                   · simp only [Act.put, List.setIfInBounds_toArray, List.set_cons_zero, List.set_cons_succ, i64_w, i32_w]
                     rfl
                   refine pure_ (i := 33) (N := some 50) (v := ?_) (a' := ?_) #[t_, t_, t_, t_, t_, t_, t_, t_, t_, t_, t_, t_, t_, t_, t_, t_, t_, t_, t_, t_, t_, t_, t_, t_, t_, t_, t_, t_, t_, f_, t_, t_, t_, t_, f_, f_, f_, f_, f_, f_, f_, f_, f_, f_, f_, f_, f_, f_, f_, f_, f_, f_] rfl rfl (any_of HT_.out (by kernel_rfl)) (fun _ _ _ h => h) (Or.inl ⟨by rfl, ?_⟩) ?_ ?_
                   rotate_left
                   · intro w'
                     go_simp
                     with_reducible rfl
                   rotate_left
                   · simp only [Act.put, List.setIfInBounds_toArray, List.set_cons_zero, List.set_cons_succ, i64_w, i32_w]
                     rfl
                   refine take_ (i := 29) (N := some 46) (v := ?_) (a' := ?_) #[t_, t_, t_, t_, t_, t_, t_, t_, t_, t_, t_, t_, t_, t_, t_, t_, t_, t_, t_, t_, t_, t_, t_, t_, t_, t_, t_, t_, t_, t_, t_, t_, t_, t_, f_, f_, f_, f_, f_, f_, f_, f_, f_, f_, f_, f_, f_, f_, f_, f_, f_, f_] rfl rfl (take_ofW HT_.out HW_.out (by kernel_rfl)) (fun _ _ _ h => h) (Or.inl ⟨by rfl, ?_⟩) hHeld ?_ ?_
                   rotate_left
                   · rintro w' ⟨s0, s1, s2, s3, s4, s5, s6, s7, s8, s9, s10, s11, s12, s13, s14, s15, s16, s17, s18, s19, s20, s21, s22, s23, s24, s25, s26, s27, s28, s29, s30, s31⟩
                     go_simp
                     with_reducible rfl
                   rotate_left
                   · simp only [Act.put, List.setIfInBounds_toArray, List.set_cons_zero, List.set_cons_succ, i64_w, i32_w]
                     rfl
                   refine take_ (i := 34) (N := some 51) (v := ?_) (a' := ?_) #[t_, t_, t_, t_, t_, t_, t_, t_, t_, t_, t_, t_, t_, t_, t_, t_, t_, t_, t_, t_, t_, t_, t_, t_, t_, t_, t_, t_, t_, t_, t_, t_, t_, t_, t_, f_, f_, f_, f_, f_, f_, f_, f_, f_, f_, f_, f_, f_, f_, f_, f_, f_] rfl rfl (take_ofW HT_.out HW_.out (by kernel_rfl)) (fun _ _ _ h => h) (Or.inl ⟨by rfl, ?_⟩) hHeld ?_ ?_
                   rotate_left
                   · rintro w' ⟨s0, s1, s2, s3, s4, s5, s6, s7, s8, s9, s10, s11, s12, s13, s14, s15, s16, s17, s18, s19, s20, s21, s22, s23, s24, s25, s26, s27, s28, s29, s30, s31⟩
                     go_simp
                     with_reducible rfl
                   rotate_left
                   · simp only [Act.put, List.setIfInBounds_toArray, List.set_cons_zero, List.set_cons_succ, i64_w, i32_w]
                     rfl
                   refine one_ (i := 35) (N := some 52) #[t_, t_, t_, t_, t_, t_, t_, t_, t_, t_, t_, t_, t_, t_, t_, t_, t_, t_, t_, t_, t_, t_, t_, t_, t_, t_, t_, t_, t_, t_, t_, t_, t_, t_, t_, t_, f_, f_, f_, f_, f_, f_, f_, f_, f_, f_, f_, f_, f_, f_, f_, f_] rfl rfl (one_of HT_.out (by kernel_rfl)) (by decide) (fun K hK => ?_)
                   refine goes_ Try.func29 (by kernel_rfl) rfl #[.slice A103_2 ((rd_T34 l0 x5_1).f2).length c103_2, .slice A104_2 ((rd_T34 l1 x5_1).f2).length c104_2] (by rfl) rfl rfl (by (try simp only [List.map_toArray, List.map_cons, List.map_nil]); first | done | rfl | (simp only [List.length_drop, List.length_take]; rfl)) ?_
                   with_reducible refine (spec_Same.calls k1 _ _ ((rd_T34 l0 x5_1).f2) _ _ ((rd_T34 l1 x5_1).f2) true _ ?side1 ?side2 ?side3 ?side4 A10.out).mono ?_
                   (case side1 => repeat (first | exact (Kd.C_below HR107_2.out HB.out) | (with_reducible refine Kd.C_alloc ?_ _) | (with_reducible refine Kd.C_drewN ?_ _) | (with_reducible refine Kd.C_drew ?_)))
                   (case side2 => exact HC107_2.out)
                   (case side3 => repeat (first | exact (Kd.C_below HR108_2.out HB.out) | (with_reducible refine Kd.C_alloc ?_ _) | (with_reducible refine Kd.C_drewN ?_ _) | (with_reducible refine Kd.C_drew ?_)))
                   (case side4 => exact HC108_2.out)
                   rintro e w' ⟨rfl, ⟨nd, rfl⟩⟩
                   refine ⟨_, rfl, ?_⟩
                   refine hK.out _ _ ⟨((HB.out.cell (bl_ w _ hw103_0)).trans hw103_0), ((HB.out.cell (bl_ w _ hw103_1)).trans hw103_1), ((HB.out.cell (bl_ w _ hw103_2)).trans hw103_2), ((HB.out.cell (bl_ w _ hw103_3)).trans hw103_3), ((HB.out.cell (bl_ w _ hw104_0)).trans hw104_0), ((HB.out.cell (bl_ w _ hw104_1)).trans hw104_1), ((HB.out.cell (bl_ w _ hw104_2)).trans hw104_2), ((HB.out.cell (bl_ w _ hw104_3)).trans hw104_3), ((HB.out.cell (bl_ w _ hw105_0)).trans hw105_0), ((HB.out.cell (bl_ w _ hw105_1)).trans hw105_1), ((HB.out.cell (bl_ w _ hw105_2)).trans hw105_2), ((HB.out.cell (bl_ w _ hw105_3)).trans hw105_3), ((HB.out.cell (bl_ w _ hw106_0)).trans hw106_0), ((HB.out.cell (bl_ w _ hw106_1)).trans hw106_1), ((HB.out.cell (bl_ w _ hw106_2)).trans hw106_2), ((HB.out.cell (bl_ w _ hw106_3)).trans hw106_3), ((HB.out.cell (bl_ w _ hw107_0)).trans hw107_0), ((HB.out.cell (bl_ w _ hw107_1)).trans hw107_1), ((HB.out.cell (bl_ w _ hw107_2)).trans hw107_2), ((HB.out.cell (bl_ w _ hw107_3)).trans hw107_3), ((HB.out.cell (bl_ w _ hw108_0)).trans hw108_0), ((HB.out.cell (bl_ w _ hw108_1)).trans hw108_1), ((HB.out.cell (bl_ w _ hw108_2)).trans hw108_2), ((HB.out.cell (bl_ w _ hw108_3)).trans hw108_3), ((HB.out.cell (bl_ w _ hw110_0)).trans hw110_0), ((HB.out.cell (bl_ w _ hw110_1)).trans hw110_1), ((HB.out.cell (bl_ w _ hw110_2)).trans hw110_2), ((HB.out.cell (bl_ w _ hw110_3)).trans hw110_3), ((HB.out.cell (bl_ w _ hw111_0)).trans hw111_0), ((HB.out.cell (bl_ w _ hw111_1)).trans hw111_1), ((HB.out.cell (bl_ w _ hw111_2)).trans hw111_2), ((HB.out.cell (bl_ w _ hw111_3)).trans hw111_3)⟩ (fun hHeld => ?_)
                   clear hK K
                   refine norm_ (a' := ?_) ?_ ?_
                   rotate_left
                   · show Act.put _ (some 52) _ = _
                     simp only [Act.put, List.setIfInBounds_toArray, List.set_cons_zero, List.set_cons_succ, i64_w, i32_w]
                     rfl
                   refine pure_ (i := 36) (N := some 53) (v := ?_) (a' := ?_) #[t_, t_, t_, t_, t_, t_, t_, t_, t_, t_, t_, t_, t_, t_, t_, t_, t_, t_, t_, t_, t_, t_, t_, t_, t_, t_, t_, t_, t_, t_, t_, t_, t_, t_, t_, t_, t_, f_, f_, f_, f_, f_, f_, f_, f_, f_, f_, f_, f_, f_, f_, f_] rfl rfl (any_of HT_.out (by kernel_rfl)) (fun _ _ _ h => h) (Or.inl ⟨by rfl, ?_⟩) ?_ ?_
                   rotate_left
                   · intro w'
                     go_simp
                     with_reducible rfl
                   rotate_left
                   · simp only [Act.put, List.setIfInBounds_toArray, List.set_cons_zero, List.set_cons_succ, i64_w, i32_w]
                     rfl
                   refine pure_ (i := 37) (N := some 54) (v := ?_) (a' := ?_) #[t_, t_, t_, t_, t_, t_, t_, t_, t_, t_, t_, t_, t_, t_, t_, t_, t_, t_, t_, t_, t_, t_, t_, t_, t_, t_, t_, t_, t_, t_, t_, t_, t_, t_, t_, t_, t_, t_, f_, f_, f_, f_, f_, f_, f_, f_, f_, f_, f_, f_, f_, f_] rfl rfl (any_of HT_.out (by kernel_rfl)) (fun _ _ _ h => h) (Or.inl ⟨by rfl, ?_⟩) ?_ ?_
                   rotate_left
                   · intro w'
                     go_simp
                     with_reducible rfl
                   rotate_left
                   · simp only [Act.put, List.setIfInBounds_toArray, List.set_cons_zero, List.set_cons_succ, i64_w, i32_w]
                     rfl
                   refine pure_ (i := 38) (N := some 55) (v := ?_) (a' := ?_) #[t_, t_, t_, t_, t_, t_, t_, t_, t_, t_, t_, t_, t_, t_, t_, t_, t_, t_, t_, t_, t_, t_, t_, t_, t_, t_, t_, t_, t_, t_, t_, t_, t_, t_, t_, t_, t_, t_, t_, f_, f_, f_, f_, f_, f_, f_, f_, f_, f_, f_, f_, f_] rfl rfl (any_of HT_.out (by kernel_rfl)) (fun _ _ _ h => h) (Or.inl ⟨by rfl, ?_⟩) ?_ ?_
                   rotate_left
                   · intro w'
                     go_simp
                     with_reducible rfl
                   rotate_left
                   · simp only [Act.put, List.setIfInBounds_toArray, List.set_cons_zero, List.set_cons_succ, i64_w, i32_w]
                     rfl
                   refine pure_ (i := 39) (N := some 56) (v := ?_) (a' := ?_) #[t_, t_, t_, t_, t_, t_, t_, t_, t_, t_, t_, t_, t_, t_, t_, t_, t_, t_, t_, t_, t_, t_, t_, t_, t_, t_, t_, t_, t_, t_, t_, t_, t_, t_, t_, t_, t_, t_, t_, t_, f_, f_, f_, f_, f_, f_, f_, f_, f_, f_, f_, f_] rfl rfl (any_of HT_.out (by kernel_rfl)) (fun _ _ _ h => h) (Or.inl ⟨by rfl, ?_⟩) ?_ ?_
                   rotate_left
                   · intro w'
                     go_simp
                     with_reducible rfl
                   rotate_left
                   · simp only [Act.put, List.setIfInBounds_toArray, List.set_cons_zero, List.set_cons_succ, i64_w, i32_w]
                     rfl
                   refine pure_ (i := 40) (N := some 57) (v := ?_) (a' := ?_) #[t_, t_, t_, t_, t_, t_, t_, t_, t_, t_, t_, t_, t_, t_, t_, t_, t_, t_, t_, t_, t_, t_, t_, t_, t_, t_, t_, t_, t_, t_, t_, t_, t_, t_, t_, t_, t_, t_, t_, t_, t_, f_, f_, f_, f_, f_, f_, f_, f_, f_, f_, f_] rfl rfl (any_of HT_.out (by kernel_rfl)) (fun _ _ _ h => h) (Or.inl ⟨by rfl, ?_⟩) ?_ ?_
                   rotate_left
                   · intro w'
                     go_simp
                     with_reducible rfl
                   rotate_left
                   · simp only [Act.put, List.setIfInBounds_toArray, List.set_cons_zero, List.set_cons_succ, i64_w, i32_w]
                     rfl
                   refine pure_ (i := 41) (N := some 58) (v := ?_) (a' := ?_) #[t_, t_, t_, t_, t_, t_, t_, t_, t_, t_, t_, t_, t_, t_, t_, t_, t_, t_, t_, t_, t_, t_, t_, t_, t_, t_, t_, t_, t_, t_, t_, t_, t_, t_, t_, t_, t_, t_, t_, t_, t_, t_, f_, f_, f_, f_, f_, f_, f_, f_, f_, f_] rfl rfl (any_of HT_.out (by kernel_rfl)) (fun _ _ _ h => h) (Or.inl ⟨by rfl, ?_⟩) ?_ ?_
                   rotate_left
                   · intro w'
                     go_simp
                     with_reducible rfl
                   rotate_left
                   · simp only [Act.put, List.setIfInBounds_toArray, List.set_cons_zero, List.set_cons_succ, i64_w, i32_w]
                     rfl
                   refine pure_ (i := 42) (N := some 59) (v := ?_) (a' := ?_) #[t_, t_, t_, t_, t_, t_, t_, t_, t_, t_, t_, t_, t_, t_, t_, t_, t_, t_, t_, t_, t_, t_, t_, t_, t_, t_, t_, t_, t_, t_, t_, t_, t_, t_, t_, t_, t_, t_, t_, t_, t_, t_, t_, f_, f_, f_, f_, f_, f_, f_, f_, f_] rfl rfl (any_of HT_.out (by kernel_rfl)) (fun _ _ _ h => h) (Or.inl ⟨by rfl, ?_⟩) ?_ ?_
                   rotate_left
                   · intro w'
                     go_simp
                     with_reducible rfl
                   rotate_left
                   · simp only [Act.put, List.setIfInBounds_toArray, List.set_cons_zero, List.set_cons_succ, i64_w, i32_w]
                     rfl
                   refine pure_ (i := 44) (N := some 61) (v := ?_) (a' := ?_) #[t_, t_, t_, t_, t_, t_, t_, t_, t_, t_, t_, t_, t_, t_, t_, t_, t_, t_, t_, t_, t_, t_, t_, t_, t_, t_, t_, t_, t_, t_, t_, t_, t_, t_, t_, t_, t_, t_, t_, t_, t_, t_, t_, f_, t_, f_, f_, f_, f_, f_, f_, f_] rfl rfl (any_of HT_.out (by kernel_rfl)) (fun _ _ _ h => h) (Or.inl ⟨by rfl, ?_⟩) ?_ ?_
                   rotate_left
                   · intro w'
                     go_simp
                     with_reducible rfl
                   rotate_left
                   · simp only [Act.put, List.setIfInBounds_toArray, List.set_cons_zero, List.set_cons_succ, i64_w, i32_w]
                     rfl
                   refine pure_ (i := 45) (N := some 62) (v := ?_) (a' := ?_) #[t_, t_, t_, t_, t_, t_, t_, t_, t_, t_, t_, t_, t_, t_, t_, t_, t_, t_, t_, t_, t_, t_, t_, t_, t_, t_, t_, t_, t_, t_, t_, t_, t_, t_, t_, t_, t_, t_, t_, t_, t_, t_, t_, f_, t_, t_, f_, f_, f_, f_, f_, f_] rfl rfl (any_of HT_.out (by kernel_rfl)) (fun _ _ _ h => h) (Or.inl ⟨by rfl, ?_⟩) ?_ ?_
                   rotate_left
                   · intro w'
                     go_simp
                     with_reducible rfl
                   rotate_left
                   · simp only [Act.put, List.setIfInBounds_toArray, List.set_cons_zero, List.set_cons_succ, i64_w, i32_w]
                     rfl
                   refine pure_ (i := 46) (N := some 63) (v := ?_) (a' := ?_) #[t_, t_, t_, t_, t_, t_, t_, t_, t_, t_, t_, t_, t_, t_, t_, t_, t_, t_, t_, t_, t_, t_, t_, t_, t_, t_, t_, t_, t_, t_, t_, t_, t_, t_, t_, t_, t_, t_, t_, t_, t_, t_, t_, f_, t_, t_, t_, f_, f_, f_, f_, f_] rfl rfl (any_of HT_.out (by kernel_rfl)) (fun _ _ _ h => h) (Or.inl ⟨by rfl, ?_⟩) ?_ ?_
                   rotate_left
                   · intro w'
                     go_simp
                     with_reducible rfl
                   rotate_left
                   · simp only [Act.put, List.setIfInBounds_toArray, List.set_cons_zero, List.set_cons_succ, i64_w, i32_w]
                     rfl
                   refine pure_ (i := 47) (N := some 64) (v := ?_) (a' := ?_) #[t_, t_, t_, t_, t_, t_, t_, t_, t_, t_, t_, t_, t_, t_, t_, t_, t_, t_, t_, t_, t_, t_, t_, t_, t_, t_, t_, t_, t_, t_, t_, t_, t_, t_, t_, t_, t_, t_, t_, t_, t_, t_, t_, f_, t_, t_, t_, t_, f_, f_, f_, f_] rfl rfl (any_of HT_.out (by kernel_rfl)) (fun _ _ _ h => h) (Or.inl ⟨by rfl, ?_⟩) ?_ ?_
                   rotate_left
                   · intro w'
                     go_simp
                     with_reducible rfl
                   rotate_left
                   · simp only [Act.put, List.setIfInBounds_toArray, List.set_cons_zero, List.set_cons_succ, i64_w, i32_w]
                     rfl
                   refine take_ (i := 43) (N := some 60) (v := ?_) (a' := ?_) #[t_, t_, t_, t_, t_, t_, t_, t_, t_, t_, t_, t_, t_, t_, t_, t_, t_, t_, t_, t_, t_, t_, t_, t_, t_, t_, t_, t_, t_, t_, t_, t_, t_, t_, t_, t_, t_, t_, t_, t_, t_, t_, t_, t_, t_, t_, t_, t_, f_, f_, f_, f_] rfl rfl (take_ofW HT_.out HW_.out (by kernel_rfl)) (fun _ _ _ h => h) (Or.inl ⟨by rfl, ?_⟩) hHeld ?_ ?_
                   rotate_left
                   · rintro w' ⟨s0, s1, s2, s3, s4, s5, s6, s7, s8, s9, s10, s11, s12, s13, s14, s15, s16, s17, s18, s19, s20, s21, s22, s23, s24, s25, s26, s27, s28, s29, s30, s31⟩
                     go_simp
                     with_reducible rfl
                   rotate_left
                   · simp only [Act.put, List.setIfInBounds_toArray, List.set_cons_zero, List.set_cons_succ, i64_w, i32_w]
                     rfl
                   refine take_ (i := 48) (N := some 65) (v := ?_) (a' := ?_) #[t_, t_, t_, t_, t_, t_, t_, t_, t_, t_, t_, t_, t_, t_, t_, t_, t_, t_, t_, t_, t_, t_, t_, t_, t_, t_, t_, t_, t_, t_, t_, t_, t_, t_, t_, t_, t_, t_, t_, t_, t_, t_, t_, t_, t_, t_, t_, t_, t_, f_, f_, f_] rfl rfl (take_ofW HT_.out HW_.out (by kernel_rfl)) (fun _ _ _ h => h) (Or.inl ⟨by rfl, ?_⟩) hHeld ?_ ?_
                   rotate_left
                   · rintro w' ⟨s0, s1, s2, s3, s4, s5, s6, s7, s8, s9, s10, s11, s12, s13, s14, s15, s16, s17, s18, s19, s20, s21, s22, s23, s24, s25, s26, s27, s28, s29, s30, s31⟩
                     go_simp
                     with_reducible rfl
                   rotate_left
                   · simp only [Act.put, List.setIfInBounds_toArray, List.set_cons_zero, List.set_cons_succ, i64_w, i32_w]
                     rfl
                   refine one_ (i := 49) (N := some 66) #[t_, t_, t_, t_, t_, t_, t_, t_, t_, t_, t_, t_, t_, t_, t_, t_, t_, t_, t_, t_, t_, t_, t_, t_, t_, t_, t_, t_, t_, t_, t_, t_, t_, t_, t_, t_, t_, t_, t_, t_, t_, t_, t_, t_, t_, t_, t_, t_, t_, t_, f_, f_] rfl rfl (one_of HT_.out (by kernel_rfl)) (by decide) (fun K hK => ?_)
                   refine goes_ Try.func29 (by kernel_rfl) rfl #[.slice A103_3 ((rd_T34 l0 x5_1).f3).length c103_3, .slice A104_3 ((rd_T34 l1 x5_1).f3).length c104_3] (by rfl) rfl rfl (by (try simp only [List.map_toArray, List.map_cons, List.map_nil]); first | done | rfl | (simp only [List.length_drop, List.length_take]; rfl)) ?_
                   with_reducible refine (spec_Same.calls k1 _ _ ((rd_T34 l0 x5_1).f3) _ _ ((rd_T34 l1 x5_1).f3) true _ ?side1 ?side2 ?side3 ?side4 A12.out).mono ?_
                   (case side1 => repeat (first | exact (Kd.C_below HR110_3.out (by repeat (first | (with_reducible first | exact HB.out | apply below_alloc | apply pw_below_drewN | apply below_drew1) | exact HB.out))) | (with_reducible refine Kd.C_alloc ?_ _) | (with_reducible refine Kd.C_drewN ?_ _) | (with_reducible refine Kd.C_drew ?_)))
                   (case side2 => exact HC110_3.out)
                   (case side3 => repeat (first | exact (Kd.C_below HR111_3.out (by repeat (first | (with_reducible first | exact HB.out | apply below_alloc | apply pw_below_drewN | apply below_drew1) | exact HB.out))) | (with_reducible refine Kd.C_alloc ?_ _) | (with_reducible refine Kd.C_drewN ?_ _) | (with_reducible refine Kd.C_drew ?_)))
                   (case side4 => exact HC111_3.out)
                   rintro e w' ⟨rfl, ⟨nd, rfl⟩⟩
                   refine ⟨_, rfl, ?_⟩
                   refine hK.out _ _ ⟨((HB.out.cell (bl_ w _ hw103_0)).trans hw103_0), ((HB.out.cell (bl_ w _ hw103_1)).trans hw103_1), ((HB.out.cell (bl_ w _ hw103_2)).trans hw103_2), ((HB.out.cell (bl_ w _ hw103_3)).trans hw103_3), ((HB.out.cell (bl_ w _ hw104_0)).trans hw104_0), ((HB.out.cell (bl_ w _ hw104_1)).trans hw104_1), ((HB.out.cell (bl_ w _ hw104_2)).trans hw104_2), ((HB.out.cell (bl_ w _ hw104_3)).trans hw104_3), ((HB.out.cell (bl_ w _ hw105_0)).trans hw105_0), ((HB.out.cell (bl_ w _ hw105_1)).trans hw105_1), ((HB.out.cell (bl_ w _ hw105_2)).trans hw105_2), ((HB.out.cell (bl_ w _ hw105_3)).trans hw105_3), ((HB.out.cell (bl_ w _ hw106_0)).trans hw106_0), ((HB.out.cell (bl_ w _ hw106_1)).trans hw106_1), ((HB.out.cell (bl_ w _ hw106_2)).trans hw106_2), ((HB.out.cell (bl_ w _ hw106_3)).trans hw106_3), ((HB.out.cell (bl_ w _ hw107_0)).trans hw107_0), ((HB.out.cell (bl_ w _ hw107_1)).trans hw107_1), ((HB.out.cell (bl_ w _ hw107_2)).trans hw107_2), ((HB.out.cell (bl_ w _ hw107_3)).trans hw107_3), ((HB.out.cell (bl_ w _ hw108_0)).trans hw108_0), ((HB.out.cell (bl_ w _ hw108_1)).trans hw108_1), ((HB.out.cell (bl_ w _ hw108_2)).trans hw108_2), ((HB.out.cell (bl_ w _ hw108_3)).trans hw108_3), ((HB.out.cell (bl_ w _ hw110_0)).trans hw110_0), ((HB.out.cell (bl_ w _ hw110_1)).trans hw110_1), ((HB.out.cell (bl_ w _ hw110_2)).trans hw110_2), ((HB.out.cell (bl_ w _ hw110_3)).trans hw110_3), ((HB.out.cell (bl_ w _ hw111_0)).trans hw111_0), ((HB.out.cell (bl_ w _ hw111_1)).trans hw111_1), ((HB.out.cell (bl_ w _ hw111_2)).trans hw111_2), ((HB.out.cell (bl_ w _ hw111_3)).trans hw111_3)⟩ (fun hHeld => ?_)
                   clear hK K
                   refine norm_ (a' := ?_) ?_ ?_
                   rotate_left
                   · show Act.put _ (some 66) _ = _
                     simp only [Act.put, List.setIfInBounds_toArray, List.set_cons_zero, List.set_cons_succ, i64_w, i32_w]
                     rfl
                   refine pure_ (i := 50) (N := some 67) (v := ?_) (a' := ?_) #[t_, t_, t_, t_, t_, t_, t_, t_, t_, t_, t_, t_, t_, t_, t_, t_, t_, t_, t_, t_, t_, t_, t_, t_, t_, t_, t_, t_, t_, t_, t_, t_, t_, t_, t_, t_, t_, t_, t_, t_, t_, t_, t_, t_, t_, t_, t_, t_, t_, t_, t_, f_] rfl rfl (any_of HT_.out (by kernel_rfl)) (fun _ _ _ h => h) (Or.inl ⟨by rfl, ?_⟩) ?_ ?_
                   rotate_left
                   · intro w'
                     go_simp
                     with_reducible rfl
                   rotate_left
                   · simp only [Act.put, List.setIfInBounds_toArray, List.set_cons_zero, List.set_cons_succ, i64_w, i32_w]
                     rfl
                   refine pure_ (i := 51) (N := some 68) (v := ?_) (a' := ?_) #[t_, t_, t_, t_, t_, t_, t_, t_, t_, t_, t_, t_, t_, t_, t_, t_, t_, t_, t_, t_, t_, t_, t_, t_, t_, t_, t_, t_, t_, t_, t_, t_, t_, t_, t_, t_, t_, t_, t_, t_, t_, t_, t_, t_, t_, t_, t_, t_, t_, t_, t_, t_] rfl rfl (any_of HT_.out (by kernel_rfl)) (fun _ _ _ h => h) (Or.inl ⟨by rfl, ?_⟩) ?_ ?_
                   rotate_left
                   · intro w'
                     go_simp
                     with_reducible rfl
                   rotate_left
                   · simp only [Act.put, List.setIfInBounds_toArray, List.set_cons_zero, List.set_cons_succ, i64_w, i32_w]
                     rfl
                   refine done_ (done_of HT_.out (by kernel_rfl)) ?_
                   try go_wp2
                   go_roundg k1
                   case measure => have := HK1.out; omega
                   case rel => exact ⟨(wrap64 (x5_1 + 1)), (by first | rfl | (simp; done) | (simp [*]; done)), H', ⟨by have := HK1.out; omega⟩, ⟨by repeat (first | (with_reducible first | exact HB.out | apply below_alloc | apply pw_below_drewN | apply below_drew1) | exact HB.out)⟩⟩
                 · replace c13 := Bool.eq_false_iff.mpr c13
                   subst c13
                   have H1 : (some false) = some r := by rw [if_neg (show ¬ (false = true) by decide)] at H; exact H
                   clear H
                   have H := H1
                   clear H1
                   obtain rfl := Option.some.inj H
                   try go_wp2
                   have n0_ := A0_ (below_drew1 HB.out)
                   clear HB
                   have HB := n0_
                   clear n0_
                   have p103 : 0 ≤ (x5_1 : Int) := od_ (by first | (with_reducible assumption) | assumption)
                   have q103 : x5_1 < (l0.length : Int) := od_ (by first | (with_reducible assumption) | assumption)
                   obtain ⟨ad103, A103_2, c103_2, A103_3, c103_3, e103, hx103_0, hx103_1, hx103_2, hx103_3, hl103_2, hi103_2, hl103_3, hi103_3⟩ := at_T34 HR0.out x5_1 p103 q103
                   have hw103_3 := hx103_3
                   have hw103_2 := hx103_2
                   have hw103_1 := hx103_1
                   have hw103_0 := hx103_0
                   cases e103
                   replace hx103_0 := (HB.out.cell (bl_ w _ hx103_0)).trans hx103_0
                   replace hx103_1 := (HB.out.cell (bl_ w _ hx103_1)).trans hx103_1
                   replace hx103_2 := (HB.out.cell (bl_ w _ hx103_2)).trans hx103_2
                   replace hx103_3 := (HB.out.cell (bl_ w _ hx103_3)).trans hx103_3
                   have HR103_2 := A0_ hi103_2
                   have HC103_2 := A0_ hl103_2
                   clear hi103_2 hl103_2
                   have HR103_3 := A0_ hi103_3
                   have HC103_3 := A0_ hl103_3
                   clear hi103_3 hl103_3
                   replace p103 := eq_true p103
                   replace q103 := eq_true q103
                   have p104 : 0 ≤ (x5_1 : Int) := od_ (by first | (with_reducible assumption) | assumption)
                   have q104 : x5_1 < (l1.length : Int) := od_ (by first | (with_reducible assumption) | assumption)
                   obtain ⟨ad104, A104_2, c104_2, A104_3, c104_3, e104, hx104_0, hx104_1, hx104_2, hx104_3, hl104_2, hi104_2, hl104_3, hi104_3⟩ := at_T34 HR1.out x5_1 p104 q104
                   have hw104_3 := hx104_3
                   have hw104_2 := hx104_2
                   have hw104_1 := hx104_1
                   have hw104_0 := hx104_0
                   cases e104
                   replace hx104_0 := (HB.out.cell (bl_ w _ hx104_0)).trans hx104_0
                   replace hx104_1 := (HB.out.cell (bl_ w _ hx104_1)).trans hx104_1
                   replace hx104_2 := (HB.out.cell (bl_ w _ hx104_2)).trans hx104_2
                   replace hx104_3 := (HB.out.cell (bl_ w _ hx104_3)).trans hx104_3
                   have HR104_2 := A0_ hi104_2
                   have HC104_2 := A0_ hl104_2
                   clear hi104_2 hl104_2
                   have HR104_3 := A0_ hi104_3
                   have HC104_3 := A0_ hl104_3
                   clear hi104_3 hl104_3
                   replace p104 := eq_true p104
                   replace q104 := eq_true q104
                   have p105 : 0 ≤ (x5_1 : Int) := od_ (by first | (with_reducible assumption) | assumption)
                   have q105 : x5_1 < (l0.length : Int) := od_ (by first | (with_reducible assumption) | assumption)
                   obtain ⟨ad105, A105_2, c105_2, A105_3, c105_3, e105, hx105_0, hx105_1, hx105_2, hx105_3, hl105_2, hi105_2, hl105_3, hi105_3⟩ := at_T34 HR0.out x5_1 p105 q105
                   have hw105_3 := hx105_3
                   have hw105_2 := hx105_2
                   have hw105_1 := hx105_1
                   have hw105_0 := hx105_0
                   obtain rfl : ad103 = ad105 := (by injection e105)
                   replace hx105_0 := (HB.out.cell (bl_ w _ hx105_0)).trans hx105_0
                   replace hx105_1 := (HB.out.cell (bl_ w _ hx105_1)).trans hx105_1
                   replace hx105_2 := (HB.out.cell (bl_ w _ hx105_2)).trans hx105_2
                   replace hx105_3 := (HB.out.cell (bl_ w _ hx105_3)).trans hx105_3
                   have HR105_2 := A0_ hi105_2
                   have HC105_2 := A0_ hl105_2
                   clear hi105_2 hl105_2
                   have HR105_3 := A0_ hi105_3
                   have HC105_3 := A0_ hl105_3
                   clear hi105_3 hl105_3
                   replace p105 := eq_true p105
                   replace q105 := eq_true q105
                   have ea_ := Option.some.inj (hx103_2.symm.trans hx105_2)
                   injection ea_ with ea_ en_ ec_
                   subst ea_
                   subst ec_
                   clear en_
                   have ea_ := Option.some.inj (hx103_3.symm.trans hx105_3)
                   injection ea_ with ea_ en_ ec_
                   subst ea_
                   subst ec_
                   clear en_
                   have p106 : 0 ≤ (x5_1 : Int) := od_ (by first | (with_reducible assumption) | assumption)
                   have q106 : x5_1 < (l1.length : Int) := od_ (by first | (with_reducible assumption) | assumption)
                   obtain ⟨ad106, A106_2, c106_2, A106_3, c106_3, e106, hx106_0, hx106_1, hx106_2, hx106_3, hl106_2, hi106_2, hl106_3, hi106_3⟩ := at_T34 HR1.out x5_1 p106 q106
                   have hw106_3 := hx106_3
                   have hw106_2 := hx106_2
                   have hw106_1 := hx106_1
                   have hw106_0 := hx106_0
                   obtain rfl : ad104 = ad106 := (by injection e106)
                   replace hx106_0 := (HB.out.cell (bl_ w _ hx106_0)).trans hx106_0
                   replace hx106_1 := (HB.out.cell (bl_ w _ hx106_1)).trans hx106_1
                   replace hx106_2 := (HB.out.cell (bl_ w _ hx106_2)).trans hx106_2
                   replace hx106_3 := (HB.out.cell (bl_ w _ hx106_3)).trans hx106_3
                   have HR106_2 := A0_ hi106_2
                   have HC106_2 := A0_ hl106_2
                   clear hi106_2 hl106_2
                   have HR106_3 := A0_ hi106_3
                   have HC106_3 := A0_ hl106_3
                   clear hi106_3 hl106_3
                   replace p106 := eq_true p106
                   replace q106 := eq_true q106
                   have ea_ := Option.some.inj (hx104_2.symm.trans hx106_2)
                   injection ea_ with ea_ en_ ec_
                   subst ea_
                   subst ec_
                   clear en_
                   have ea_ := Option.some.inj (hx104_3.symm.trans hx106_3)
                   injection ea_ with ea_ en_ ec_
                   subst ea_
                   subst ec_
                   clear en_
                   have p107 : 0 ≤ (x5_1 : Int) := od_ (by first | (with_reducible assumption) | assumption)
                   have q107 : x5_1 < (l0.length : Int) := od_ (by first | (with_reducible assumption) | assumption)
                   obtain ⟨ad107, A107_2, c107_2, A107_3, c107_3, e107, hx107_0, hx107_1, hx107_2, hx107_3, hl107_2, hi107_2, hl107_3, hi107_3⟩ := at_T34 HR0.out x5_1 p107 q107
                   have hw107_3 := hx107_3
                   have hw107_2 := hx107_2
                   have hw107_1 := hx107_1
                   have hw107_0 := hx107_0
                   obtain rfl : ad103 = ad107 := (by injection e107)
                   replace hx107_0 := (HB.out.cell (bl_ w _ hx107_0)).trans hx107_0
                   replace hx107_1 := (HB.out.cell (bl_ w _ hx107_1)).trans hx107_1
                   replace hx107_2 := (HB.out.cell (bl_ w _ hx107_2)).trans hx107_2
                   replace hx107_3 := (HB.out.cell (bl_ w _ hx107_3)).trans hx107_3
                   have HR107_2 := A0_ hi107_2
                   have HC107_2 := A0_ hl107_2
                   clear hi107_2 hl107_2
                   have HR107_3 := A0_ hi107_3
                   have HC107_3 := A0_ hl107_3
                   clear hi107_3 hl107_3
                   replace p107 := eq_true p107
                   replace q107 := eq_true q107
                   have ea_ := Option.some.inj (hx103_2.symm.trans hx107_2)
                   injection ea_ with ea_ en_ ec_
                   subst ea_
                   subst ec_
                   clear en_
                   have ea_ := Option.some.inj (hx103_3.symm.trans hx107_3)
                   injection ea_ with ea_ en_ ec_
                   subst ea_
                   subst ec_
                   clear en_
                   have p108 : 0 ≤ (x5_1 : Int) := od_ (by first | (with_reducible assumption) | assumption)
                   have q108 : x5_1 < (l1.length : Int) := od_ (by first | (with_reducible assumption) | assumption)
                   obtain ⟨ad108, A108_2, c108_2, A108_3, c108_3, e108, hx108_0, hx108_1, hx108_2, hx108_3, hl108_2, hi108_2, hl108_3, hi108_3⟩ := at_T34 HR1.out x5_1 p108 q108
                   have hw108_3 := hx108_3
                   have hw108_2 := hx108_2
                   have hw108_1 := hx108_1
                   have hw108_0 := hx108_0
                   obtain rfl : ad104 = ad108 := (by injection e108)
                   replace hx108_0 := (HB.out.cell (bl_ w _ hx108_0)).trans hx108_0
                   replace hx108_1 := (HB.out.cell (bl_ w _ hx108_1)).trans hx108_1
                   replace hx108_2 := (HB.out.cell (bl_ w _ hx108_2)).trans hx108_2
                   replace hx108_3 := (HB.out.cell (bl_ w _ hx108_3)).trans hx108_3
                   have HR108_2 := A0_ hi108_2
                   have HC108_2 := A0_ hl108_2
                   clear hi108_2 hl108_2
                   have HR108_3 := A0_ hi108_3
                   have HC108_3 := A0_ hl108_3
                   clear hi108_3 hl108_3
                   replace p108 := eq_true p108
                   replace q108 := eq_true q108
                   have ea_ := Option.some.inj (hx104_2.symm.trans hx108_2)
                   injection ea_ with ea_ en_ ec_
                   subst ea_
                   subst ec_
                   clear en_
                   have ea_ := Option.some.inj (hx104_3.symm.trans hx108_3)
                   injection ea_ with ea_ en_ ec_
                   subst ea_
                   subst ec_
                   clear en_
                   have p110 : 0 ≤ (x5_1 : Int) := od_ (by first | (with_reducible assumption) | assumption)
                   have q110 : x5_1 < (l0.length : Int) := od_ (by first | (with_reducible assumption) | assumption)
                   obtain ⟨ad110, A110_2, c110_2, A110_3, c110_3, e110, hx110_0, hx110_1, hx110_2, hx110_3, hl110_2, hi110_2, hl110_3, hi110_3⟩ := at_T34 HR0.out x5_1 p110 q110
                   have hw110_3 := hx110_3
                   have hw110_2 := hx110_2
                   have hw110_1 := hx110_1
                   have hw110_0 := hx110_0
                   obtain rfl : ad103 = ad110 := (by injection e110)
                   replace hx110_0 := (HB.out.cell (bl_ w _ hx110_0)).trans hx110_0
                   replace hx110_1 := (HB.out.cell (bl_ w _ hx110_1)).trans hx110_1
                   replace hx110_2 := (HB.out.cell (bl_ w _ hx110_2)).trans hx110_2
                   replace hx110_3 := (HB.out.cell (bl_ w _ hx110_3)).trans hx110_3
                   have HR110_2 := A0_ hi110_2
                   have HC110_2 := A0_ hl110_2
                   clear hi110_2 hl110_2
                   have HR110_3 := A0_ hi110_3
                   have HC110_3 := A0_ hl110_3
                   clear hi110_3 hl110_3
                   replace p110 := eq_true p110
                   replace q110 := eq_true q110
                   have ea_ := Option.some.inj (hx103_2.symm.trans hx110_2)
                   injection ea_ with ea_ en_ ec_
                   subst ea_
                   subst ec_
                   clear en_
                   have ea_ := Option.some.inj (hx103_3.symm.trans hx110_3)
                   injection ea_ with ea_ en_ ec_
                   subst ea_
                   subst ec_
                   clear en_
                   have p111 : 0 ≤ (x5_1 : Int) := od_ (by first | (with_reducible assumption) | assumption)
                   have q111 : x5_1 < (l1.length : Int) := od_ (by first | (with_reducible assumption) | assumption)
                   obtain ⟨ad111, A111_2, c111_2, A111_3, c111_3, e111, hx111_0, hx111_1, hx111_2, hx111_3, hl111_2, hi111_2, hl111_3, hi111_3⟩ := at_T34 HR1.out x5_1 p111 q111
                   have hw111_3 := hx111_3
                   have hw111_2 := hx111_2
                   have hw111_1 := hx111_1
                   have hw111_0 := hx111_0
                   obtain rfl : ad104 = ad111 := (by injection e111)
                   replace hx111_0 := (HB.out.cell (bl_ w _ hx111_0)).trans hx111_0
                   replace hx111_1 := (HB.out.cell (bl_ w _ hx111_1)).trans hx111_1
                   replace hx111_2 := (HB.out.cell (bl_ w _ hx111_2)).trans hx111_2
                   replace hx111_3 := (HB.out.cell (bl_ w _ hx111_3)).trans hx111_3
                   have HR111_2 := A0_ hi111_2
                   have HC111_2 := A0_ hl111_2
                   clear hi111_2 hl111_2
                   have HR111_3 := A0_ hi111_3
                   have HC111_3 := A0_ hl111_3
                   clear hi111_3 hl111_3
                   replace p111 := eq_true p111
                   replace q111 := eq_true q111
                   have ea_ := Option.some.inj (hx104_2.symm.trans hx111_2)
                   injection ea_ with ea_ en_ ec_
                   subst ea_
                   subst ec_
                   clear en_
                   have ea_ := Option.some.inj (hx104_3.symm.trans hx111_3)
                   injection ea_ with ea_ en_ ec_
                   subst ea_
                   subst ec_
                   clear en_
                   refine start_ (n := 52) (S := fun w' => w'.cell? (ad103.add ((x5_1).toNat * 4)) = some (.int .i64 ((rd_T34 l0 x5_1).f0)) ∧ w'.cell? ⟨(ad103.add ((x5_1).toNat * 4)).block, (ad103.add ((x5_1).toNat * 4)).off + 1, none⟩ = some (.bool ((rd_T34 l0 x5_1).f1)) ∧ w'.cell? ⟨(ad103.add ((x5_1).toNat * 4)).block, (ad103.add ((x5_1).toNat * 4)).off + 2, none⟩ = some (.slice A103_2 ((rd_T34 l0 x5_1).f2).length c103_2) ∧ w'.cell? ⟨(ad103.add ((x5_1).toNat * 4)).block, (ad103.add ((x5_1).toNat * 4)).off + 3, none⟩ = some (.slice A103_3 ((rd_T34 l0 x5_1).f3).length c103_3) ∧ w'.cell? (ad104.add ((x5_1).toNat * 4)) = some (.int .i64 ((rd_T34 l1 x5_1).f0)) ∧ w'.cell? ⟨(ad104.add ((x5_1).toNat * 4)).block, (ad104.add ((x5_1).toNat * 4)).off + 1, none⟩ = some (.bool ((rd_T34 l1 x5_1).f1)) ∧ w'.cell? ⟨(ad104.add ((x5_1).toNat * 4)).block, (ad104.add ((x5_1).toNat * 4)).off + 2, none⟩ = some (.slice A104_2 ((rd_T34 l1 x5_1).f2).length c104_2) ∧ w'.cell? ⟨(ad104.add ((x5_1).toNat * 4)).block, (ad104.add ((x5_1).toNat * 4)).off + 3, none⟩ = some (.slice A104_3 ((rd_T34 l1 x5_1).f3).length c104_3) ∧ w'.cell? (ad103.add ((x5_1).toNat * 4)) = some (.int .i64 ((rd_T34 l0 x5_1).f0)) ∧ w'.cell? ⟨(ad103.add ((x5_1).toNat * 4)).block, (ad103.add ((x5_1).toNat * 4)).off + 1, none⟩ = some (.bool ((rd_T34 l0 x5_1).f1)) ∧ w'.cell? ⟨(ad103.add ((x5_1).toNat * 4)).block, (ad103.add ((x5_1).toNat * 4)).off + 2, none⟩ = some (.slice A103_2 ((rd_T34 l0 x5_1).f2).length c103_2) ∧ w'.cell? ⟨(ad103.add ((x5_1).toNat * 4)).block, (ad103.add ((x5_1).toNat * 4)).off + 3, none⟩ = some (.slice A103_3 ((rd_T34 l0 x5_1).f3).length c103_3) ∧ w'.cell? (ad104.add ((x5_1).toNat * 4)) = some (.int .i64 ((rd_T34 l1 x5_1).f0)) ∧ w'.cell? ⟨(ad104.add ((x5_1).toNat * 4)).block, (ad104.add ((x5_1).toNat * 4)).off + 1, none⟩ = some (.bool ((rd_T34 l1 x5_1).f1)) ∧ w'.cell? ⟨(ad104.add ((x5_1).toNat * 4)).block, (ad104.add ((x5_1).toNat * 4)).off + 2, none⟩ = some (.slice A104_2 ((rd_T34 l1 x5_1).f2).length c104_2) ∧ w'.cell? ⟨(ad104.add ((x5_1).toNat * 4)).block, (ad104.add ((x5_1).toNat * 4)).off + 3, none⟩ = some (.slice A104_3 ((rd_T34 l1 x5_1).f3).length c104_3) ∧ w'.cell? (ad103.add ((x5_1).toNat * 4)) = some (.int .i64 ((rd_T34 l0 x5_1).f0)) ∧ w'.cell? ⟨(ad103.add ((x5_1).toNat * 4)).block, (ad103.add ((x5_1).toNat * 4)).off + 1, none⟩ = some (.bool ((rd_T34 l0 x5_1).f1)) ∧ w'.cell? ⟨(ad103.add ((x5_1).toNat * 4)).block, (ad103.add ((x5_1).toNat * 4)).off + 2, none⟩ = some (.slice A103_2 ((rd_T34 l0 x5_1).f2).length c103_2) ∧ w'.cell? ⟨(ad103.add ((x5_1).toNat * 4)).block, (ad103.add ((x5_1).toNat * 4)).off + 3, none⟩ = some (.slice A103_3 ((rd_T34 l0 x5_1).f3).length c103_3) ∧ w'.cell? (ad104.add ((x5_1).toNat * 4)) = some (.int .i64 ((rd_T34 l1 x5_1).f0)) ∧ w'.cell? ⟨(ad104.add ((x5_1).toNat * 4)).block, (ad104.add ((x5_1).toNat * 4)).off + 1, none⟩ = some (.bool ((rd_T34 l1 x5_1).f1)) ∧ w'.cell? ⟨(ad104.add ((x5_1).toNat * 4)).block, (ad104.add ((x5_1).toNat * 4)).off + 2, none⟩ = some (.slice A104_2 ((rd_T34 l1 x5_1).f2).length c104_2) ∧ w'.cell? ⟨(ad104.add ((x5_1).toNat * 4)).block, (ad104.add ((x5_1).toNat * 4)).off + 3, none⟩ = some (.slice A104_3 ((rd_T34 l1 x5_1).f3).length c104_3) ∧ w'.cell? (ad103.add ((x5_1).toNat * 4)) = some (.int .i64 ((rd_T34 l0 x5_1).f0)) ∧ w'.cell? ⟨(ad103.add ((x5_1).toNat * 4)).block, (ad103.add ((x5_1).toNat * 4)).off + 1, none⟩ = some (.bool ((rd_T34 l0 x5_1).f1)) ∧ w'.cell? ⟨(ad103.add ((x5_1).toNat * 4)).block, (ad103.add ((x5_1).toNat * 4)).off + 2, none⟩ = some (.slice A103_2 ((rd_T34 l0 x5_1).f2).length c103_2) ∧ w'.cell? ⟨(ad103.add ((x5_1).toNat * 4)).block, (ad103.add ((x5_1).toNat * 4)).off + 3, none⟩ = some (.slice A103_3 ((rd_T34 l0 x5_1).f3).length c103_3) ∧ w'.cell? (ad104.add ((x5_1).toNat * 4)) = some (.int .i64 ((rd_T34 l1 x5_1).f0)) ∧ w'.cell? ⟨(ad104.add ((x5_1).toNat * 4)).block, (ad104.add ((x5_1).toNat * 4)).off + 1, none⟩ = some (.bool ((rd_T34 l1 x5_1).f1)) ∧ w'.cell? ⟨(ad104.add ((x5_1).toNat * 4)).block, (ad104.add ((x5_1).toNat * 4)).off + 2, none⟩ = some (.slice A104_2 ((rd_T34 l1 x5_1).f2).length c104_2) ∧ w'.cell? ⟨(ad104.add ((x5_1).toNat * 4)).block, (ad104.add ((x5_1).toNat * 4)).off + 3, none⟩ = some (.slice A104_3 ((rd_T34 l1 x5_1).f3).length c104_3)) (ds := []) #[f_, f_, f_, f_, f_, f_, f_, f_, f_, f_, f_, f_, f_, f_, f_, f_, f_, f_, f_, f_, f_, f_, f_, f_, f_, f_, f_, f_, f_, f_, f_, f_, f_, f_, f_, f_, f_, f_, f_, f_, f_, f_, f_, f_, f_, f_, f_, f_, f_, f_, f_, f_] (by kernel_rfl) rfl rfl ⟨((HB.out.cell (bl_ w _ hw103_0)).trans hw103_0), ((HB.out.cell (bl_ w _ hw103_1)).trans hw103_1), ((HB.out.cell (bl_ w _ hw103_2)).trans hw103_2), ((HB.out.cell (bl_ w _ hw103_3)).trans hw103_3), ((HB.out.cell (bl_ w _ hw104_0)).trans hw104_0), ((HB.out.cell (bl_ w _ hw104_1)).trans hw104_1), ((HB.out.cell (bl_ w _ hw104_2)).trans hw104_2), ((HB.out.cell (bl_ w _ hw104_3)).trans hw104_3), ((HB.out.cell (bl_ w _ hw105_0)).trans hw105_0), ((HB.out.cell (bl_ w _ hw105_1)).trans hw105_1), ((HB.out.cell (bl_ w _ hw105_2)).trans hw105_2), ((HB.out.cell (bl_ w _ hw105_3)).trans hw105_3), ((HB.out.cell (bl_ w _ hw106_0)).trans hw106_0), ((HB.out.cell (bl_ w _ hw106_1)).trans hw106_1), ((HB.out.cell (bl_ w _ hw106_2)).trans hw106_2), ((HB.out.cell (bl_ w _ hw106_3)).trans hw106_3), ((HB.out.cell (bl_ w _ hw107_0)).trans hw107_0), ((HB.out.cell (bl_ w _ hw107_1)).trans hw107_1), ((HB.out.cell (bl_ w _ hw107_2)).trans hw107_2), ((HB.out.cell (bl_ w _ hw107_3)).trans hw107_3), ((HB.out.cell (bl_ w _ hw108_0)).trans hw108_0), ((HB.out.cell (bl_ w _ hw108_1)).trans hw108_1), ((HB.out.cell (bl_ w _ hw108_2)).trans hw108_2), ((HB.out.cell (bl_ w _ hw108_3)).trans hw108_3), ((HB.out.cell (bl_ w _ hw110_0)).trans hw110_0), ((HB.out.cell (bl_ w _ hw110_1)).trans hw110_1), ((HB.out.cell (bl_ w _ hw110_2)).trans hw110_2), ((HB.out.cell (bl_ w _ hw110_3)).trans hw110_3), ((HB.out.cell (bl_ w _ hw111_0)).trans hw111_0), ((HB.out.cell (bl_ w _ hw111_1)).trans hw111_1), ((HB.out.cell (bl_ w _ hw111_2)).trans hw111_2), ((HB.out.cell (bl_ w _ hw111_3)).trans hw111_3)⟩ (fun hHeld => ?_); refine with_tabW spec_SeenSame.tab6 spec_SeenSame.bits6 (fun HT_ HW_ => ?_)
                   generalize wr.drew = w15 at HB HR103_2 HR103_3 HR104_2 HR104_3 HR105_2 HR105_3 HR106_2 HR106_3 HR107_2 HR107_3 HR108_2 HR108_3 HR110_2 HR110_3 HR111_2 HR111_3 hx103_0 hx103_1 hx103_2 hx103_3 hx104_0 hx104_1 hx104_2 hx104_3 hx105_0 hx105_1 hx105_2 hx105_3 hx106_0 hx106_1 hx106_2 hx106_3 hx107_0 hx107_1 hx107_2 hx107_3 hx108_0 hx108_1 hx108_2 hx108_3 hx110_0 hx110_1 hx110_2 hx110_3 hx111_0 hx111_1 hx111_2 hx111_3 hHeld ⊢
                   refine pure_ (i := 0) (N := some 17) (v := ?_) (a' := ?_) #[t_, f_, f_, f_, f_, f_, f_, f_, f_, f_, f_, f_, f_, f_, f_, f_, f_, f_, f_, f_, f_, f_, f_, f_, f_, f_, f_, f_, f_, f_, f_, f_, f_, f_, f_, f_, f_, f_, f_, f_, f_, f_, f_, f_, f_, f_, f_, f_, f_, f_, f_, f_] rfl rfl (any_of HT_.out (by kernel_rfl)) (fun _ _ _ h => h) (Or.inl ⟨by rfl, ?_⟩) ?_ ?_
                   rotate_left
                   · intro w'
                     go_simp
                     with_reducible rfl
                   rotate_left
                   · simp only [Act.put, List.setIfInBounds_toArray, List.set_cons_zero, List.set_cons_succ, i64_w, i32_w]
                     rfl
                   refine pure_ (i := 1) (N := some 18) (v := ?_) (a' := ?_) #[t_, t_, f_, f_, f_, f_, f_, f_, f_, f_, f_, f_, f_, f_, f_, f_, f_, f_, f_, f_, f_, f_, f_, f_, f_, f_, f_, f_, f_, f_, f_, f_, f_, f_, f_, f_, f_, f_, f_, f_, f_, f_, f_, f_, f_, f_, f_, f_, f_, f_, f_, f_] rfl rfl (any_of HT_.out (by kernel_rfl)) (fun _ _ _ h => h) (Or.inl ⟨by rfl, ?_⟩) ?_ ?_
                   rotate_left
                   · intro w'
                     go_simp
                     with_reducible rfl
                   rotate_left
                   · simp only [Act.put, List.setIfInBounds_toArray, List.set_cons_zero, List.set_cons_succ, i64_w, i32_w]
                     rfl
                   refine pure_ (i := 2) (N := some 19) (v := ?_) (a' := ?_) #[t_, t_, t_, f_, f_, f_, f_, f_, f_, f_, f_, f_, f_, f_, f_, f_, f_, f_, f_, f_, f_, f_, f_, f_, f_, f_, f_, f_, f_, f_, f_, f_, f_, f_, f_, f_, f_, f_, f_, f_, f_, f_, f_, f_, f_, f_, f_, f_, f_, f_, f_, f_] rfl rfl (any_of HT_.out (by kernel_rfl)) (fun _ _ _ h => h) (Or.inl ⟨by rfl, ?_⟩) ?_ ?_
                   rotate_left
                   · intro w'
                     go_simp
                     with_reducible rfl
                   rotate_left
                   · simp only [Act.put, List.setIfInBounds_toArray, List.set_cons_zero, List.set_cons_succ, i64_w, i32_w]
                     rfl
                   refine pure_ (i := 3) (N := some 20) (v := ?_) (a' := ?_) #[t_, t_, t_, t_, f_, f_, f_, f_, f_, f_, f_, f_, f_, f_, f_, f_, f_, f_, f_, f_, f_, f_, f_, f_, f_, f_, f_, f_, f_, f_, f_, f_, f_, f_, f_, f_, f_, f_, f_, f_, f_, f_, f_, f_, f_, f_, f_, f_, f_, f_, f_, f_] rfl rfl (any_of HT_.out (by kernel_rfl)) (fun _ _ _ h => h) (Or.inl ⟨by rfl, ?_⟩) ?_ ?_
                   rotate_left
                   · intro w'
                     go_simp
                     with_reducible rfl
                   rotate_left
                   · simp only [Act.put, List.setIfInBounds_toArray, List.set_cons_zero, List.set_cons_succ, i64_w, i32_w]
                     rfl
                   refine pure_ (i := 5) (N := some 22) (v := ?_) (a' := ?_) #[t_, t_, t_, t_, f_, t_, f_, f_, f_, f_, f_, f_, f_, f_, f_, f_, f_, f_, f_, f_, f_, f_, f_, f_, f_, f_, f_, f_, f_, f_, f_, f_, f_, f_, f_, f_, f_, f_, f_, f_, f_, f_, f_, f_, f_, f_, f_, f_, f_, f_, f_, f_] rfl rfl (any_of HT_.out (by kernel_rfl)) (fun _ _ _ h => h) (Or.inl ⟨by rfl, ?_⟩) ?_ ?_
                   rotate_left
                   · intro w'
                     go_simp
                     with_reducible rfl
                   rotate_left
                   · simp only [Act.put, List.setIfInBounds_toArray, List.set_cons_zero, List.set_cons_succ, i64_w, i32_w]
                     rfl
                   refine pure_ (i := 6) (N := some 23) (v := ?_) (a' := ?_) #[t_, t_, t_, t_, f_, t_, t_, f_, f_, f_, f_, f_, f_, f_, f_, f_, f_, f_, f_, f_, f_, f_, f_, f_, f_, f_, f_, f_, f_, f_, f_, f_, f_, f_, f_, f_, f_, f_, f_, f_, f_, f_, f_, f_, f_, f_, f_, f_, f_, f_, f_, f_] rfl rfl (any_of HT_.out (by kernel_rfl)) (fun _ _ _ h => h) (Or.inl ⟨by rfl, ?_⟩) ?_ ?_
                   rotate_left
                   · intro w'
                     go_simp
                     with_reducible rfl
                   rotate_left
                   · simp only [Act.put, List.setIfInBounds_toArray, List.set_cons_zero, List.set_cons_succ, i64_w, i32_w]
                     rfl
                   refine pure_ (i := 7) (N := some 24) (v := ?_) (a' := ?_) #[t_, t_, t_, t_, f_, t_, t_, t_, f_, f_, f_, f_, f_, f_, f_, f_, f_, f_, f_, f_, f_, f_, f_, f_, f_, f_, f_, f_, f_, f_, f_, f_, f_, f_, f_, f_, f_, f_, f_, f_, f_, f_, f_, f_, f_, f_, f_, f_, f_, f_, f_, f_] rfl rfl (any_of HT_.out (by kernel_rfl)) (fun _ _ _ h => h) (Or.inl ⟨by rfl, ?_⟩) ?_ ?_
                   rotate_left
                   · intro w'
                     go_simp
                     with_reducible rfl
                   rotate_left
                   · simp only [Act.put, List.setIfInBounds_toArray, List.set_cons_zero, List.set_cons_succ, i64_w, i32_w]
                     rfl
                   refine pure_ (i := 8) (N := some 25) (v := ?_) (a' := ?_) #[t_, t_, t_, t_, f_, t_, t_, t_, t_, f_, f_, f_, f_, f_, f_, f_, f_, f_, f_, f_, f_, f_, f_, f_, f_, f_, f_, f_, f_, f_, f_, f_, f_, f_, f_, f_, f_, f_, f_, f_, f_, f_, f_, f_, f_, f_, f_, f_, f_, f_, f_, f_] rfl rfl (any_of HT_.out (by kernel_rfl)) (fun _ _ _ h => h) (Or.inl ⟨by rfl, ?_⟩) ?_ ?_
                   rotate_left
                   · intro w'
                     go_simp
                     with_reducible rfl
                   rotate_left
                   · simp only [Act.put, List.setIfInBounds_toArray, List.set_cons_zero, List.set_cons_succ, i64_w, i32_w]
                     rfl
                   refine take_ (i := 4) (N := some 21) (v := ?_) (a' := ?_) #[t_, t_, t_, t_, t_, t_, t_, t_, t_, f_, f_, f_, f_, f_, f_, f_, f_, f_, f_, f_, f_, f_, f_, f_, f_, f_, f_, f_, f_, f_, f_, f_, f_, f_, f_, f_, f_, f_, f_, f_, f_, f_, f_, f_, f_, f_, f_, f_, f_, f_, f_, f_] rfl rfl (take_ofW HT_.out HW_.out (by kernel_rfl)) (fun _ _ _ h => h) (Or.inl ⟨by rfl, ?_⟩) hHeld ?_ ?_
                   rotate_left
                   · rintro w' ⟨s0, s1, s2, s3, s4, s5, s6, s7, s8, s9, s10, s11, s12, s13, s14, s15, s16, s17, s18, s19, s20, s21, s22, s23, s24, s25, s26, s27, s28, s29, s30, s31⟩
                     go_simp
                     with_reducible rfl
                   rotate_left
                   · simp only [Act.put, List.setIfInBounds_toArray, List.set_cons_zero, List.set_cons_succ, i64_w, i32_w]
                     rfl
                   refine take_ (i := 9) (N := some 26) (v := ?_) (a' := ?_) #[t_, t_, t_, t_, t_, t_, t_, t_, t_, t_, f_, f_, f_, f_, f_, f_, f_, f_, f_, f_, f_, f_, f_, f_, f_, f_, f_, f_, f_, f_, f_, f_, f_, f_, f_, f_, f_, f_, f_, f_, f_, f_, f_, f_, f_, f_, f_, f_, f_, f_, f_, f_] rfl rfl (take_ofW HT_.out HW_.out (by kernel_rfl)) (fun _ _ _ h => h) (Or.inl ⟨by rfl, ?_⟩) hHeld ?_ ?_
                   rotate_left
                   · rintro w' ⟨s0, s1, s2, s3, s4, s5, s6, s7, s8, s9, s10, s11, s12, s13, s14, s15, s16, s17, s18, s19, s20, s21, s22, s23, s24, s25, s26, s27, s28, s29, s30, s31⟩
                     go_simp
                     with_reducible rfl
                   rotate_left
                   · simp only [Act.put, List.setIfInBounds_toArray, List.set_cons_zero, List.set_cons_succ, i64_w, i32_w]
                     rfl
                   refine pure_ (i := 10) (N := some 27) (v := ?_) (a' := ?_) #[t_, t_, t_, t_, t_, t_, t_, t_, t_, t_, t_, f_, f_, f_, f_, f_, f_, f_, f_, f_, f_, f_, f_, f_, f_, f_, f_, f_, f_, f_, f_, f_, f_, f_, f_, f_, f_, f_, f_, f_, f_, f_, f_, f_, f_, f_, f_, f_, f_, f_, f_, f_] rfl rfl (any_of HT_.out (by kernel_rfl)) (fun _ _ _ h => h) (Or.inl ⟨by rfl, ?_⟩) ?_ ?_
                   rotate_left
                   · intro w'
                     go_simp
                     with_reducible rfl
                   rotate_left
                   · simp only [Act.put, List.setIfInBounds_toArray, List.set_cons_zero, List.set_cons_succ, i64_w, i32_w]
                     rfl
                   refine pure_ (i := 11) (N := some 28) (v := ?_) (a' := ?_) #[t_, t_, t_, t_, t_, t_, t_, t_, t_, t_, t_, t_, f_, f_, f_, f_, f_, f_, f_, f_, f_, f_, f_, f_, f_, f_, f_, f_, f_, f_, f_, f_, f_, f_, f_, f_, f_, f_, f_, f_, f_, f_, f_, f_, f_, f_, f_, f_, f_, f_, f_, f_] rfl rfl (any_of HT_.out (by kernel_rfl)) (fun _ _ _ h => h) (Or.inl ⟨by rfl, ?_⟩) ?_ ?_
                   rotate_left
                   · intro w'
                     go_simp
                     with_reducible rfl
                   rotate_left
                   · simp only [Act.put, List.setIfInBounds_toArray, List.set_cons_zero, List.set_cons_succ, i64_w, i32_w]
                     rfl
                   refine pure_ (i := 12) (N := some 29) (v := ?_) (a' := ?_) #[t_, t_, t_, t_, t_, t_, t_, t_, t_, t_, t_, t_, t_, f_, f_, f_, f_, f_, f_, f_, f_, f_, f_, f_, f_, f_, f_, f_, f_, f_, f_, f_, f_, f_, f_, f_, f_, f_, f_, f_, f_, f_, f_, f_, f_, f_, f_, f_, f_, f_, f_, f_] rfl rfl (any_of HT_.out (by kernel_rfl)) (fun _ _ _ h => h) (Or.inl ⟨by rfl, ?_⟩) ?_ ?_
                   rotate_left
                   · intro w'
                     go_simp
                     with_reducible rfl
                   rotate_left
                   · simp only [Act.put, List.setIfInBounds_toArray, List.set_cons_zero, List.set_cons_succ, i64_w, i32_w]
                     rfl
                   refine pure_ (i := 13) (N := some 30) (v := ?_) (a' := ?_) #[t_, t_, t_, t_, t_, t_, t_, t_, t_, t_, t_, t_, t_, t_, f_, f_, f_, f_, f_, f_, f_, f_, f_, f_, f_, f_, f_, f_, f_, f_, f_, f_, f_, f_, f_, f_, f_, f_, f_, f_, f_, f_, f_, f_, f_, f_, f_, f_, f_, f_, f_, f_] rfl rfl (any_of HT_.out (by kernel_rfl)) (fun _ _ _ h => h) (Or.inl ⟨by rfl, ?_⟩) ?_ ?_
                   rotate_left
                   · intro w'
                     go_simp
                     with_reducible rfl
                   rotate_left
                   · simp only [Act.put, List.setIfInBounds_toArray, List.set_cons_zero, List.set_cons_succ, i64_w, i32_w]
                     rfl
                   refine pure_ (i := 14) (N := some 31) (v := ?_) (a' := ?_) #[t_, t_, t_, t_, t_, t_, t_, t_, t_, t_, t_, t_, t_, t_, t_, f_, f_, f_, f_, f_, f_, f_, f_, f_, f_, f_, f_, f_, f_, f_, f_, f_, f_, f_, f_, f_, f_, f_, f_, f_, f_, f_, f_, f_, f_, f_, f_, f_, f_, f_, f_, f_] rfl rfl (any_of HT_.out (by kernel_rfl)) (fun _ _ _ h => h) (Or.inl ⟨by rfl, ?_⟩) ?_ ?_
                   rotate_left
                   · intro w'
                     go_simp
                     with_reducible rfl
                   rotate_left
                   · simp only [Act.put, List.setIfInBounds_toArray, List.set_cons_zero, List.set_cons_succ, i64_w, i32_w]
                     rfl
                   refine pure_ (i := 15) (N := some 32) (v := ?_) (a' := ?_) #[t_, t_, t_, t_, t_, t_, t_, t_, t_, t_, t_, t_, t_, t_, t_, t_, f_, f_, f_, f_, f_, f_, f_, f_, f_, f_, f_, f_, f_, f_, f_, f_, f_, f_, f_, f_, f_, f_, f_, f_, f_, f_, f_, f_, f_, f_, f_, f_, f_, f_, f_, f_] rfl rfl (any_of HT_.out (by kernel_rfl)) (fun _ _ _ h => h) (Or.inl ⟨by rfl, ?_⟩) ?_ ?_
                   rotate_left
                   · intro w'
                     go_simp
                     with_reducible rfl
                   rotate_left
                   · simp only [Act.put, List.setIfInBounds_toArray, List.set_cons_zero, List.set_cons_succ, i64_w, i32_w]
                     rfl
                   refine pure_ (i := 17) (N := some 34) (v := ?_) (a' := ?_) #[t_, t_, t_, t_, t_, t_, t_, t_, t_, t_, t_, t_, t_, t_, t_, t_, f_, t_, f_, f_, f_, f_, f_, f_, f_, f_, f_, f_, f_, f_, f_, f_, f_, f_, f_, f_, f_, f_, f_, f_, f_, f_, f_, f_, f_, f_, f_, f_, f_, f_, f_, f_] rfl rfl (any_of HT_.out (by kernel_rfl)) (fun _ _ _ h => h) (Or.inl ⟨by rfl, ?_⟩) ?_ ?_
                   rotate_left
                   · intro w'
                     go_simp
                     with_reducible rfl
                   rotate_left
                   · simp only [Act.put, List.setIfInBounds_toArray, List.set_cons_zero, List.set_cons_succ, i64_w, i32_w]
                     rfl
                   refine pure_ (i := 18) (N := some 35) (v := ?_) (a' := ?_) #[t_, t_, t_, t_, t_, t_, t_, t_, t_, t_, t_, t_, t_, t_, t_, t_, f_, t_, t_, f_, f_, f_, f_, f_, f_, f_, f_, f_, f_, f_, f_, f_, f_, f_, f_, f_, f_, f_, f_, f_, f_, f_, f_, f_, f_, f_, f_, f_, f_, f_, f_, f_] rfl rfl (any_of HT_.out (by kernel_rfl)) (fun _ _ _ h => h) (Or.inl ⟨by rfl, ?_⟩) ?_ ?_
                   rotate_left
                   · intro w'
                     go_simp
                     with_reducible rfl
                   rotate_left
                   · simp only [Act.put, List.setIfInBounds_toArray, List.set_cons_zero, List.set_cons_succ, i64_w, i32_w]
                     rfl
                   refine pure_ (i := 19) (N := some 36) (v := ?_) (a' := ?_) #[t_, t_, t_, t_, t_, t_, t_, t_, t_, t_, t_, t_, t_, t_, t_, t_, f_, t_, t_, t_, f_, f_, f_, f_, f_, f_, f_, f_, f_, f_, f_, f_, f_, f_, f_, f_, f_, f_, f_, f_, f_, f_, f_, f_, f_, f_, f_, f_, f_, f_, f_, f_] rfl rfl (any_of HT_.out (by kernel_rfl)) (fun _ _ _ h => h) (Or.inl ⟨by rfl, ?_⟩) ?_ ?_
                   rotate_left
                   · intro w'
                     go_simp
                     with_reducible rfl
                   rotate_left
                   · simp only [Act.put, List.setIfInBounds_toArray, List.set_cons_zero, List.set_cons_succ, i64_w, i32_w]
                     rfl
                   refine pure_ (i := 20) (N := some 37) (v := ?_) (a' := ?_) #[t_, t_, t_, t_, t_, t_, t_, t_, t_, t_, t_, t_, t_, t_, t_, t_, f_, t_, t_, t_, t_, f_, f_, f_, f_, f_, f_, f_, f_, f_, f_, f_, f_, f_, f_, f_, f_, f_, f_, f_, f_, f_, f_, f_, f_, f_, f_, f_, f_, f_, f_, f_] rfl rfl (any_of HT_.out (by kernel_rfl)) (fun _ _ _ h => h) (Or.inl ⟨by rfl, ?_⟩) ?_ ?_
                   rotate_left
                   · intro w'
                     go_simp
                     with_reducible rfl
                   rotate_left
                   · simp only [Act.put, List.setIfInBounds_toArray, List.set_cons_zero, List.set_cons_succ, i64_w, i32_w]
                     rfl
                   refine take_ (i := 16) (N := some 33) (v := ?_) (a' := ?_) #[t_, t_, t_, t_, t_, t_, t_, t_, t_, t_, t_, t_, t_, t_, t_, t_, t_, t_, t_, t_, t_, f_, f_, f_, f_, f_, f_, f_, f_, f_, f_, f_, f_, f_, f_, f_, f_, f_, f_, f_, f_, f_, f_, f_, f_, f_, f_, f_, f_, f_, f_, f_] rfl rfl (take_ofW HT_.out HW_.out (by kernel_rfl)) (fun _ _ _ h => h) (Or.inl ⟨by rfl, ?_⟩) hHeld ?_ ?_
                   rotate_left
                   · rintro w' ⟨s0, s1, s2, s3, s4, s5, s6, s7, s8, s9, s10, s11, s12, s13, s14, s15, s16, s17, s18, s19, s20, s21, s22, s23, s24, s25, s26, s27, s28, s29, s30, s31⟩
                     go_simp
                     with_reducible rfl
                   rotate_left
                   · simp only [Act.put, List.setIfInBounds_toArray, List.set_cons_zero, List.set_cons_succ, i64_w, i32_w]
                     rfl
                   refine take_ (i := 21) (N := some 38) (v := ?_) (a' := ?_) #[t_, t_, t_, t_, t_, t_, t_, t_, t_, t_, t_, t_, t_, t_, t_, t_, t_, t_, t_, t_, t_, t_, f_, f_, f_, f_, f_, f_, f_, f_, f_, f_, f_, f_, f_, f_, f_, f_, f_, f_, f_, f_, f_, f_, f_, f_, f_, f_, f_, f_, f_, f_] rfl rfl (take_ofW HT_.out HW_.out (by kernel_rfl)) (fun _ _ _ h => h) (Or.inl ⟨by rfl, ?_⟩) hHeld ?_ ?_
                   rotate_left
                   · rintro w' ⟨s0, s1, s2, s3, s4, s5, s6, s7, s8, s9, s10, s11, s12, s13, s14, s15, s16, s17, s18, s19, s20, s21, s22, s23, s24, s25, s26, s27, s28, s29, s30, s31⟩
                     go_simp
                     with_reducible rfl
                   rotate_left
                   · simp only [Act.put, List.setIfInBounds_toArray, List.set_cons_zero, List.set_cons_succ, i64_w, i32_w]
                     rfl
                   refine pure_ (i := 22) (N := some 39) (v := ?_) (a' := ?_) #[t_, t_, t_, t_, t_, t_, t_, t_, t_, t_, t_, t_, t_, t_, t_, t_, t_, t_, t_, t_, t_, t_, t_, f_, f_, f_, f_, f_, f_, f_, f_, f_, f_, f_, f_, f_, f_, f_, f_, f_, f_, f_, f_, f_, f_, f_, f_, f_, f_, f_, f_, f_] rfl rfl (any_of HT_.out (by kernel_rfl)) (fun _ _ _ h => h) (Or.inl ⟨by rfl, ?_⟩) ?_ ?_
                   rotate_left
                   · intro w'
                     go_simp
                     with_reducible rfl
                   rotate_left
                   · simp only [Act.put, List.setIfInBounds_toArray, List.set_cons_zero, List.set_cons_succ, i64_w, i32_w]
                     rfl
                   refine pure_ (i := 23) (N := some 40) (v := ?_) (a' := ?_) #[t_, t_, t_, t_, t_, t_, t_, t_, t_, t_, t_, t_, t_, t_, t_, t_, t_, t_, t_, t_, t_, t_, t_, t_, f_, f_, f_, f_, f_, f_, f_, f_, f_, f_, f_, f_, f_, f_, f_, f_, f_, f_, f_, f_, f_, f_, f_, f_, f_, f_, f_, f_] rfl rfl (any_of HT_.out (by kernel_rfl)) (fun _ _ _ h => h) (Or.inl ⟨by rfl, ?_⟩) ?_ ?_
                   rotate_left
                   · intro w'
                     go_simp
                     with_reducible rfl
                   rotate_left
                   · simp only [Act.put, List.setIfInBounds_toArray, List.set_cons_zero, List.set_cons_succ, i64_w, i32_w]
                     rfl
                   refine pure_ (i := 24) (N := some 41) (v := ?_) (a' := ?_) #[t_, t_, t_, t_, t_, t_, t_, t_, t_, t_, t_, t_, t_, t_, t_, t_, t_, t_, t_, t_, t_, t_, t_, t_, t_, f_, f_, f_, f_, f_, f_, f_, f_, f_, f_, f_, f_, f_, f_, f_, f_, f_, f_, f_, f_, f_, f_, f_, f_, f_, f_, f_] rfl rfl (any_of HT_.out (by kernel_rfl)) (fun _ _ _ h => h) (Or.inl ⟨by rfl, ?_⟩) ?_ ?_
                   rotate_left
                   · intro w'
                     go_simp
                     with_reducible rfl
                   rotate_left
                   · simp only [Act.put, List.setIfInBounds_toArray, List.set_cons_zero, List.set_cons_succ, i64_w, i32_w]
                     rfl
                   refine pure_ (i := 25) (N := some 42) (v := ?_) (a' := ?_) #[t_, t_, t_, t_, t_, t_, t_, t_, t_, t_, t_, t_, t_, t_, t_, t_, t_, t_, t_, t_, t_, t_, t_, t_, t_, t_, f_, f_, f_, f_, f_, f_, f_, f_, f_, f_, f_, f_, f_, f_, f_, f_, f_, f_, f_, f_, f_, f_, f_, f_, f_, f_] rfl rfl (any_of HT_.out (by kernel_rfl)) (fun _ _ _ h => h) (Or.inl ⟨by rfl, ?_⟩) ?_ ?_
                   rotate_left
                   · intro w'
                     go_simp
                     with_reducible rfl
                   rotate_left
                   · simp only [Act.put, List.setIfInBounds_toArray, List.set_cons_zero, List.set_cons_succ, i64_w, i32_w]
                     rfl
                   refine pure_ (i := 26) (N := some 43) (v := ?_) (a' := ?_) #[t_, t_, t_, t_, t_, t_, t_, t_, t_, t_, t_, t_, t_, t_, t_, t_, t_, t_, t_, t_, t_, t_, t_, t_, t_, t_, t_, f_, f_, f_, f_, f_, f_, f_, f_, f_, f_, f_, f_, f_, f_, f_, f_, f_, f_, f_, f_, f_, f_, f_, f_, f_] rfl rfl (any_of HT_.out (by kernel_rfl)) (fun _ _ _ h => h) (Or.inl ⟨by rfl, ?_⟩) ?_ ?_
                   rotate_left
                   · intro w'
                     go_simp
                     with_reducible rfl
                   rotate_left
                   · simp only [Act.put, List.setIfInBounds_toArray, List.set_cons_zero, List.set_cons_succ, i64_w, i32_w]
                     rfl
                   refine pure_ (i := 27) (N := some 44) (v := ?_) (a' := ?_) #[t_, t_, t_, t_, t_, t_, t_, t_, t_, t_, t_, t_, t_, t_, t_, t_, t_, t_, t_, t_, t_, t_, t_, t_, t_, t_, t_, t_, f_, f_, f_, f_, f_, f_, f_, f_, f_, f_, f_, f_, f_, f_, f_, f_, f_, f_, f_, f_, f_, f_, f_, f_] rfl rfl (any_of HT_.out (by kernel_rfl)) (fun _ _ _ h => h) (Or.inl ⟨by rfl, ?_⟩) ?_ ?_
                   rotate_left
                   · intro w'
                     go_simp
                     with_reducible rfl
                   rotate_left
                   · simp only [Act.put, List.setIfInBounds_toArray, List.set_cons_zero, List.set_cons_succ, i64_w, i32_w]
                     rfl
                   refine pure_ (i := 28) (N := some 45) (v := ?_) (a' := ?_) #[t_, t_, t_, t_, t_, t_, t_, t_, t_, t_, t_, t_, t_, t_, t_, t_, t_, t_, t_, t_, t_, t_, t_, t_, t_, t_, t_, t_, t_, f_, f_, f_, f_, f_, f_, f_, f_, f_, f_, f_, f_, f_, f_, f_, f_, f_, f_, f_, f_, f_, f_, f_] rfl rfl (any_of HT_.out (by kernel_rfl)) (fun _ _ _ h => h) (Or.inl ⟨by rfl, ?_⟩) ?_ ?_
                   rotate_left
                   · intro w'
                     go_simp
                     with_reducible rfl
                   rotate_left
                   · simp only [Act.put, List.setIfInBounds_toArray, List.set_cons_zero, List.set_cons_succ, i64_w, i32_w]
                     rfl
                   refine pure_ (i := 30) (N := some 47) (v := ?_) (a' := ?_) #[t_, t_, t_, t_, t_, t_, t_, t_, t_, t_, t_, t_, t_, t_, t_, t_, t_, t_, t_, t_, t_, t_, t_, t_, t_, t_, t_, t_, t_, f_, t_, f_, f_, f_, f_, f_, f_, f_, f_, f_, f_, f_, f_, f_, f_, f_, f_, f_, f_, f_, f_, f_] rfl rfl (any_of HT_.out (by kernel_rfl)) (fun _ _ _ h => h) (Or.inl ⟨by rfl, ?_⟩) ?_ ?_
                   rotate_left
                   · intro w'
                     go_simp
                     with_reducible rfl
                   rotate_left
                   · simp only [Act.put, List.setIfInBounds_toArray, List.set_cons_zero, List.set_cons_succ, i64_w, i32_w]
                     rfl
                   refine pure_ (i := 31) (N := some 48) (v := ?_) (a' := ?_) #[t_, t_, t_, t_, t_, t_, t_, t_, t_, t_, t_, t_, t_, t_, t_, t_, t_, t_, t_, t_, t_, t_, t_, t_, t_, t_, t_, t_, t_, f_, t_, t_, f_, f_, f_, f_, f_, f_, f_, f_, f_, f_, f_, f_, f_, f_, f_, f_, f_, f_, f_, f_] rfl rfl (any_of HT_.out (by kernel_rfl)) (fun _ _ _ h => h) (Or.inl ⟨by rfl, ?_⟩) ?_ ?_
                   rotate_left
                   · intro w'
                     go_simp
                     with_reducible rfl
                   rotate_left
                   · simp only [Act.put, List.setIfInBounds_toArray, List.set_cons_zero, List.set_cons_succ, i64_w, i32_w]
                     rfl
                   refine pure_ (i := 32) (N := some 49) (v := ?_) (a' := ?_) #[t_, t_, t_, t_, t_, t_, t_, t_, t_, t_, t_, t_, t_, t_, t_, t_, t_, t_, t_, t_, t_, t_, t_, t_, t_, t_, t_, t_, t_, f_, t_, t_, t_, f_, f_, f_, f_, f_, f_, f_, f_, f_, f_, f_, f_, f_, f_, f_, f_, f_, f_, f_] rfl rfl (any_of HT_.out (by kernel_rfl)) (fun _ _ _ h => h) (Or.inl ⟨by rfl, ?_⟩) ?_ ?_
                   rotate_left
                   · intro w'
                     go_simp
                     with_reducible rfl
                   rotate_left
                   · simp only [Act.put, List.setIfInBounds_toArray, List.set_cons_zero, List.set_cons_succ, i64_w, i32_w]
                     rfl
                   refine pure_ (i := 33) (N := some 50) (v := ?_) (a' := ?_) #[t_, t_, t_, t_, t_, t_, t_, t_, t_, t_, t_, t_, t_, t_, t_, t_, t_, t_, t_, t_, t_, t_, t_, t_, t_, t_, t_, t_, t_, f_, t_, t_, t_, t_, f_, f_, f_, f_, f_, f_, f_, f_, f_, f_, f_, f_, f_, f_, f_, f_, f_, f_] rfl rfl (any_of HT_.out (by kernel_rfl)) (fun _ _ _ h => h) (Or.inl ⟨by rfl, ?_⟩) ?_ ?_
                   rotate_left
                   · intro w'
                     go_simp
                     with_reducible rfl
                   rotate_left
                   · simp only [Act.put, List.setIfInBounds_toArray, List.set_cons_zero, List.set_cons_succ, i64_w, i32_w]
                     rfl
                   refine take_ (i := 29) (N := some 46) (v := ?_) (a' := ?_) #[t_, t_, t_, t_, t_, t_, t_, t_, t_, t_, t_, t_, t_, t_, t_, t_, t_, t_, t_, t_, t_, t_, t_, t_, t_, t_, t_, t_, t_, t_, t_, t_, t_, t_, f_, f_, f_, f_, f_, f_, f_, f_, f_, f_, f_, f_, f_, f_, f_, f_, f_, f_] rfl rfl (take_ofW HT_.out HW_.out (by kernel_rfl)) (fun _ _ _ h => h) (Or.inl ⟨by rfl, ?_⟩) hHeld ?_ ?_
                   rotate_left
                   · rintro w' ⟨s0, s1, s2, s3, s4, s5, s6, s7, s8, s9, s10, s11, s12, s13, s14, s15, s16, s17, s18, s19, s20, s21, s22, s23, s24, s25, s26, s27, s28, s29, s30, s31⟩
                     go_simp
                     with_reducible rfl
                   rotate_left
                   · simp only [Act.put, List.setIfInBounds_toArray, List.set_cons_zero, List.set_cons_succ, i64_w, i32_w]
                     rfl
                   refine take_ (i := 34) (N := some 51) (v := ?_) (a' := ?_) #[t_, t_, t_, t_, t_, t_, t_, t_, t_, t_, t_, t_, t_, t_, t_, t_, t_, t_, t_, t_, t_, t_, t_, t_, t_, t_, t_, t_, t_, t_, t_, t_, t_, t_, t_, f_, f_, f_, f_, f_, f_, f_, f_, f_, f_, f_, f_, f_, f_, f_, f_, f_] rfl rfl (take_ofW HT_.out HW_.out (by kernel_rfl)) (fun _ _ _ h => h) (Or.inl ⟨by rfl, ?_⟩) hHeld ?_ ?_
                   rotate_left
                   · rintro w' ⟨s0, s1, s2, s3, s4, s5, s6, s7, s8, s9, s10, s11, s12, s13, s14, s15, s16, s17, s18, s19, s20, s21, s22, s23, s24, s25, s26, s27, s28, s29, s30, s31⟩
                     go_simp
                     with_reducible rfl
                   rotate_left
                   · simp only [Act.put, List.setIfInBounds_toArray, List.set_cons_zero, List.set_cons_succ, i64_w, i32_w]
                     rfl
                   refine one_ (i := 35) (N := some 52) #[t_, t_, t_, t_, t_, t_, t_, t_, t_, t_, t_, t_, t_, t_, t_, t_, t_, t_, t_, t_, t_, t_, t_, t_, t_, t_, t_, t_, t_, t_, t_, t_, t_, t_, t_, t_, f_, f_, f_, f_, f_, f_, f_, f_, f_, f_, f_, f_, f_, f_, f_, f_] rfl rfl (one_of HT_.out (by kernel_rfl)) (by decide) (fun K hK => ?_)
                   refine goes_ Try.func29 (by kernel_rfl) rfl #[.slice A103_2 ((rd_T34 l0 x5_1).f2).length c103_2, .slice A104_2 ((rd_T34 l1 x5_1).f2).length c104_2] (by rfl) rfl rfl (by (try simp only [List.map_toArray, List.map_cons, List.map_nil]); first | done | rfl | (simp only [List.length_drop, List.length_take]; rfl)) ?_
                   with_reducible refine (spec_Same.calls k1 _ _ ((rd_T34 l0 x5_1).f2) _ _ ((rd_T34 l1 x5_1).f2) true _ ?side1 ?side2 ?side3 ?side4 A10.out).mono ?_
                   (case side1 => repeat (first | exact (Kd.C_below HR107_2.out HB.out) | (with_reducible refine Kd.C_alloc ?_ _) | (with_reducible refine Kd.C_drewN ?_ _) | (with_reducible refine Kd.C_drew ?_)))
                   (case side2 => exact HC107_2.out)
                   (case side3 => repeat (first | exact (Kd.C_below HR108_2.out HB.out) | (with_reducible refine Kd.C_alloc ?_ _) | (with_reducible refine Kd.C_drewN ?_ _) | (with_reducible refine Kd.C_drew ?_)))
                   (case side4 => exact HC108_2.out)
                   rintro e w' ⟨rfl, ⟨nd, rfl⟩⟩
                   refine ⟨_, rfl, ?_⟩
                   refine hK.out _ _ ⟨((HB.out.cell (bl_ w _ hw103_0)).trans hw103_0), ((HB.out.cell (bl_ w _ hw103_1)).trans hw103_1), ((HB.out.cell (bl_ w _ hw103_2)).trans hw103_2), ((HB.out.cell (bl_ w _ hw103_3)).trans hw103_3), ((HB.out.cell (bl_ w _ hw104_0)).trans hw104_0), ((HB.out.cell (bl_ w _ hw104_1)).trans hw104_1), ((HB.out.cell (bl_ w _ hw104_2)).trans hw104_2), ((HB.out.cell (bl_ w _ hw104_3)).trans hw104_3), ((HB.out.cell (bl_ w _ hw105_0)).trans hw105_0), ((HB.out.cell (bl_ w _ hw105_1)).trans hw105_1), ((HB.out.cell (bl_ w _ hw105_2)).trans hw105_2), ((HB.out.cell (bl_ w _ hw105_3)).trans hw105_3), ((HB.out.cell (bl_ w _ hw106_0)).trans hw106_0), ((HB.out.cell (bl_ w _ hw106_1)).trans hw106_1), ((HB.out.cell (bl_ w _ hw106_2)).trans hw106_2), ((HB.out.cell (bl_ w _ hw106_3)).trans hw106_3), ((HB.out.cell (bl_ w _ hw107_0)).trans hw107_0), ((HB.out.cell (bl_ w _ hw107_1)).trans hw107_1), ((HB.out.cell (bl_ w _ hw107_2)).trans hw107_2), ((HB.out.cell (bl_ w _ hw107_3)).trans hw107_3), ((HB.out.cell (bl_ w _ hw108_0)).trans hw108_0), ((HB.out.cell (bl_ w _ hw108_1)).trans hw108_1), ((HB.out.cell (bl_ w _ hw108_2)).trans hw108_2), ((HB.out.cell (bl_ w _ hw108_3)).trans hw108_3), ((HB.out.cell (bl_ w _ hw110_0)).trans hw110_0), ((HB.out.cell (bl_ w _ hw110_1)).trans hw110_1), ((HB.out.cell (bl_ w _ hw110_2)).trans hw110_2), ((HB.out.cell (bl_ w _ hw110_3)).trans hw110_3), ((HB.out.cell (bl_ w _ hw111_0)).trans hw111_0), ((HB.out.cell (bl_ w _ hw111_1)).trans hw111_1), ((HB.out.cell (bl_ w _ hw111_2)).trans hw111_2), ((HB.out.cell (bl_ w _ hw111_3)).trans hw111_3)⟩ (fun hHeld => ?_)
                   clear hK K
                   refine norm_ (a' := ?_) ?_ ?_
                   rotate_left
                   · show Act.put _ (some 52) _ = _
                     simp only [Act.put, List.setIfInBounds_toArray, List.set_cons_zero, List.set_cons_succ, i64_w, i32_w]
                     rfl
                   refine pure_ (i := 36) (N := some 53) (v := ?_) (a' := ?_) #[t_, t_, t_, t_, t_, t_, t_, t_, t_, t_, t_, t_, t_, t_, t_, t_, t_, t_, t_, t_, t_, t_, t_, t_, t_, t_, t_, t_, t_, t_, t_, t_, t_, t_, t_, t_, t_, f_, f_, f_, f_, f_, f_, f_, f_, f_, f_, f_, f_, f_, f_, f_] rfl rfl (any_of HT_.out (by kernel_rfl)) (fun _ _ _ h => h) (Or.inl ⟨by rfl, ?_⟩) ?_ ?_
                   rotate_left
                   · intro w'
                     go_simp
                     with_reducible rfl
                   rotate_left
                   · simp only [Act.put, List.setIfInBounds_toArray, List.set_cons_zero, List.set_cons_succ, i64_w, i32_w]
                     rfl
                   refine pure_ (i := 37) (N := some 54) (v := ?_) (a' := ?_) #[t_, t_, t_, t_, t_, t_, t_, t_, t_, t_, t_, t_, t_, t_, t_, t_, t_, t_, t_, t_, t_, t_, t_, t_, t_, t_, t_, t_, t_, t_, t_, t_, t_, t_, t_, t_, t_, t_, f_, f_, f_, f_, f_, f_, f_, f_, f_, f_, f_, f_, f_, f_] rfl rfl (any_of HT_.out (by kernel_rfl)) (fun _ _ _ h => h) (Or.inl ⟨by rfl, ?_⟩) ?_ ?_
                   rotate_left
                   · intro w'
                     go_simp
                     with_reducible rfl
                   rotate_left
                   · simp only [Act.put, List.setIfInBounds_toArray, List.set_cons_zero, List.set_cons_succ, i64_w, i32_w]
                     rfl
                   refine pure_ (i := 38) (N := some 55) (v := ?_) (a' := ?_) #[t_, t_, t_, t_, t_, t_, t_, t_, t_, t_, t_, t_, t_, t_, t_, t_, t_, t_, t_, t_, t_, t_, t_, t_, t_, t_, t_, t_, t_, t_, t_, t_, t_, t_, t_, t_, t_, t_, t_, f_, f_, f_, f_, f_, f_, f_, f_, f_, f_, f_, f_, f_] rfl rfl (any_of HT_.out (by kernel_rfl)) (fun _ _ _ h => h) (Or.inl ⟨by rfl, ?_⟩) ?_ ?_
                   rotate_left
                   · intro w'
                     go_simp
                     with_reducible rfl
                   rotate_left
                   · simp only [Act.put, List.setIfInBounds_toArray, List.set_cons_zero, List.set_cons_succ, i64_w, i32_w]
                     rfl
                   refine pure_ (i := 39) (N := some 56) (v := ?_) (a' := ?_) #[t_, t_, t_, t_, t_, t_, t_, t_, t_, t_, t_, t_, t_, t_, t_, t_, t_, t_, t_, t_, t_, t_, t_, t_, t_, t_, t_, t_, t_, t_, t_, t_, t_, t_, t_, t_, t_, t_, t_, t_, f_, f_, f_, f_, f_, f_, f_, f_, f_, f_, f_, f_] rfl rfl (any_of HT_.out (by kernel_rfl)) (fun _ _ _ h => h) (Or.inl ⟨by rfl, ?_⟩) ?_ ?_
                   rotate_left
                   · intro w'
                     go_simp
                     with_reducible rfl
                   rotate_left
                   · simp only [Act.put, List.setIfInBounds_toArray, List.set_cons_zero, List.set_cons_succ, i64_w, i32_w]
                     rfl
                   refine pure_ (i := 40) (N := some 57) (v := ?_) (a' := ?_) #[t_, t_, t_, t_, t_, t_, t_, t_, t_, t_, t_, t_, t_, t_, t_, t_, t_, t_, t_, t_, t_, t_, t_, t_, t_, t_, t_, t_, t_, t_, t_, t_, t_, t_, t_, t_, t_, t_, t_, t_, t_, f_, f_, f_, f_, f_, f_, f_, f_, f_, f_, f_] rfl rfl (any_of HT_.out (by kernel_rfl)) (fun _ _ _ h => h) (Or.inl ⟨by rfl, ?_⟩) ?_ ?_
                   rotate_left
                   · intro w'
                     go_simp
                     with_reducible rfl
                   rotate_left
                   · simp only [Act.put, List.setIfInBounds_toArray, List.set_cons_zero, List.set_cons_succ, i64_w, i32_w]
                     rfl
                   refine pure_ (i := 41) (N := some 58) (v := ?_) (a' := ?_) #[t_, t_, t_, t_, t_, t_, t_, t_, t_, t_, t_, t_, t_, t_, t_, t_, t_, t_, t_, t_, t_, t_, t_, t_, t_, t_, t_, t_, t_, t_, t_, t_, t_, t_, t_, t_, t_, t_, t_, t_, t_, t_, f_, f_, f_, f_, f_, f_, f_, f_, f_, f_] rfl rfl (any_of HT_.out (by kernel_rfl)) (fun _ _ _ h => h) (Or.inl ⟨by rfl, ?_⟩) ?_ ?_
                   rotate_left
                   · intro w'
                     go_simp
                     with_reducible rfl
                   rotate_left
                   · simp only [Act.put, List.setIfInBounds_toArray, List.set_cons_zero, List.set_cons_succ, i64_w, i32_w]
                     rfl
                   refine pure_ (i := 42) (N := some 59) (v := ?_) (a' := ?_) #[t_, t_, t_, t_, t_, t_, t_, t_, t_, t_, t_, t_, t_, t_, t_, t_, t_, t_, t_, t_, t_, t_, t_, t_, t_, t_, t_, t_, t_, t_, t_, t_, t_, t_, t_, t_, t_, t_, t_, t_, t_, t_, t_, f_, f_, f_, f_, f_, f_, f_, f_, f_] rfl rfl (any_of HT_.out (by kernel_rfl)) (fun _ _ _ h => h) (Or.inl ⟨by rfl, ?_⟩) ?_ ?_
                   rotate_left
                   · intro w'
                     go_simp
                     with_reducible rfl
                   rotate_left
                   · simp only [Act.put, List.setIfInBounds_toArray, List.set_cons_zero, List.set_cons_succ, i64_w, i32_w]
                     rfl
                   refine pure_ (i := 44) (N := some 61) (v := ?_) (a' := ?_) #[t_, t_, t_, t_, t_, t_, t_, t_, t_, t_, t_, t_, t_, t_, t_, t_, t_, t_, t_, t_, t_, t_, t_, t_, t_, t_, t_, t_, t_, t_, t_, t_, t_, t_, t_, t_, t_, t_, t_, t_, t_, t_, t_, f_, t_, f_, f_, f_, f_, f_, f_, f_] rfl rfl (any_of HT_.out (by kernel_rfl)) (fun _ _ _ h => h) (Or.inl ⟨by rfl, ?_⟩) ?_ ?_
                   rotate_left
                   · intro w'
                     go_simp
                     with_reducible rfl
                   rotate_left
                   · simp only [Act.put, List.setIfInBounds_toArray, List.set_cons_zero, List.set_cons_succ, i64_w, i32_w]
                     rfl
                   refine pure_ (i := 45) (N := some 62) (v := ?_) (a' := ?_) #[t_, t_, t_, t_, t_, t_, t_, t_, t_, t_, t_, t_, t_, t_, t_, t_, t_, t_, t_, t_, t_, t_, t_, t_, t_, t_, t_, t_, t_, t_, t_, t_, t_, t_, t_, t_, t_, t_, t_, t_, t_, t_, t_, f_, t_, t_, f_, f_, f_, f_, f_, f_] rfl rfl (any_of HT_.out (by kernel_rfl)) (fun _ _ _ h => h) (Or.inl ⟨by rfl, ?_⟩) ?_ ?_
                   rotate_left
                   · intro w'
                     go_simp
                     with_reducible rfl
                   rotate_left
                   · simp only [Act.put, List.setIfInBounds_toArray, List.set_cons_zero, List.set_cons_succ, i64_w, i32_w]
                     rfl
                   refine pure_ (i := 46) (N := some 63) (v := ?_) (a' := ?_) #[t_, t_, t_, t_, t_, t_, t_, t_, t_, t_, t_, t_, t_, t_, t_, t_, t_, t_, t_, t_, t_, t_, t_, t_, t_, t_, t_, t_, t_, t_, t_, t_, t_, t_, t_, t_, t_, t_, t_, t_, t_, t_, t_, f_, t_, t_, t_, f_, f_, f_, f_, f_] rfl rfl (any_of HT_.out (by kernel_rfl)) (fun _ _ _ h => h) (Or.inl ⟨by rfl, ?_⟩) ?_ ?_
                   rotate_left
                   · intro w'
                     go_simp
                     with_reducible rfl
                   rotate_left
                   · simp only [Act.put, List.setIfInBounds_toArray, List.set_cons_zero, List.set_cons_succ, i64_w, i32_w]
                     rfl
                   refine pure_ (i := 47) (N := some 64) (v := ?_) (a' := ?_) #[t_, t_, t_, t_, t_, t_, t_, t_, t_, t_, t_, t_, t_, t_, t_, t_, t_, t_, t_, t_, t_, t_, t_, t_, t_, t_, t_, t_, t_, t_, t_, t_, t_, t_, t_, t_, t_, t_, t_, t_, t_, t_, t_, f_, t_, t_, t_, t_, f_, f_, f_, f_] rfl rfl (any_of HT_.out (by kernel_rfl)) (fun _ _ _ h => h) (Or.inl ⟨by rfl, ?_⟩) ?_ ?_
                   rotate_left
                   · intro w'
                     go_simp
                     with_reducible rfl
                   rotate_left
                   · simp only [Act.put, List.setIfInBounds_toArray, List.set_cons_zero, List.set_cons_succ, i64_w, i32_w]
                     rfl
                   refine take_ (i := 43) (N := some 60) (v := ?_) (a' := ?_) #[t_, t_, t_, t_, t_, t_, t_, t_, t_, t_, t_, t_, t_, t_, t_, t_, t_, t_, t_, t_, t_, t_, t_, t_, t_, t_, t_, t_, t_, t_, t_, t_, t_, t_, t_, t_, t_, t_, t_, t_, t_, t_, t_, t_, t_, t_, t_, t_, f_, f_, f_, f_] rfl rfl (take_ofW HT_.out HW_.out (by kernel_rfl)) (fun _ _ _ h => h) (Or.inl ⟨by rfl, ?_⟩) hHeld ?_ ?_
                   rotate_left
                   · rintro w' ⟨s0, s1, s2, s3, s4, s5, s6, s7, s8, s9, s10, s11, s12, s13, s14, s15, s16, s17, s18, s19, s20, s21, s22, s23, s24, s25, s26, s27, s28, s29, s30, s31⟩
                     go_simp
                     with_reducible rfl
                   rotate_left
                   · simp only [Act.put, List.setIfInBounds_toArray, List.set_cons_zero, List.set_cons_succ, i64_w, i32_w]
                     rfl
                   refine take_ (i := 48) (N := some 65) (v := ?_) (a' := ?_) #[t_, t_, t_, t_, t_, t_, t_, t_, t_, t_, t_, t_, t_, t_, t_, t_, t_, t_, t_, t_, t_, t_, t_, t_, t_, t_, t_, t_, t_, t_, t_, t_, t_, t_, t_, t_, t_, t_, t_, t_, t_, t_, t_, t_, t_, t_, t_, t_, t_, f_, f_, f_] rfl rfl (take_ofW HT_.out HW_.out (by kernel_rfl)) (fun _ _ _ h => h) (Or.inl ⟨by rfl, ?_⟩) hHeld ?_ ?_
                   rotate_left
                   · rintro w' ⟨s0, s1, s2, s3, s4, s5, s6, s7, s8, s9, s10, s11, s12, s13, s14, s15, s16, s17, s18, s19, s20, s21, s22, s23, s24, s25, s26, s27, s28, s29, s30, s31⟩
                     go_simp
                     with_reducible rfl
                   rotate_left
                   · simp only [Act.put, List.setIfInBounds_toArray, List.set_cons_zero, List.set_cons_succ, i64_w, i32_w]
                     rfl
                   refine one_ (i := 49) (N := some 66) #[t_, t_, t_, t_, t_, t_, t_, t_, t_, t_, t_, t_, t_, t_, t_, t_, t_, t_, t_, t_, t_, t_, t_, t_, t_, t_, t_, t_, t_, t_, t_, t_, t_, t_, t_, t_, t_, t_, t_, t_, t_, t_, t_, t_, t_, t_, t_, t_, t_, t_, f_, f_] rfl rfl (one_of HT_.out (by kernel_rfl)) (by decide) (fun K hK => ?_)
                   refine goes_ Try.func29 (by kernel_rfl) rfl #[.slice A103_3 ((rd_T34 l0 x5_1).f3).length c103_3, .slice A104_3 ((rd_T34 l1 x5_1).f3).length c104_3] (by rfl) rfl rfl (by (try simp only [List.map_toArray, List.map_cons, List.map_nil]); first | done | rfl | (simp only [List.length_drop, List.length_take]; rfl)) ?_
                   with_reducible refine (spec_Same.calls k1 _ _ ((rd_T34 l0 x5_1).f3) _ _ ((rd_T34 l1 x5_1).f3) false _ ?side1 ?side2 ?side3 ?side4 A12.out).mono ?_
                   (case side1 => repeat (first | exact (Kd.C_below HR110_3.out (by repeat (first | (with_reducible first | exact HB.out | apply below_alloc | apply pw_below_drewN | apply below_drew1) | exact HB.out))) | (with_reducible refine Kd.C_alloc ?_ _) | (with_reducible refine Kd.C_drewN ?_ _) | (with_reducible refine Kd.C_drew ?_)))
                   (case side2 => exact HC110_3.out)
                   (case side3 => repeat (first | exact (Kd.C_below HR111_3.out (by repeat (first | (with_reducible first | exact HB.out | apply below_alloc | apply pw_below_drewN | apply below_drew1) | exact HB.out))) | (with_reducible refine Kd.C_alloc ?_ _) | (with_reducible refine Kd.C_drewN ?_ _) | (with_reducible refine Kd.C_drew ?_)))
                   (case side4 => exact HC111_3.out)
                   rintro e w' ⟨rfl, ⟨nd, rfl⟩⟩
                   refine ⟨_, rfl, ?_⟩
                   refine hK.out _ _ ⟨((HB.out.cell (bl_ w _ hw103_0)).trans hw103_0), ((HB.out.cell (bl_ w _ hw103_1)).trans hw103_1), ((HB.out.cell (bl_ w _ hw103_2)).trans hw103_2), ((HB.out.cell (bl_ w _ hw103_3)).trans hw103_3), ((HB.out.cell (bl_ w _ hw104_0)).trans hw104_0), ((HB.out.cell (bl_ w _ hw104_1)).trans hw104_1), ((HB.out.cell (bl_ w _ hw104_2)).trans hw104_2), ((HB.out.cell (bl_ w _ hw104_3)).trans hw104_3), ((HB.out.cell (bl_ w _ hw105_0)).trans hw105_0), ((HB.out.cell (bl_ w _ hw105_1)).trans hw105_1), ((HB.out.cell (bl_ w _ hw105_2)).trans hw105_2), ((HB.out.cell (bl_ w _ hw105_3)).trans hw105_3), ((HB.out.cell (bl_ w _ hw106_0)).trans hw106_0), ((HB.out.cell (bl_ w _ hw106_1)).trans hw106_1), ((HB.out.cell (bl_ w _ hw106_2)).trans hw106_2), ((HB.out.cell (bl_ w _ hw106_3)).trans hw106_3), ((HB.out.cell (bl_ w _ hw107_0)).trans hw107_0), ((HB.out.cell (bl_ w _ hw107_1)).trans hw107_1), ((HB.out.cell (bl_ w _ hw107_2)).trans hw107_2), ((HB.out.cell (bl_ w _ hw107_3)).trans hw107_3), ((HB.out.cell (bl_ w _ hw108_0)).trans hw108_0), ((HB.out.cell (bl_ w _ hw108_1)).trans hw108_1), ((HB.out.cell (bl_ w _ hw108_2)).trans hw108_2), ((HB.out.cell (bl_ w _ hw108_3)).trans hw108_3), ((HB.out.cell (bl_ w _ hw110_0)).trans hw110_0), ((HB.out.cell (bl_ w _ hw110_1)).trans hw110_1), ((HB.out.cell (bl_ w _ hw110_2)).trans hw110_2), ((HB.out.cell (bl_ w _ hw110_3)).trans hw110_3), ((HB.out.cell (bl_ w _ hw111_0)).trans hw111_0), ((HB.out.cell (bl_ w _ hw111_1)).trans hw111_1), ((HB.out.cell (bl_ w _ hw111_2)).trans hw111_2), ((HB.out.cell (bl_ w _ hw111_3)).trans hw111_3)⟩ (fun hHeld => ?_)
                   clear hK K
                   refine norm_ (a' := ?_) ?_ ?_
                   rotate_left
                   · show Act.put _ (some 66) _ = _
                     simp only [Act.put, List.setIfInBounds_toArray, List.set_cons_zero, List.set_cons_succ, i64_w, i32_w]
                     rfl
                   refine pure_ (i := 50) (N := some 67) (v := ?_) (a' := ?_) #[t_, t_, t_, t_, t_, t_, t_, t_, t_, t_, t_, t_, t_, t_, t_, t_, t_, t_, t_, t_, t_, t_, t_, t_, t_, t_, t_, t_, t_, t_, t_, t_, t_, t_, t_, t_, t_, t_, t_, t_, t_, t_, t_, t_, t_, t_, t_, t_, t_, t_, t_, f_] rfl rfl (any_of HT_.out (by kernel_rfl)) (fun _ _ _ h => h) (Or.inl ⟨by rfl, ?_⟩) ?_ ?_
                   rotate_left
                   · intro w'
                     go_simp
                     with_reducible rfl
                   rotate_left
                   · simp only [Act.put, List.setIfInBounds_toArray, List.set_cons_zero, List.set_cons_succ, i64_w, i32_w]
                     rfl
                   refine pure_ (i := 51) (N := some 68) (v := ?_) (a' := ?_) #[t_, t_, t_, t_, t_, t_, t_, t_, t_, t_, t_, t_, t_, t_, t_, t_, t_, t_, t_, t_, t_, t_, t_, t_, t_, t_, t_, t_, t_, t_, t_, t_, t_, t_, t_, t_, t_, t_, t_, t_, t_, t_, t_, t_, t_, t_, t_, t_, t_, t_, t_, t_] rfl rfl (any_of HT_.out (by kernel_rfl)) (fun _ _ _ h => h) (Or.inl ⟨by rfl, ?_⟩) ?_ ?_
                   rotate_left
                   · intro w'
                     go_simp
                     with_reducible rfl
                   rotate_left
                   · simp only [Act.put, List.setIfInBounds_toArray, List.set_cons_zero, List.set_cons_succ, i64_w, i32_w]
                     rfl
                   refine done_ (done_of HT_.out (by kernel_rfl)) ?_
                   try go_wp2
                   go_ret
                   exact ⟨by first | rfl | (simp [errW_none, errW_some] <;> rfl) | (simp [*, errW_none, errW_some] <;> rfl), by repeat (first | (with_reducible first | exact HB.out | apply below_alloc | apply pw_below_drewN | apply below_drew1) | exact HB.out)⟩
               · replace c11 := Bool.eq_false_iff.mpr c11
                 subst c11
                 have H1 : (some false) = some r := by rw [if_neg (show ¬ (false = true) by decide)] at H; exact H
                 clear H
                 have H := H1
                 clear H1
                 obtain rfl := Option.some.inj H
                 try go_wp2
                 have n0_ := A0_ (below_drew1 HB.out)
                 clear HB
                 have HB := n0_
                 clear n0_
                 have p103 : 0 ≤ (x5_1 : Int) := od_ (by first | (with_reducible assumption) | assumption)
                 have q103 : x5_1 < (l0.length : Int) := od_ (by first | (with_reducible assumption) | assumption)
                 obtain ⟨ad103, A103_2, c103_2, A103_3, c103_3, e103, hx103_0, hx103_1, hx103_2, hx103_3, hl103_2, hi103_2, hl103_3, hi103_3⟩ := at_T34 HR0.out x5_1 p103 q103
                 have hw103_3 := hx103_3
                 have hw103_2 := hx103_2
                 have hw103_1 := hx103_1
                 have hw103_0 := hx103_0
                 cases e103
                 replace hx103_0 := (HB.out.cell (bl_ w _ hx103_0)).trans hx103_0
                 replace hx103_1 := (HB.out.cell (bl_ w _ hx103_1)).trans hx103_1
                 replace hx103_2 := (HB.out.cell (bl_ w _ hx103_2)).trans hx103_2
                 replace hx103_3 := (HB.out.cell (bl_ w _ hx103_3)).trans hx103_3
                 have HR103_2 := A0_ hi103_2
                 have HC103_2 := A0_ hl103_2
                 clear hi103_2 hl103_2
                 have HR103_3 := A0_ hi103_3
                 have HC103_3 := A0_ hl103_3
                 clear hi103_3 hl103_3
                 replace p103 := eq_true p103
                 replace q103 := eq_true q103
                 have p104 : 0 ≤ (x5_1 : Int) := od_ (by first | (with_reducible assumption) | assumption)
                 have q104 : x5_1 < (l1.length : Int) := od_ (by first | (with_reducible assumption) | assumption)
                 obtain ⟨ad104, A104_2, c104_2, A104_3, c104_3, e104, hx104_0, hx104_1, hx104_2, hx104_3, hl104_2, hi104_2, hl104_3, hi104_3⟩ := at_T34 HR1.out x5_1 p104 q104
                 have hw104_3 := hx104_3
                 have hw104_2 := hx104_2
                 have hw104_1 := hx104_1
                 have hw104_0 := hx104_0
                 cases e104
                 replace hx104_0 := (HB.out.cell (bl_ w _ hx104_0)).trans hx104_0
                 replace hx104_1 := (HB.out.cell (bl_ w _ hx104_1)).trans hx104_1
                 replace hx104_2 := (HB.out.cell (bl_ w _ hx104_2)).trans hx104_2
                 replace hx104_3 := (HB.out.cell (bl_ w _ hx104_3)).trans hx104_3
                 have HR104_2 := A0_ hi104_2
                 have HC104_2 := A0_ hl104_2
                 clear hi104_2 hl104_2
                 have HR104_3 := A0_ hi104_3
                 have HC104_3 := A0_ hl104_3
                 clear hi104_3 hl104_3
                 replace p104 := eq_true p104
                 replace q104 := eq_true q104
                 have p105 : 0 ≤ (x5_1 : Int) := od_ (by first | (with_reducible assumption) | assumption)
                 have q105 : x5_1 < (l0.length : Int) := od_ (by first | (with_reducible assumption) | assumption)
                 obtain ⟨ad105, A105_2, c105_2, A105_3, c105_3, e105, hx105_0, hx105_1, hx105_2, hx105_3, hl105_2, hi105_2, hl105_3, hi105_3⟩ := at_T34 HR0.out x5_1 p105 q105
                 have hw105_3 := hx105_3
                 have hw105_2 := hx105_2
                 have hw105_1 := hx105_1
                 have hw105_0 := hx105_0
                 obtain rfl : ad103 = ad105 := (by injection e105)
                 replace hx105_0 := (HB.out.cell (bl_ w _ hx105_0)).trans hx105_0
                 replace hx105_1 := (HB.out.cell (bl_ w _ hx105_1)).trans hx105_1
                 replace hx105_2 := (HB.out.cell (bl_ w _ hx105_2)).trans hx105_2
                 replace hx105_3 := (HB.out.cell (bl_ w _ hx105_3)).trans hx105_3
                 have HR105_2 := A0_ hi105_2
                 have HC105_2 := A0_ hl105_2
                 clear hi105_2 hl105_2
                 have HR105_3 := A0_ hi105_3
                 have HC105_3 := A0_ hl105_3
                 clear hi105_3 hl105_3
                 replace p105 := eq_true p105
                 replace q105 := eq_true q105
                 have ea_ := Option.some.inj (hx103_2.symm.trans hx105_2)
                 injection ea_ with ea_ en_ ec_
                 subst ea_
                 subst ec_
                 clear en_
                 have ea_ := Option.some.inj (hx103_3.symm.trans hx105_3)
                 injection ea_ with ea_ en_ ec_
                 subst ea_
                 subst ec_
                 clear en_
                 have p106 : 0 ≤ (x5_1 : Int) := od_ (by first | (with_reducible assumption) | assumption)
                 have q106 : x5_1 < (l1.length : Int) := od_ (by first | (with_reducible assumption) | assumption)
                 obtain ⟨ad106, A106_2, c106_2, A106_3, c106_3, e106, hx106_0, hx106_1, hx106_2, hx106_3, hl106_2, hi106_2, hl106_3, hi106_3⟩ := at_T34 HR1.out x5_1 p106 q106
                 have hw106_3 := hx106_3
                 have hw106_2 := hx106_2
                 have hw106_1 := hx106_1
                 have hw106_0 := hx106_0
                 obtain rfl : ad104 = ad106 := (by injection e106)
                 replace hx106_0 := (HB.out.cell (bl_ w _ hx106_0)).trans hx106_0
                 replace hx106_1 := (HB.out.cell (bl_ w _ hx106_1)).trans hx106_1
                 replace hx106_2 := (HB.out.cell (bl_ w _ hx106_2)).trans hx106_2
                 replace hx106_3 := (HB.out.cell (bl_ w _ hx106_3)).trans hx106_3
                 have HR106_2 := A0_ hi106_2
                 have HC106_2 := A0_ hl106_2
                 clear hi106_2 hl106_2
                 have HR106_3 := A0_ hi106_3
                 have HC106_3 := A0_ hl106_3
                 clear hi106_3 hl106_3
                 replace p106 := eq_true p106
                 replace q106 := eq_true q106
                 have ea_ := Option.some.inj (hx104_2.symm.trans hx106_2)
                 injection ea_ with ea_ en_ ec_
                 subst ea_
                 subst ec_
                 clear en_
                 have ea_ := Option.some.inj (hx104_3.symm.trans hx106_3)
                 injection ea_ with ea_ en_ ec_
                 subst ea_
                 subst ec_
                 clear en_
                 have p107 : 0 ≤ (x5_1 : Int) := od_ (by first | (with_reducible assumption) | assumption)
                 have q107 : x5_1 < (l0.length : Int) := od_ (by first | (with_reducible assumption) | assumption)
                 obtain ⟨ad107, A107_2, c107_2, A107_3, c107_3, e107, hx107_0, hx107_1, hx107_2, hx107_3, hl107_2, hi107_2, hl107_3, hi107_3⟩ := at_T34 HR0.out x5_1 p107 q107
                 have hw107_3 := hx107_3
                 have hw107_2 := hx107_2
                 have hw107_1 := hx107_1
                 have hw107_0 := hx107_0
                 obtain rfl : ad103 = ad107 := (by injection e107)
                 replace hx107_0 := (HB.out.cell (bl_ w _ hx107_0)).trans hx107_0
                 replace hx107_1 := (HB.out.cell (bl_ w _ hx107_1)).trans hx107_1
                 replace hx107_2 := (HB.out.cell (bl_ w _ hx107_2)).trans hx107_2
                 replace hx107_3 := (HB.out.cell (bl_ w _ hx107_3)).trans hx107_3
                 have HR107_2 := A0_ hi107_2
                 have HC107_2 := A0_ hl107_2
                 clear hi107_2 hl107_2
                 have HR107_3 := A0_ hi107_3
                 have HC107_3 := A0_ hl107_3
                 clear hi107_3 hl107_3
                 replace p107 := eq_true p107
                 replace q107 := eq_true q107
                 have ea_ := Option.some.inj (hx103_2.symm.trans hx107_2)
                 injection ea_ with ea_ en_ ec_
                 subst ea_
                 subst ec_
                 clear en_
                 have ea_ := Option.some.inj (hx103_3.symm.trans hx107_3)
                 injection ea_ with ea_ en_ ec_
                 subst ea_
                 subst ec_
                 clear en_
                 have p108 : 0 ≤ (x5_1 : Int) := od_ (by first | (with_reducible assumption) | assumption)
                 have q108 : x5_1 < (l1.length : Int) := od_ (by first | (with_reducible assumption) | assumption)
                 obtain ⟨ad108, A108_2, c108_2, A108_3, c108_3, e108, hx108_0, hx108_1, hx108_2, hx108_3, hl108_2, hi108_2, hl108_3, hi108_3⟩ := at_T34 HR1.out x5_1 p108 q108
                 have hw108_3 := hx108_3
                 have hw108_2 := hx108_2
                 have hw108_1 := hx108_1
                 have hw108_0 := hx108_0
                 obtain rfl : ad104 = ad108 := (by injection e108)
                 replace hx108_0 := (HB.out.cell (bl_ w _ hx108_0)).trans hx108_0
                 replace hx108_1 := (HB.out.cell (bl_ w _ hx108_1)).trans hx108_1
                 replace hx108_2 := (HB.out.cell (bl_ w _ hx108_2)).trans hx108_2
                 replace hx108_3 := (HB.out.cell (bl_ w _ hx108_3)).trans hx108_3
                 have HR108_2 := A0_ hi108_2
                 have HC108_2 := A0_ hl108_2
                 clear hi108_2 hl108_2
                 have HR108_3 := A0_ hi108_3
                 have HC108_3 := A0_ hl108_3
                 clear hi108_3 hl108_3
                 replace p108 := eq_true p108
                 replace q108 := eq_true q108
                 have ea_ := Option.some.inj (hx104_2.symm.trans hx108_2)
                 injection ea_ with ea_ en_ ec_
                 subst ea_
                 subst ec_
                 clear en_
                 have ea_ := Option.some.inj (hx104_3.symm.trans hx108_3)
                 injection ea_ with ea_ en_ ec_
                 subst ea_
                 subst ec_
                 clear en_
                 refine start_ (n := 52) (S := fun w' => w'.cell? (ad103.add ((x5_1).toNat * 4)) = some (.int .i64 ((rd_T34 l0 x5_1).f0)) ∧ w'.cell? ⟨(ad103.add ((x5_1).toNat * 4)).block, (ad103.add ((x5_1).toNat * 4)).off + 1, none⟩ = some (.bool ((rd_T34 l0 x5_1).f1)) ∧ w'.cell? ⟨(ad103.add ((x5_1).toNat * 4)).block, (ad103.add ((x5_1).toNat * 4)).off + 2, none⟩ = some (.slice A103_2 ((rd_T34 l0 x5_1).f2).length c103_2) ∧ w'.cell? ⟨(ad103.add ((x5_1).toNat * 4)).block, (ad103.add ((x5_1).toNat * 4)).off + 3, none⟩ = some (.slice A103_3 ((rd_T34 l0 x5_1).f3).length c103_3) ∧ w'.cell? (ad104.add ((x5_1).toNat * 4)) = some (.int .i64 ((rd_T34 l1 x5_1).f0)) ∧ w'.cell? ⟨(ad104.add ((x5_1).toNat * 4)).block, (ad104.add ((x5_1).toNat * 4)).off + 1, none⟩ = some (.bool ((rd_T34 l1 x5_1).f1)) ∧ w'.cell? ⟨(ad104.add ((x5_1).toNat * 4)).block, (ad104.add ((x5_1).toNat * 4)).off + 2, none⟩ = some (.slice A104_2 ((rd_T34 l1 x5_1).f2).length c104_2) ∧ w'.cell? ⟨(ad104.add ((x5_1).toNat * 4)).block, (ad104.add ((x5_1).toNat * 4)).off + 3, none⟩ = some (.slice A104_3 ((rd_T34 l1 x5_1).f3).length c104_3) ∧ w'.cell? (ad103.add ((x5_1).toNat * 4)) = some (.int .i64 ((rd_T34 l0 x5_1).f0)) ∧ w'.cell? ⟨(ad103.add ((x5_1).toNat * 4)).block, (ad103.add ((x5_1).toNat * 4)).off + 1, none⟩ = some (.bool ((rd_T34 l0 x5_1).f1)) ∧ w'.cell? ⟨(ad103.add ((x5_1).toNat * 4)).block, (ad103.add ((x5_1).toNat * 4)).off + 2, none⟩ = some (.slice A103_2 ((rd_T34 l0 x5_1).f2).length c103_2) ∧ w'.cell? ⟨(ad103.add ((x5_1).toNat * 4)).block, (ad103.add ((x5_1).toNat * 4)).off + 3, none⟩ = some (.slice A103_3 ((rd_T34 l0 x5_1).f3).length c103_3) ∧ w'.cell? (ad104.add ((x5_1).toNat * 4)) = some (.int .i64 ((rd_T34 l1 x5_1).f0)) ∧ w'.cell? ⟨(ad104.add ((x5_1).toNat * 4)).block, (ad104.add ((x5_1).toNat * 4)).off + 1, none⟩ = some (.bool ((rd_T34 l1 x5_1).f1)) ∧ w'.cell? ⟨(ad104.add ((x5_1).toNat * 4)).block, (ad104.add ((x5_1).toNat * 4)).off + 2, none⟩ = some (.slice A104_2 ((rd_T34 l1 x5_1).f2).length c104_2) ∧ w'.cell? ⟨(ad104.add ((x5_1).toNat * 4)).block, (ad104.add ((x5_1).toNat * 4)).off + 3, none⟩ = some (.slice A104_3 ((rd_T34 l1 x5_1).f3).length c104_3) ∧ w'.cell? (ad103.add ((x5_1).toNat * 4)) = some (.int .i64 ((rd_T34 l0 x5_1).f0)) ∧ w'.cell? ⟨(ad103.add ((x5_1).toNat * 4)).block, (ad103.add ((x5_1).toNat * 4)).off + 1, none⟩ = some (.bool ((rd_T34 l0 x5_1).f1)) ∧ w'.cell? ⟨(ad103.add ((x5_1).toNat * 4)).block, (ad103.add ((x5_1).toNat * 4)).off + 2, none⟩ = some (.slice A103_2 ((rd_T34 l0 x5_1).f2).length c103_2) ∧ w'.cell? ⟨(ad103.add ((x5_1).toNat * 4)).block, (ad103.add ((x5_1).toNat * 4)).off + 3, none⟩ = some (.slice A103_3 ((rd_T34 l0 x5_1).f3).length c103_3) ∧ w'.cell? (ad104.add ((x5_1).toNat * 4)) = some (.int .i64 ((rd_T34 l1 x5_1).f0)) ∧ w'.cell? ⟨(ad104.add ((x5_1).toNat * 4)).block, (ad104.add ((x5_1).toNat * 4)).off + 1, none⟩ = some (.bool ((rd_T34 l1 x5_1).f1)) ∧ w'.cell? ⟨(ad104.add ((x5_1).toNat * 4)).block, (ad104.add ((x5_1).toNat * 4)).off + 2, none⟩ = some (.slice A104_2 ((rd_T34 l1 x5_1).f2).length c104_2) ∧ w'.cell? ⟨(ad104.add ((x5_1).toNat * 4)).block, (ad104.add ((x5_1).toNat * 4)).off + 3, none⟩ = some (.slice A104_3 ((rd_T34 l1 x5_1).f3).length c104_3)) (ds := []) #[f_, f_, f_, f_, f_, f_, f_, f_, f_, f_, f_, f_, f_, f_, f_, f_, f_, f_, f_, f_, f_, f_, f_, f_, f_, f_, f_, f_, f_, f_, f_, f_, f_, f_, f_, f_, f_, f_, f_, f_, f_, f_, f_, f_, f_, f_, f_, f_, f_, f_, f_, f_] (by kernel_rfl) rfl rfl ⟨((HB.out.cell (bl_ w _ hw103_0)).trans hw103_0), ((HB.out.cell (bl_ w _ hw103_1)).trans hw103_1), ((HB.out.cell (bl_ w _ hw103_2)).trans hw103_2), ((HB.out.cell (bl_ w _ hw103_3)).trans hw103_3), ((HB.out.cell (bl_ w _ hw104_0)).trans hw104_0), ((HB.out.cell (bl_ w _ hw104_1)).trans hw104_1), ((HB.out.cell (bl_ w _ hw104_2)).trans hw104_2), ((HB.out.cell (bl_ w _ hw104_3)).trans hw104_3), ((HB.out.cell (bl_ w _ hw105_0)).trans hw105_0), ((HB.out.cell (bl_ w _ hw105_1)).trans hw105_1), ((HB.out.cell (bl_ w _ hw105_2)).trans hw105_2), ((HB.out.cell (bl_ w _ hw105_3)).trans hw105_3), ((HB.out.cell (bl_ w _ hw106_0)).trans hw106_0), ((HB.out.cell (bl_ w _ hw106_1)).trans hw106_1), ((HB.out.cell (bl_ w _ hw106_2)).trans hw106_2), ((HB.out.cell (bl_ w _ hw106_3)).trans hw106_3), ((HB.out.cell (bl_ w _ hw107_0)).trans hw107_0), ((HB.out.cell (bl_ w _ hw107_1)).trans hw107_1), ((HB.out.cell (bl_ w _ hw107_2)).trans hw107_2), ((HB.out.cell (bl_ w _ hw107_3)).trans hw107_3), ((HB.out.cell (bl_ w _ hw108_0)).trans hw108_0), ((HB.out.cell (bl_ w _ hw108_1)).trans hw108_1), ((HB.out.cell (bl_ w _ hw108_2)).trans hw108_2), ((HB.out.cell (bl_ w _ hw108_3)).trans hw108_3)⟩ (fun hHeld => ?_); refine with_tabW spec_SeenSame.tab6 spec_SeenSame.bits6 (fun HT_ HW_ => ?_)
                 generalize wr.drew = w16 at HB HR103_2 HR103_3 HR104_2 HR104_3 HR105_2 HR105_3 HR106_2 HR106_3 HR107_2 HR107_3 HR108_2 HR108_3 hx103_0 hx103_1 hx103_2 hx103_3 hx104_0 hx104_1 hx104_2 hx104_3 hx105_0 hx105_1 hx105_2 hx105_3 hx106_0 hx106_1 hx106_2 hx106_3 hx107_0 hx107_1 hx107_2 hx107_3 hx108_0 hx108_1 hx108_2 hx108_3 hHeld ⊢
                 refine pure_ (i := 0) (N := some 17) (v := ?_) (a' := ?_) #[t_, f_, f_, f_, f_, f_, f_, f_, f_, f_, f_, f_, f_, f_, f_, f_, f_, f_, f_, f_, f_, f_, f_, f_, f_, f_, f_, f_, f_, f_, f_, f_, f_, f_, f_, f_, f_, f_, f_, f_, f_, f_, f_, f_, f_, f_, f_, f_, f_, f_, f_, f_] rfl rfl (any_of HT_.out (by kernel_rfl)) (fun _ _ _ h => h) (Or.inl ⟨by rfl, ?_⟩) ?_ ?_
                 rotate_left
                 · intro w'
                   go_simp
                   with_reducible rfl
                 rotate_left
                 · simp only [Act.put, List.setIfInBounds_toArray, List.set_cons_zero, List.set_cons_succ, i64_w, i32_w]
                   rfl
                 refine pure_ (i := 1) (N := some 18) (v := ?_) (a' := ?_) #[t_, t_, f_, f_, f_, f_, f_, f_, f_, f_, f_, f_, f_, f_, f_, f_, f_, f_, f_, f_, f_, f_, f_, f_, f_, f_, f_, f_, f_, f_, f_, f_, f_, f_, f_, f_, f_, f_, f_, f_, f_, f_, f_, f_, f_, f_, f_, f_, f_, f_, f_, f_] rfl rfl (any_of HT_.out (by kernel_rfl)) (fun _ _ _ h => h) (Or.inl ⟨by rfl, ?_⟩) ?_ ?_
                 rotate_left
                 · intro w'
                   go_simp
                   with_reducible rfl
                 rotate_left
                 · simp only [Act.put, List.setIfInBounds_toArray, List.set_cons_zero, List.set_cons_succ, i64_w, i32_w]
                   rfl
                 refine pure_ (i := 2) (N := some 19) (v := ?_) (a' := ?_) #[t_, t_, t_, f_, f_, f_, f_, f_, f_, f_, f_, f_, f_, f_, f_, f_, f_, f_, f_, f_, f_, f_, f_, f_, f_, f_, f_, f_, f_, f_, f_, f_, f_, f_, f_, f_, f_, f_, f_, f_, f_, f_, f_, f_, f_, f_, f_, f_, f_, f_, f_, f_] rfl rfl (any_of HT_.out (by kernel_rfl)) (fun _ _ _ h => h) (Or.inl ⟨by rfl, ?_⟩) ?_ ?_
                 rotate_left
                 · intro w'
                   go_simp
                   with_reducible rfl
                 rotate_left
                 · simp only [Act.put, List.setIfInBounds_toArray, List.set_cons_zero, List.set_cons_succ, i64_w, i32_w]
                   rfl
                 refine pure_ (i := 3) (N := some 20) (v := ?_) (a' := ?_) #[t_, t_, t_, t_, f_, f_, f_, f_, f_, f_, f_, f_, f_, f_, f_, f_, f_, f_, f_, f_, f_, f_, f_, f_, f_, f_, f_, f_, f_, f_, f_, f_, f_, f_, f_, f_, f_, f_, f_, f_, f_, f_, f_, f_, f_, f_, f_, f_, f_, f_, f_, f_] rfl rfl (any_of HT_.out (by kernel_rfl)) (fun _ _ _ h => h) (Or.inl ⟨by rfl, ?_⟩) ?_ ?_
                 rotate_left
                 · intro w'
                   go_simp
                   with_reducible rfl
                 rotate_left
                 · simp only [Act.put, List.setIfInBounds_toArray, List.set_cons_zero, List.set_cons_succ, i64_w, i32_w]
                   rfl
                 refine pure_ (i := 5) (N := some 22) (v := ?_) (a' := ?_) #[t_, t_, t_, t_, f_, t_, f_, f_, f_, f_, f_, f_, f_, f_, f_, f_, f_, f_, f_, f_, f_, f_, f_, f_, f_, f_, f_, f_, f_, f_, f_, f_, f_, f_, f_, f_, f_, f_, f_, f_, f_, f_, f_, f_, f_, f_, f_, f_, f_, f_, f_, f_] rfl rfl (any_of HT_.out (by kernel_rfl)) (fun _ _ _ h => h) (Or.inl ⟨by rfl, ?_⟩) ?_ ?_
                 rotate_left
                 · intro w'
                   go_simp
                   with_reducible rfl
                 rotate_left
                 · simp only [Act.put, List.setIfInBounds_toArray, List.set_cons_zero, List.set_cons_succ, i64_w, i32_w]
                   rfl
                 refine pure_ (i := 6) (N := some 23) (v := ?_) (a' := ?_) #[t_, t_, t_, t_, f_, t_, t_, f_, f_, f_, f_, f_, f_, f_, f_, f_, f_, f_, f_, f_, f_, f_, f_, f_, f_, f_, f_, f_, f_, f_, f_, f_, f_, f_, f_, f_, f_, f_, f_, f_, f_, f_, f_, f_, f_, f_, f_, f_, f_, f_, f_, f_] rfl rfl (any_of HT_.out (by kernel_rfl)) (fun _ _ _ h => h) (Or.inl ⟨by rfl, ?_⟩) ?_ ?_
                 rotate_left
                 · intro w'
                   go_simp
                   with_reducible rfl
                 rotate_left
                 · simp only [Act.put, List.setIfInBounds_toArray, List.set_cons_zero, List.set_cons_succ, i64_w, i32_w]
                   rfl
                 refine pure_ (i := 7) (N := some 24) (v := ?_) (a' := ?_) #[t_, t_, t_, t_, f_, t_, t_, t_, f_, f_, f_, f_, f_, f_, f_, f_, f_, f_, f_, f_, f_, f_, f_, f_, f_, f_, f_, f_, f_, f_, f_, f_, f_, f_, f_, f_, f_, f_, f_, f_, f_, f_, f_, f_, f_, f_, f_, f_, f_, f_, f_, f_] rfl rfl (any_of HT_.out (by kernel_rfl)) (fun _ _ _ h => h) (Or.inl ⟨by rfl, ?_⟩) ?_ ?_
                 rotate_left
                 · intro w'
                   go_simp
                   with_reducible rfl
                 rotate_left
                 · simp only [Act.put, List.setIfInBounds_toArray, List.set_cons_zero, List.set_cons_succ, i64_w, i32_w]
                   rfl
                 refine pure_ (i := 8) (N := some 25) (v := ?_) (a' := ?_) #[t_, t_, t_, t_, f_, t_, t_, t_, t_, f_, f_, f_, f_, f_, f_, f_, f_, f_, f_, f_, f_, f_, f_, f_, f_, f_, f_, f_, f_, f_, f_, f_, f_, f_, f_, f_, f_, f_, f_, f_, f_, f_, f_, f_, f_, f_, f_, f_, f_, f_, f_, f_] rfl rfl (any_of HT_.out (by kernel_rfl)) (fun _ _ _ h => h) (Or.inl ⟨by rfl, ?_⟩) ?_ ?_
                 rotate_left
                 · intro w'
                   go_simp
                   with_reducible rfl
                 rotate_left
                 · simp only [Act.put, List.setIfInBounds_toArray, List.set_cons_zero, List.set_cons_succ, i64_w, i32_w]
                   rfl
                 refine take_ (i := 4) (N := some 21) (v := ?_) (a' := ?_) #[t_, t_, t_, t_, t_, t_, t_, t_, t_, f_, f_, f_, f_, f_, f_, f_, f_, f_, f_, f_, f_, f_, f_, f_, f_, f_, f_, f_, f_, f_, f_, f_, f_, f_, f_, f_, f_, f_, f_, f_, f_, f_, f_, f_, f_, f_, f_, f_, f_, f_, f_, f_] rfl rfl (take_ofW HT_.out HW_.out (by kernel_rfl)) (fun _ _ _ h => h) (Or.inl ⟨by rfl, ?_⟩) hHeld ?_ ?_
                 rotate_left
                 · rintro w' ⟨s0, s1, s2, s3, s4, s5, s6, s7, s8, s9, s10, s11, s12, s13, s14, s15, s16, s17, s18, s19, s20, s21, s22, s23⟩
                   go_simp
                   with_reducible rfl
                 rotate_left
                 · simp only [Act.put, List.setIfInBounds_toArray, List.set_cons_zero, List.set_cons_succ, i64_w, i32_w]
                   rfl
                 refine take_ (i := 9) (N := some 26) (v := ?_) (a' := ?_) #[t_, t_, t_, t_, t_, t_, t_, t_, t_, t_, f_, f_, f_, f_, f_, f_, f_, f_, f_, f_, f_, f_, f_, f_, f_, f_, f_, f_, f_, f_, f_, f_, f_, f_, f_, f_, f_, f_, f_, f_, f_, f_, f_, f_, f_, f_, f_, f_, f_, f_, f_, f_] rfl rfl (take_ofW HT_.out HW_.out (by kernel_rfl)) (fun _ _ _ h => h) (Or.inl ⟨by rfl, ?_⟩) hHeld ?_ ?_
                 rotate_left
                 · rintro w' ⟨s0, s1, s2, s3, s4, s5, s6, s7, s8, s9, s10, s11, s12, s13, s14, s15, s16, s17, s18, s19, s20, s21, s22, s23⟩
                   go_simp
                   with_reducible rfl
                 rotate_left
                 · simp only [Act.put, List.setIfInBounds_toArray, List.set_cons_zero, List.set_cons_succ, i64_w, i32_w]
                   rfl
                 refine pure_ (i := 10) (N := some 27) (v := ?_) (a' := ?_) #[t_, t_, t_, t_, t_, t_, t_, t_, t_, t_, t_, f_, f_, f_, f_, f_, f_, f_, f_, f_, f_, f_, f_, f_, f_, f_, f_, f_, f_, f_, f_, f_, f_, f_, f_, f_, f_, f_, f_, f_, f_, f_, f_, f_, f_, f_, f_, f_, f_, f_, f_, f_] rfl rfl (any_of HT_.out (by kernel_rfl)) (fun _ _ _ h => h) (Or.inl ⟨by rfl, ?_⟩) ?_ ?_
                 rotate_left
                 · intro w'
                   go_simp
                   with_reducible rfl
                 rotate_left
                 · simp only [Act.put, List.setIfInBounds_toArray, List.set_cons_zero, List.set_cons_succ, i64_w, i32_w]
                   rfl
                 refine pure_ (i := 11) (N := some 28) (v := ?_) (a' := ?_) #[t_, t_, t_, t_, t_, t_, t_, t_, t_, t_, t_, t_, f_, f_, f_, f_, f_, f_, f_, f_, f_, f_, f_, f_, f_, f_, f_, f_, f_, f_, f_, f_, f_, f_, f_, f_, f_, f_, f_, f_, f_, f_, f_, f_, f_, f_, f_, f_, f_, f_, f_, f_] rfl rfl (any_of HT_.out (by kernel_rfl)) (fun _ _ _ h => h) (Or.inl ⟨by rfl, ?_⟩) ?_ ?_
                 rotate_left
                 · intro w'
                   go_simp
                   with_reducible rfl
                 rotate_left
                 · simp only [Act.put, List.setIfInBounds_toArray, List.set_cons_zero, List.set_cons_succ, i64_w, i32_w]
                   rfl
                 refine pure_ (i := 12) (N := some 29) (v := ?_) (a' := ?_) #[t_, t_, t_, t_, t_, t_, t_, t_, t_, t_, t_, t_, t_, f_, f_, f_, f_, f_, f_, f_, f_, f_, f_, f_, f_, f_, f_, f_, f_, f_, f_, f_, f_, f_, f_, f_, f_, f_, f_, f_, f_, f_, f_, f_, f_, f_, f_, f_, f_, f_, f_, f_] rfl rfl (any_of HT_.out (by kernel_rfl)) (fun _ _ _ h => h) (Or.inl ⟨by rfl, ?_⟩) ?_ ?_
                 rotate_left
                 · intro w'
                   go_simp
                   with_reducible rfl
                 rotate_left
                 · simp only [Act.put, List.setIfInBounds_toArray, List.set_cons_zero, List.set_cons_succ, i64_w, i32_w]
                   rfl
                 refine pure_ (i := 13) (N := some 30) (v := ?_) (a' := ?_) #[t_, t_, t_, t_, t_, t_, t_, t_, t_, t_, t_, t_, t_, t_, f_, f_, f_, f_, f_, f_, f_, f_, f_, f_, f_, f_, f_, f_, f_, f_, f_, f_, f_, f_, f_, f_, f_, f_, f_, f_, f_, f_, f_, f_, f_, f_, f_, f_, f_, f_, f_, f_] rfl rfl (any_of HT_.out (by kernel_rfl)) (fun _ _ _ h => h) (Or.inl ⟨by rfl, ?_⟩) ?_ ?_
                 rotate_left
                 · intro w'
                   go_simp
                   with_reducible rfl
                 rotate_left
                 · simp only [Act.put, List.setIfInBounds_toArray, List.set_cons_zero, List.set_cons_succ, i64_w, i32_w]
                   rfl
                 refine pure_ (i := 14) (N := some 31) (v := ?_) (a' := ?_) #[t_, t_, t_, t_, t_, t_, t_, t_, t_, t_, t_, t_, t_, t_, t_, f_, f_, f_, f_, f_, f_, f_, f_, f_, f_, f_, f_, f_, f_, f_, f_, f_, f_, f_, f_, f_, f_, f_, f_, f_, f_, f_, f_, f_, f_, f_, f_, f_, f_, f_, f_, f_] rfl rfl (any_of HT_.out (by kernel_rfl)) (fun _ _ _ h => h) (Or.inl ⟨by rfl, ?_⟩) ?_ ?_
                 rotate_left
                 · intro w'
                   go_simp
                   with_reducible rfl
                 rotate_left
                 · simp only [Act.put, List.setIfInBounds_toArray, List.set_cons_zero, List.set_cons_succ, i64_w, i32_w]
                   rfl
                 refine pure_ (i := 15) (N := some 32) (v := ?_) (a' := ?_) #[t_, t_, t_, t_, t_, t_, t_, t_, t_, t_, t_, t_, t_, t_, t_, t_, f_, f_, f_, f_, f_, f_, f_, f_, f_, f_, f_, f_, f_, f_, f_, f_, f_, f_, f_, f_, f_, f_, f_, f_, f_, f_, f_, f_, f_, f_, f_, f_, f_, f_, f_, f_] rfl rfl (any_of HT_.out (by kernel_rfl)) (fun _ _ _ h => h) (Or.inl ⟨by rfl, ?_⟩) ?_ ?_
                 rotate_left
                 · intro w'
                   go_simp
                   with_reducible rfl
                 rotate_left
                 · simp only [Act.put, List.setIfInBounds_toArray, List.set_cons_zero, List.set_cons_succ, i64_w, i32_w]
                   rfl
                 refine pure_ (i := 17) (N := some 34) (v := ?_) (a' := ?_) #[t_, t_, t_, t_, t_, t_, t_, t_, t_, t_, t_, t_, t_, t_, t_, t_, f_, t_, f_, f_, f_, f_, f_, f_, f_, f_, f_, f_, f_, f_, f_, f_, f_, f_, f_, f_, f_, f_, f_, f_, f_, f_, f_, f_, f_, f_, f_, f_, f_, f_, f_, f_] rfl rfl (any_of HT_.out (by kernel_rfl)) (fun _ _ _ h => h) (Or.inl ⟨by rfl, ?_⟩) ?_ ?_
                 rotate_left
                 · intro w'
                   go_simp
                   with_reducible rfl
                 rotate_left
                 · simp only [Act.put, List.setIfInBounds_toArray, List.set_cons_zero, List.set_cons_succ, i64_w, i32_w]
                   rfl
                 refine pure_ (i := 18) (N := some 35) (v := ?_) (a' := ?_) #[t_, t_, t_, t_, t_, t_, t_, t_, t_, t_, t_, t_, t_, t_, t_, t_, f_, t_, t_, f_, f_, f_, f_, f_, f_, f_, f_, f_, f_, f_, f_, f_, f_, f_, f_, f_, f_, f_, f_, f_, f_, f_, f_, f_, f_, f_, f_, f_, f_, f_, f_, f_] rfl rfl (any_of HT_.out (by kernel_rfl)) (fun _ _ _ h => h) (Or.inl ⟨by rfl, ?_⟩) ?_ ?_
                 rotate_left
                 · intro w'
                   go_simp
                   with_reducible rfl
                 rotate_left
                 · simp only [Act.put, List.setIfInBounds_toArray, List.set_cons_zero, List.set_cons_succ, i64_w, i32_w]
                   rfl
                 refine pure_ (i := 19) (N := some 36) (v := ?_) (a' := ?_) #[t_, t_, t_, t_, t_, t_, t_, t_, t_, t_, t_, t_, t_, t_, t_, t_, f_, t_, t_, t_, f_, f_, f_, f_, f_, f_, f_, f_, f_, f_, f_, f_, f_, f_, f_, f_, f_, f_, f_, f_, f_, f_, f_, f_, f_, f_, f_, f_, f_, f_, f_, f_] rfl rfl (any_of HT_.out (by kernel_rfl)) (fun _ _ _ h => h) (Or.inl ⟨by rfl, ?_⟩) ?_ ?_
                 rotate_left
                 · intro w'
                   go_simp
                   with_reducible rfl
                 rotate_left
                 · simp only [Act.put, List.setIfInBounds_toArray, List.set_cons_zero, List.set_cons_succ, i64_w, i32_w]
                   rfl
                 refine pure_ (i := 20) (N := some 37) (v := ?_) (a' := ?_) #[t_, t_, t_, t_, t_, t_, t_, t_, t_, t_, t_, t_, t_, t_, t_, t_, f_, t_, t_, t_, t_, f_, f_, f_, f_, f_, f_, f_, f_, f_, f_, f_, f_, f_, f_, f_, f_, f_, f_, f_, f_, f_, f_, f_, f_, f_, f_, f_, f_, f_, f_, f_] rfl rfl (any_of HT_.out (by kernel_rfl)) (fun _ _ _ h => h) (Or.inl ⟨by rfl, ?_⟩) ?_ ?_
                 rotate_left
                 · intro w'
                   go_simp
                   with_reducible rfl
                 rotate_left
                 · simp only [Act.put, List.setIfInBounds_toArray, List.set_cons_zero, List.set_cons_succ, i64_w, i32_w]
                   rfl
                 refine take_ (i := 16) (N := some 33) (v := ?_) (a' := ?_) #[t_, t_, t_, t_, t_, t_, t_, t_, t_, t_, t_, t_, t_, t_, t_, t_, t_, t_, t_, t_, t_, f_, f_, f_, f_, f_, f_, f_, f_, f_, f_, f_, f_, f_, f_, f_, f_, f_, f_, f_, f_, f_, f_, f_, f_, f_, f_, f_, f_, f_, f_, f_] rfl rfl (take_ofW HT_.out HW_.out (by kernel_rfl)) (fun _ _ _ h => h) (Or.inl ⟨by rfl, ?_⟩) hHeld ?_ ?_
                 rotate_left
                 · rintro w' ⟨s0, s1, s2, s3, s4, s5, s6, s7, s8, s9, s10, s11, s12, s13, s14, s15, s16, s17, s18, s19, s20, s21, s22, s23⟩
                   go_simp
                   with_reducible rfl
                 rotate_left
                 · simp only [Act.put, List.setIfInBounds_toArray, List.set_cons_zero, List.set_cons_succ, i64_w, i32_w]
                   rfl
                 refine take_ (i := 21) (N := some 38) (v := ?_) (a' := ?_) #[t_, t_, t_, t_, t_, t_, t_, t_, t_, t_, t_, t_, t_, t_, t_, t_, t_, t_, t_, t_, t_, t_, f_, f_, f_, f_, f_, f_, f_, f_, f_, f_, f_, f_, f_, f_, f_, f_, f_, f_, f_, f_, f_, f_, f_, f_, f_, f_, f_, f_, f_, f_] rfl rfl (take_ofW HT_.out HW_.out (by kernel_rfl)) (fun _ _ _ h => h) (Or.inl ⟨by rfl, ?_⟩) hHeld ?_ ?_
                 rotate_left
                 · rintro w' ⟨s0, s1, s2, s3, s4, s5, s6, s7, s8, s9, s10, s11, s12, s13, s14, s15, s16, s17, s18, s19, s20, s21, s22, s23⟩
                   go_simp
                   with_reducible rfl
                 rotate_left
                 · simp only [Act.put, List.setIfInBounds_toArray, List.set_cons_zero, List.set_cons_succ, i64_w, i32_w]
                   rfl
                 refine pure_ (i := 22) (N := some 39) (v := ?_) (a' := ?_) #[t_, t_, t_, t_, t_, t_, t_, t_, t_, t_, t_, t_, t_, t_, t_, t_, t_, t_, t_, t_, t_, t_, t_, f_, f_, f_, f_, f_, f_, f_, f_, f_, f_, f_, f_, f_, f_, f_, f_, f_, f_, f_, f_, f_, f_, f_, f_, f_, f_, f_, f_, f_] rfl rfl (any_of HT_.out (by kernel_rfl)) (fun _ _ _ h => h) (Or.inl ⟨by rfl, ?_⟩) ?_ ?_
                 rotate_left
                 · intro w'
                   go_simp
                   with_reducible rfl
                 rotate_left
                 · simp only [Act.put, List.setIfInBounds_toArray, List.set_cons_zero, List.set_cons_succ, i64_w, i32_w]
                   rfl
                 refine pure_ (i := 23) (N := some 40) (v := ?_) (a' := ?_) #[t_, t_, t_, t_, t_, t_, t_, t_, t_, t_, t_, t_, t_, t_, t_, t_, t_, t_, t_, t_, t_, t_, t_, t_, f_, f_, f_, f_, f_, f_, f_, f_, f_, f_, f_, f_, f_, f_, f_, f_, f_, f_, f_, f_, f_, f_, f_, f_, f_, f_, f_, f_] rfl rfl (any_of HT_.out (by kernel_rfl)) (fun _ _ _ h => h) (Or.inl ⟨by rfl, ?_⟩) ?_ ?_
                 rotate_left
                 · intro w'
                   go_simp
                   with_reducible rfl
                 rotate_left
                 · simp only [Act.put, List.setIfInBounds_toArray, List.set_cons_zero, List.set_cons_succ, i64_w, i32_w]
                   rfl
                 refine pure_ (i := 24) (N := some 41) (v := ?_) (a' := ?_) #[t_, t_, t_, t_, t_, t_, t_, t_, t_, t_, t_, t_, t_, t_, t_, t_, t_, t_, t_, t_, t_, t_, t_, t_, t_, f_, f_, f_, f_, f_, f_, f_, f_, f_, f_, f_, f_, f_, f_, f_, f_, f_, f_, f_, f_, f_, f_, f_, f_, f_, f_, f_] rfl rfl (any_of HT_.out (by kernel_rfl)) (fun _ _ _ h => h) (Or.inl ⟨by rfl, ?_⟩) ?_ ?_
                 rotate_left
                 · intro w'
                   go_simp
                   with_reducible rfl
                 rotate_left
                 · simp only [Act.put, List.setIfInBounds_toArray, List.set_cons_zero, List.set_cons_succ, i64_w, i32_w]
                   rfl
                 refine pure_ (i := 25) (N := some 42) (v := ?_) (a' := ?_) #[t_, t_, t_, t_, t_, t_, t_, t_, t_, t_, t_, t_, t_, t_, t_, t_, t_, t_, t_, t_, t_, t_, t_, t_, t_, t_, f_, f_, f_, f_, f_, f_, f_, f_, f_, f_, f_, f_, f_, f_, f_, f_, f_, f_, f_, f_, f_, f_, f_, f_, f_, f_] rfl rfl (any_of HT_.out (by kernel_rfl)) (fun _ _ _ h => h) (Or.inl ⟨by rfl, ?_⟩) ?_ ?_
                 rotate_left
                 · intro w'
                   go_simp
                   with_reducible rfl
                 rotate_left
                 · simp only [Act.put, List.setIfInBounds_toArray, List.set_cons_zero, List.set_cons_succ, i64_w, i32_w]
                   rfl
                 refine pure_ (i := 26) (N := some 43) (v := ?_) (a' := ?_) #[t_, t_, t_, t_, t_, t_, t_, t_, t_, t_, t_, t_, t_, t_, t_, t_, t_, t_, t_, t_, t_, t_, t_, t_, t_, t_, t_, f_, f_, f_, f_, f_, f_, f_, f_, f_, f_, f_, f_, f_, f_, f_, f_, f_, f_, f_, f_, f_, f_, f_, f_, f_] rfl rfl (any_of HT_.out (by kernel_rfl)) (fun _ _ _ h => h) (Or.inl ⟨by rfl, ?_⟩) ?_ ?_
                 rotate_left
                 · intro w'
                   go_simp
                   with_reducible rfl
                 rotate_left
                 · simp only [Act.put, List.setIfInBounds_toArray, List.set_cons_zero, List.set_cons_succ, i64_w, i32_w]
                   rfl
                 refine pure_ (i := 27) (N := some 44) (v := ?_) (a' := ?_) #[t_, t_, t_, t_, t_, t_, t_, t_, t_, t_, t_, t_, t_, t_, t_, t_, t_, t_, t_, t_, t_, t_, t_, t_, t_, t_, t_, t_, f_, f_, f_, f_, f_, f_, f_, f_, f_, f_, f_, f_, f_, f_, f_, f_, f_, f_, f_, f_, f_, f_, f_, f_] rfl rfl (any_of HT_.out (by kernel_rfl)) (fun _ _ _ h => h) (Or.inl ⟨by rfl, ?_⟩) ?_ ?_
                 rotate_left
                 · intro w'
                   go_simp
                   with_reducible rfl
                 rotate_left
                 · simp only [Act.put, List.setIfInBounds_toArray, List.set_cons_zero, List.set_cons_succ, i64_w, i32_w]
                   rfl
                 refine pure_ (i := 28) (N := some 45) (v := ?_) (a' := ?_) #[t_, t_, t_, t_, t_, t_, t_, t_, t_, t_, t_, t_, t_, t_, t_, t_, t_, t_, t_, t_, t_, t_, t_, t_, t_, t_, t_, t_, t_, f_, f_, f_, f_, f_, f_, f_, f_, f_, f_, f_, f_, f_, f_, f_, f_, f_, f_, f_, f_, f_, f_, f_] rfl rfl (any_of HT_.out (by kernel_rfl)) (fun _ _ _ h => h) (Or.inl ⟨by rfl, ?_⟩) ?_ ?_
                 rotate_left
                 · intro w'
                   go_simp
                   with_reducible rfl
                 rotate_left
                 · simp only [Act.put, List.setIfInBounds_toArray, List.set_cons_zero, List.set_cons_succ, i64_w, i32_w]
                   rfl
                 refine pure_ (i := 30) (N := some 47) (v := ?_) (a' := ?_) #[t_, t_, t_, t_, t_, t_, t_, t_, t_, t_, t_, t_, t_, t_, t_, t_, t_, t_, t_, t_, t_, t_, t_, t_, t_, t_, t_, t_, t_, f_, t_, f_, f_, f_, f_, f_, f_, f_, f_, f_, f_, f_, f_, f_, f_, f_, f_, f_, f_, f_, f_, f_] rfl rfl (any_of HT_.out (by kernel_rfl)) (fun _ _ _ h => h) (Or.inl ⟨by rfl, ?_⟩) ?_ ?_
                 rotate_left
                 · intro w'
                   go_simp
                   with_reducible rfl
                 rotate_left
                 · simp only [Act.put, List.setIfInBounds_toArray, List.set_cons_zero, List.set_cons_succ, i64_w, i32_w]
                   rfl
                 refine pure_ (i := 31) (N := some 48) (v := ?_) (a' := ?_) #[t_, t_, t_, t_, t_, t_, t_, t_, t_, t_, t_, t_, t_, t_, t_, t_, t_, t_, t_, t_, t_, t_, t_, t_, t_, t_, t_, t_, t_, f_, t_, t_, f_, f_, f_, f_, f_, f_, f_, f_, f_, f_, f_, f_, f_, f_, f_, f_, f_, f_, f_, f_] rfl rfl (any_of HT_.out (by kernel_rfl)) (fun _ _ _ h => h) (Or.inl ⟨by rfl, ?_⟩) ?_ ?_
                 rotate_left
                 · intro w'
                   go_simp
                   with_reducible rfl
                 rotate_left
                 · simp only [Act.put, List.setIfInBounds_toArray, List.set_cons_zero, List.set_cons_succ, i64_w, i32_w]
                   rfl
                 refine pure_ (i := 32) (N := some 49) (v := ?_) (a' := ?_) #[t_, t_, t_, t_, t_, t_, t_, t_, t_, t_, t_, t_, t_, t_, t_, t_, t_, t_, t_, t_, t_, t_, t_, t_, t_, t_, t_, t_, t_, f_, t_, t_, t_, f_, f_, f_, f_, f_, f_, f_, f_, f_, f_, f_, f_, f_, f_, f_, f_, f_, f_, f_] rfl rfl (any_of HT_.out (by kernel_rfl)) (fun _ _ _ h => h) (Or.inl ⟨by rfl, ?_⟩) ?_ ?_
                 rotate_left
                 · intro w'
                   go_simp
                   with_reducible rfl
                 rotate_left
                 · simp only [Act.put, List.setIfInBounds_toArray, List.set_cons_zero, List.set_cons_succ, i64_w, i32_w]
                   rfl
                 refine pure_ (i := 33) (N := some 50) (v := ?_) (a' := ?_) #[t_, t_, t_, t_, t_, t_, t_, t_, t_, t_, t_, t_, t_, t_, t_, t_, t_, t_, t_, t_, t_, t_, t_, t_, t_, t_, t_, t_, t_, f_, t_, t_, t_, t_, f_, f_, f_, f_, f_, f_, f_, f_, f_, f_, f_, f_, f_, f_, f_, f_, f_, f_] rfl rfl (any_of HT_.out (by kernel_rfl)) (fun _ _ _ h => h) (Or.inl ⟨by rfl, ?_⟩) ?_ ?_
                 rotate_left
                 · intro w'
                   go_simp
                   with_reducible rfl
                 rotate_left
                 · simp only [Act.put, List.setIfInBounds_toArray, List.set_cons_zero, List.set_cons_succ, i64_w, i32_w]
                   rfl
                 refine take_ (i := 29) (N := some 46) (v := ?_) (a' := ?_) #[t_, t_, t_, t_, t_, t_, t_, t_, t_, t_, t_, t_, t_, t_, t_, t_, t_, t_, t_, t_, t_, t_, t_, t_, t_, t_, t_, t_, t_, t_, t_, t_, t_, t_, f_, f_, f_, f_, f_, f_, f_, f_, f_, f_, f_, f_, f_, f_, f_, f_, f_, f_] rfl rfl (take_ofW HT_.out HW_.out (by kernel_rfl)) (fun _ _ _ h => h) (Or.inl ⟨by rfl, ?_⟩) hHeld ?_ ?_
                 rotate_left
                 · rintro w' ⟨s0, s1, s2, s3, s4, s5, s6, s7, s8, s9, s10, s11, s12, s13, s14, s15, s16, s17, s18, s19, s20, s21, s22, s23⟩
                   go_simp
                   with_reducible rfl
                 rotate_left
                 · simp only [Act.put, List.setIfInBounds_toArray, List.set_cons_zero, List.set_cons_succ, i64_w, i32_w]
                   rfl
                 refine take_ (i := 34) (N := some 51) (v := ?_) (a' := ?_) #[t_, t_, t_, t_, t_, t_, t_, t_, t_, t_, t_, t_, t_, t_, t_, t_, t_, t_, t_, t_, t_, t_, t_, t_, t_, t_, t_, t_, t_, t_, t_, t_, t_, t_, t_, f_, f_, f_, f_, f_, f_, f_, f_, f_, f_, f_, f_, f_, f_, f_, f_, f_] rfl rfl (take_ofW HT_.out HW_.out (by kernel_rfl)) (fun _ _ _ h => h) (Or.inl ⟨by rfl, ?_⟩) hHeld ?_ ?_
                 rotate_left
                 · rintro w' ⟨s0, s1, s2, s3, s4, s5, s6, s7, s8, s9, s10, s11, s12, s13, s14, s15, s16, s17, s18, s19, s20, s21, s22, s23⟩
                   go_simp
                   with_reducible rfl
                 rotate_left
                 · simp only [Act.put, List.setIfInBounds_toArray, List.set_cons_zero, List.set_cons_succ, i64_w, i32_w]
                   rfl
                 refine one_ (i := 35) (N := some 52) #[t_, t_, t_, t_, t_, t_, t_, t_, t_, t_, t_, t_, t_, t_, t_, t_, t_, t_, t_, t_, t_, t_, t_, t_, t_, t_, t_, t_, t_, t_, t_, t_, t_, t_, t_, t_, f_, f_, f_, f_, f_, f_, f_, f_, f_, f_, f_, f_, f_, f_, f_, f_] rfl rfl (one_of HT_.out (by kernel_rfl)) (by decide) (fun K hK => ?_)
                 refine goes_ Try.func29 (by kernel_rfl) rfl #[.slice A103_2 ((rd_T34 l0 x5_1).f2).length c103_2, .slice A104_2 ((rd_T34 l1 x5_1).f2).length c104_2] (by rfl) rfl rfl (by (try simp only [List.map_toArray, List.map_cons, List.map_nil]); first | done | rfl | (simp only [List.length_drop, List.length_take]; rfl)) ?_
                 with_reducible refine (spec_Same.calls k1 _ _ ((rd_T34 l0 x5_1).f2) _ _ ((rd_T34 l1 x5_1).f2) false _ ?side1 ?side2 ?side3 ?side4 A10.out).mono ?_
                 (case side1 => repeat (first | exact (Kd.C_below HR107_2.out HB.out) | (with_reducible refine Kd.C_alloc ?_ _) | (with_reducible refine Kd.C_drewN ?_ _) | (with_reducible refine Kd.C_drew ?_)))
                 (case side2 => exact HC107_2.out)
                 (case side3 => repeat (first | exact (Kd.C_below HR108_2.out HB.out) | (with_reducible refine Kd.C_alloc ?_ _) | (with_reducible refine Kd.C_drewN ?_ _) | (with_reducible refine Kd.C_drew ?_)))
                 (case side4 => exact HC108_2.out)
                 rintro e w' ⟨rfl, ⟨nd, rfl⟩⟩
                 refine ⟨_, rfl, ?_⟩
                 refine hK.out _ _ ⟨((HB.out.cell (bl_ w _ hw103_0)).trans hw103_0), ((HB.out.cell (bl_ w _ hw103_1)).trans hw103_1), ((HB.out.cell (bl_ w _ hw103_2)).trans hw103_2), ((HB.out.cell (bl_ w _ hw103_3)).trans hw103_3), ((HB.out.cell (bl_ w _ hw104_0)).trans hw104_0), ((HB.out.cell (bl_ w _ hw104_1)).trans hw104_1), ((HB.out.cell (bl_ w _ hw104_2)).trans hw104_2), ((HB.out.cell (bl_ w _ hw104_3)).trans hw104_3), ((HB.out.cell (bl_ w _ hw105_0)).trans hw105_0), ((HB.out.cell (bl_ w _ hw105_1)).trans hw105_1), ((HB.out.cell (bl_ w _ hw105_2)).trans hw105_2), ((HB.out.cell (bl_ w _ hw105_3)).trans hw105_3), ((HB.out.cell (bl_ w _ hw106_0)).trans hw106_0), ((HB.out.cell (bl_ w _ hw106_1)).trans hw106_1), ((HB.out.cell (bl_ w _ hw106_2)).trans hw106_2), ((HB.out.cell (bl_ w _ hw106_3)).trans hw106_3), ((HB.out.cell (bl_ w _ hw107_0)).trans hw107_0), ((HB.out.cell (bl_ w _ hw107_1)).trans hw107_1), ((HB.out.cell (bl_ w _ hw107_2)).trans hw107_2), ((HB.out.cell (bl_ w _ hw107_3)).trans hw107_3), ((HB.out.cell (bl_ w _ hw108_0)).trans hw108_0), ((HB.out.cell (bl_ w _ hw108_1)).trans hw108_1), ((HB.out.cell (bl_ w _ hw108_2)).trans hw108_2), ((HB.out.cell (bl_ w _ hw108_3)).trans hw108_3)⟩ (fun hHeld => ?_)
                 clear hK K
                 refine norm_ (a' := ?_) ?_ ?_
                 rotate_left
                 · show Act.put _ (some 52) _ = _
                   simp only [Act.put, List.setIfInBounds_toArray, List.set_cons_zero, List.set_cons_succ, i64_w, i32_w]
                   rfl
                 refine pure_ (i := 36) (N := some 53) (v := ?_) (a' := ?_) #[t_, t_, t_, t_, t_, t_, t_, t_, t_, t_, t_, t_, t_, t_, t_, t_, t_, t_, t_, t_, t_, t_, t_, t_, t_, t_, t_, t_, t_, t_, t_, t_, t_, t_, t_, t_, t_, f_, f_, f_, f_, f_, f_, f_, f_, f_, f_, f_, f_, f_, f_, f_] rfl rfl (any_of HT_.out (by kernel_rfl)) (fun _ _ _ h => h) (Or.inl ⟨by rfl, ?_⟩) ?_ ?_
                 rotate_left
                 · intro w'
                   go_simp
                   with_reducible rfl
                 rotate_left
                 · simp only [Act.put, List.setIfInBounds_toArray, List.set_cons_zero, List.set_cons_succ, i64_w, i32_w]
                   rfl
                 refine pure_ (i := 37) (N := some 54) (v := ?_) (a' := ?_) #[t_, t_, t_, t_, t_, t_, t_, t_, t_, t_, t_, t_, t_, t_, t_, t_, t_, t_, t_, t_, t_, t_, t_, t_, t_, t_, t_, t_, t_, t_, t_, t_, t_, t_, t_, t_, t_, t_, f_, f_, f_, f_, f_, f_, f_, f_, f_, f_, f_, f_, f_, f_] rfl rfl (any_of HT_.out (by kernel_rfl)) (fun _ _ _ h => h) (Or.inl ⟨by rfl, ?_⟩) ?_ ?_
                 rotate_left
                 · intro w'
                   go_simp
                   with_reducible rfl
                 rotate_left
                 · simp only [Act.put, List.setIfInBounds_toArray, List.set_cons_zero, List.set_cons_succ, i64_w, i32_w]
                   rfl
                 refine pure_ (i := 38) (N := some 55) (v := ?_) (a' := ?_) #[t_, t_, t_, t_, t_, t_, t_, t_, t_, t_, t_, t_, t_, t_, t_, t_, t_, t_, t_, t_, t_, t_, t_, t_, t_, t_, t_, t_, t_, t_, t_, t_, t_, t_, t_, t_, t_, t_, t_, f_, f_, f_, f_, f_, f_, f_, f_, f_, f_, f_, f_, f_] rfl rfl (any_of HT_.out (by kernel_rfl)) (fun _ _ _ h => h) (Or.inl ⟨by rfl, ?_⟩) ?_ ?_
                 rotate_left
                 · intro w'
                   go_simp
                   with_reducible rfl
                 rotate_left
                 · simp only [Act.put, List.setIfInBounds_toArray, List.set_cons_zero, List.set_cons_succ, i64_w, i32_w]
                   rfl
                 refine pure_ (i := 39) (N := some 56) (v := undef) (a' := ?_) #[t_, t_, t_, t_, t_, t_, t_, t_, t_, t_, t_, t_, t_, t_, t_, t_, t_, t_, t_, t_, t_, t_, t_, t_, t_, t_, t_, t_, t_, t_, t_, t_, t_, t_, t_, t_, t_, t_, t_, t_, f_, f_, f_, f_, f_, f_, f_, f_, f_, f_, f_, f_] rfl rfl (any_of HT_.out (by kernel_rfl)) (fun _ _ _ h => h) (Or.inr ⟨by rfl, rfl⟩) ?_ ?_
                 rotate_left
                 · simp only [Act.put, List.setIfInBounds_toArray, List.set_cons_zero, List.set_cons_succ, i64_w, i32_w]
                   rfl
                 refine pure_ (i := 40) (N := some 57) (v := undef) (a' := ?_) #[t_, t_, t_, t_, t_, t_, t_, t_, t_, t_, t_, t_, t_, t_, t_, t_, t_, t_, t_, t_, t_, t_, t_, t_, t_, t_, t_, t_, t_, t_, t_, t_, t_, t_, t_, t_, t_, t_, t_, t_, t_, f_, f_, f_, f_, f_, f_, f_, f_, f_, f_, f_] rfl rfl (any_of HT_.out (by kernel_rfl)) (fun _ _ _ h => h) (Or.inr ⟨by rfl, rfl⟩) ?_ ?_
                 rotate_left
                 · simp only [Act.put, List.setIfInBounds_toArray, List.set_cons_zero, List.set_cons_succ, i64_w, i32_w]
                   rfl
                 refine pure_ (i := 41) (N := some 58) (v := undef) (a' := ?_) #[t_, t_, t_, t_, t_, t_, t_, t_, t_, t_, t_, t_, t_, t_, t_, t_, t_, t_, t_, t_, t_, t_, t_, t_, t_, t_, t_, t_, t_, t_, t_, t_, t_, t_, t_, t_, t_, t_, t_, t_, t_, t_, f_, f_, f_, f_, f_, f_, f_, f_, f_, f_] rfl rfl (any_of HT_.out (by kernel_rfl)) (fun _ _ _ h => h) (Or.inr ⟨by rfl, rfl⟩) ?_ ?_
                 rotate_left
                 · simp only [Act.put, List.setIfInBounds_toArray, List.set_cons_zero, List.set_cons_succ, i64_w, i32_w]
                   rfl
                 refine pure_ (i := 42) (N := some 59) (v := undef) (a' := ?_) #[t_, t_, t_, t_, t_, t_, t_, t_, t_, t_, t_, t_, t_, t_, t_, t_, t_, t_, t_, t_, t_, t_, t_, t_, t_, t_, t_, t_, t_, t_, t_, t_, t_, t_, t_, t_, t_, t_, t_, t_, t_, t_, t_, f_, f_, f_, f_, f_, f_, f_, f_, f_] rfl rfl (any_of HT_.out (by kernel_rfl)) (fun _ _ _ h => h) (Or.inr ⟨by rfl, rfl⟩) ?_ ?_
                 rotate_left
                 · simp only [Act.put, List.setIfInBounds_toArray, List.set_cons_zero, List.set_cons_succ, i64_w, i32_w]
                   rfl
                 refine pure_ (i := 43) (N := some 60) (v := undef) (a' := ?_) #[t_, t_, t_, t_, t_, t_, t_, t_, t_, t_, t_, t_, t_, t_, t_, t_, t_, t_, t_, t_, t_, t_, t_, t_, t_, t_, t_, t_, t_, t_, t_, t_, t_, t_, t_, t_, t_, t_, t_, t_, t_, t_, t_, t_, f_, f_, f_, f_, f_, f_, f_, f_] rfl rfl (any_of HT_.out (by kernel_rfl)) (fun _ _ _ h => h) (Or.inr ⟨by rfl, rfl⟩) ?_ ?_
                 rotate_left
                 · simp only [Act.put, List.setIfInBounds_toArray, List.set_cons_zero, List.set_cons_succ, i64_w, i32_w]
                   rfl
                 refine pure_ (i := 44) (N := some 61) (v := undef) (a' := ?_) #[t_, t_, t_, t_, t_, t_, t_, t_, t_, t_, t_, t_, t_, t_, t_, t_, t_, t_, t_, t_, t_, t_, t_, t_, t_, t_, t_, t_, t_, t_, t_, t_, t_, t_, t_, t_, t_, t_, t_, t_, t_, t_, t_, t_, t_, f_, f_, f_, f_, f_, f_, f_] rfl rfl (any_of HT_.out (by kernel_rfl)) (fun _ _ _ h => h) (Or.inr ⟨by rfl, rfl⟩) ?_ ?_
                 rotate_left
                 · simp only [Act.put, List.setIfInBounds_toArray, List.set_cons_zero, List.set_cons_succ, i64_w, i32_w]
                   rfl
                 refine pure_ (i := 45) (N := some 62) (v := undef) (a' := ?_) #[t_, t_, t_, t_, t_, t_, t_, t_, t_, t_, t_, t_, t_, t_, t_, t_, t_, t_, t_, t_, t_, t_, t_, t_, t_, t_, t_, t_, t_, t_, t_, t_, t_, t_, t_, t_, t_, t_, t_, t_, t_, t_, t_, t_, t_, t_, f_, f_, f_, f_, f_, f_] rfl rfl (any_of HT_.out (by kernel_rfl)) (fun _ _ _ h => h) (Or.inr ⟨by rfl, rfl⟩) ?_ ?_
                 rotate_left
                 · simp only [Act.put, List.setIfInBounds_toArray, List.set_cons_zero, List.set_cons_succ, i64_w, i32_w]
                   rfl
                 refine pure_ (i := 46) (N := some 63) (v := undef) (a' := ?_) #[t_, t_, t_, t_, t_, t_, t_, t_, t_, t_, t_, t_, t_, t_, t_, t_, t_, t_, t_, t_, t_, t_, t_, t_, t_, t_, t_, t_, t_, t_, t_, t_, t_, t_, t_, t_, t_, t_, t_, t_, t_, t_, t_, t_, t_, t_, t_, f_, f_, f_, f_, f_] rfl rfl (any_of HT_.out (by kernel_rfl)) (fun _ _ _ h => h) (Or.inr ⟨by rfl, rfl⟩) ?_ ?_
                 rotate_left
                 · simp only [Act.put, List.setIfInBounds_toArray, List.set_cons_zero, List.set_cons_succ, i64_w, i32_w]
                   rfl
                 refine pure_ (i := 47) (N := some 64) (v := undef) (a' := ?_) #[t_, t_, t_, t_, t_, t_, t_, t_, t_, t_, t_, t_, t_, t_, t_, t_, t_, t_, t_, t_, t_, t_, t_, t_, t_, t_, t_, t_, t_, t_, t_, t_, t_, t_, t_, t_, t_, t_, t_, t_, t_, t_, t_, t_, t_, t_, t_, t_, f_, f_, f_, f_] rfl rfl (any_of HT_.out (by kernel_rfl)) (fun _ _ _ h => h) (Or.inr ⟨by rfl, rfl⟩) ?_ ?_
                 rotate_left
                 · simp only [Act.put, List.setIfInBounds_toArray, List.set_cons_zero, List.set_cons_succ, i64_w, i32_w]
                   rfl
                 refine pure_ (i := 48) (N := some 65) (v := undef) (a' := ?_) #[t_, t_, t_, t_, t_, t_, t_, t_, t_, t_, t_, t_, t_, t_, t_, t_, t_, t_, t_, t_, t_, t_, t_, t_, t_, t_, t_, t_, t_, t_, t_, t_, t_, t_, t_, t_, t_, t_, t_, t_, t_, t_, t_, t_, t_, t_, t_, t_, t_, f_, f_, f_] rfl rfl (any_of HT_.out (by kernel_rfl)) (fun _ _ _ h => h) (Or.inr ⟨by rfl, rfl⟩) ?_ ?_
                 rotate_left
                 · simp only [Act.put, List.setIfInBounds_toArray, List.set_cons_zero, List.set_cons_succ, i64_w, i32_w]
                   rfl
                 refine pure_ (i := 49) (N := some 66) (v := undef) (a' := ?_) #[t_, t_, t_, t_, t_, t_, t_, t_, t_, t_, t_, t_, t_, t_, t_, t_, t_, t_, t_, t_, t_, t_, t_, t_, t_, t_, t_, t_, t_, t_, t_, t_, t_, t_, t_, t_, t_, t_, t_, t_, t_, t_, t_, t_, t_, t_, t_, t_, t_, t_, f_, f_] rfl rfl (any_of HT_.out (by kernel_rfl)) (fun _ _ _ h => h) (Or.inr ⟨by rfl, rfl⟩) ?_ ?_
                 rotate_left
                 · simp only [Act.put, List.setIfInBounds_toArray, List.set_cons_zero, List.set_cons_succ, i64_w, i32_w]
                   rfl
                 refine pure_ (i := 50) (N := some 67) (v := undef) (a' := ?_) #[t_, t_, t_, t_, t_, t_, t_, t_, t_, t_, t_, t_, t_, t_, t_, t_, t_, t_, t_, t_, t_, t_, t_, t_, t_, t_, t_, t_, t_, t_, t_, t_, t_, t_, t_, t_, t_, t_, t_, t_, t_, t_, t_, t_, t_, t_, t_, t_, t_, t_, t_, f_] rfl rfl (any_of HT_.out (by kernel_rfl)) (fun _ _ _ h => h) (Or.inr ⟨by rfl, rfl⟩) ?_ ?_
                 rotate_left
                 · simp only [Act.put, List.setIfInBounds_toArray, List.set_cons_zero, List.set_cons_succ, i64_w, i32_w]
                   rfl
                 refine pure_ (i := 51) (N := some 68) (v := ?_) (a' := ?_) #[t_, t_, t_, t_, t_, t_, t_, t_, t_, t_, t_, t_, t_, t_, t_, t_, t_, t_, t_, t_, t_, t_, t_, t_, t_, t_, t_, t_, t_, t_, t_, t_, t_, t_, t_, t_, t_, t_, t_, t_, t_, t_, t_, t_, t_, t_, t_, t_, t_, t_, t_, t_] rfl rfl (any_of HT_.out (by kernel_rfl)) (fun _ _ _ h => h) (Or.inl ⟨by rfl, ?_⟩) ?_ ?_
                 rotate_left
                 · intro w'
                   go_simp
                   with_reducible rfl
                 rotate_left
                 · simp only [Act.put, List.setIfInBounds_toArray, List.set_cons_zero, List.set_cons_succ, i64_w, i32_w]
                   rfl
                 refine done_ (done_of HT_.out (by kernel_rfl)) ?_
                 try go_wp2
                 go_ret
                 exact ⟨by first | rfl | (simp [errW_none, errW_some] <;> rfl) | (simp [*, errW_none, errW_some] <;> rfl), by repeat (first | (with_reducible first | exact HB.out | apply below_alloc | apply pw_below_drewN | apply below_drew1) | exact HB.out)⟩
           · rw [if_neg c7] at H
             have c7b0 : (((rd_T34 l0 x5_1).f0) == ((rd_T34 l1 x5_1).f0)) = false := beq_eq_false_iff_ne.mpr c7
             have c7b1 : (((rd_T34 l0 x5_1).f0) != ((rd_T34 l1 x5_1).f0)) = true := bne_iff_ne.mpr c7
             obtain rfl := Option.some.inj H
             try go_wp2
             have n0_ := A0_ (below_drew1 HB.out)
             clear HB
             have HB := n0_
             clear n0_
             have p103 : 0 ≤ (x5_1 : Int) := od_ (by first | (with_reducible assumption) | assumption)
             have q103 : x5_1 < (l0.length : Int) := od_ (by first | (with_reducible assumption) | assumption)
             obtain ⟨ad103, A103_2, c103_2, A103_3, c103_3, e103, hx103_0, hx103_1, hx103_2, hx103_3, hl103_2, hi103_2, hl103_3, hi103_3⟩ := at_T34 HR0.out x5_1 p103 q103
             have hw103_3 := hx103_3
             have hw103_2 := hx103_2
             have hw103_1 := hx103_1
             have hw103_0 := hx103_0
             cases e103
             replace hx103_0 := (HB.out.cell (bl_ w _ hx103_0)).trans hx103_0
             replace hx103_1 := (HB.out.cell (bl_ w _ hx103_1)).trans hx103_1
             replace hx103_2 := (HB.out.cell (bl_ w _ hx103_2)).trans hx103_2
             replace hx103_3 := (HB.out.cell (bl_ w _ hx103_3)).trans hx103_3
             have HR103_2 := A0_ hi103_2
             have HC103_2 := A0_ hl103_2
             clear hi103_2 hl103_2
             have HR103_3 := A0_ hi103_3
             have HC103_3 := A0_ hl103_3
             clear hi103_3 hl103_3
             replace p103 := eq_true p103
             replace q103 := eq_true q103
             have p104 : 0 ≤ (x5_1 : Int) := od_ (by first | (with_reducible assumption) | assumption)
             have q104 : x5_1 < (l1.length : Int) := od_ (by first | (with_reducible assumption) | assumption)
             obtain ⟨ad104, A104_2, c104_2, A104_3, c104_3, e104, hx104_0, hx104_1, hx104_2, hx104_3, hl104_2, hi104_2, hl104_3, hi104_3⟩ := at_T34 HR1.out x5_1 p104 q104
             have hw104_3 := hx104_3
             have hw104_2 := hx104_2
             have hw104_1 := hx104_1
             have hw104_0 := hx104_0
             cases e104
             replace hx104_0 := (HB.out.cell (bl_ w _ hx104_0)).trans hx104_0
             replace hx104_1 := (HB.out.cell (bl_ w _ hx104_1)).trans hx104_1
             replace hx104_2 := (HB.out.cell (bl_ w _ hx104_2)).trans hx104_2
             replace hx104_3 := (HB.out.cell (bl_ w _ hx104_3)).trans hx104_3
             have HR104_2 := A0_ hi104_2
             have HC104_2 := A0_ hl104_2
             clear hi104_2 hl104_2
             have HR104_3 := A0_ hi104_3
             have HC104_3 := A0_ hl104_3
             clear hi104_3 hl104_3
             replace p104 := eq_true p104
             replace q104 := eq_true q104
             refine start_ (n := 52) (S := fun w' => w'.cell? (ad103.add ((x5_1).toNat * 4)) = some (.int .i64 ((rd_T34 l0 x5_1).f0)) ∧ w'.cell? ⟨(ad103.add ((x5_1).toNat * 4)).block, (ad103.add ((x5_1).toNat * 4)).off + 1, none⟩ = some (.bool ((rd_T34 l0 x5_1).f1)) ∧ w'.cell? ⟨(ad103.add ((x5_1).toNat * 4)).block, (ad103.add ((x5_1).toNat * 4)).off + 2, none⟩ = some (.slice A103_2 ((rd_T34 l0 x5_1).f2).length c103_2) ∧ w'.cell? ⟨(ad103.add ((x5_1).toNat * 4)).block, (ad103.add ((x5_1).toNat * 4)).off + 3, none⟩ = some (.slice A103_3 ((rd_T34 l0 x5_1).f3).length c103_3) ∧ w'.cell? (ad104.add ((x5_1).toNat * 4)) = some (.int .i64 ((rd_T34 l1 x5_1).f0)) ∧ w'.cell? ⟨(ad104.add ((x5_1).toNat * 4)).block, (ad104.add ((x5_1).toNat * 4)).off + 1, none⟩ = some (.bool ((rd_T34 l1 x5_1).f1)) ∧ w'.cell? ⟨(ad104.add ((x5_1).toNat * 4)).block, (ad104.add ((x5_1).toNat * 4)).off + 2, none⟩ = some (.slice A104_2 ((rd_T34 l1 x5_1).f2).length c104_2) ∧ w'.cell? ⟨(ad104.add ((x5_1).toNat * 4)).block, (ad104.add ((x5_1).toNat * 4)).off + 3, none⟩ = some (.slice A104_3 ((rd_T34 l1 x5_1).f3).length c104_3)) (ds := []) #[f_, f_, f_, f_, f_, f_, f_, f_, f_, f_, f_, f_, f_, f_, f_, f_, f_, f_, f_, f_, f_, f_, f_, f_, f_, f_, f_, f_, f_, f_, f_, f_, f_, f_, f_, f_, f_, f_, f_, f_, f_, f_, f_, f_, f_, f_, f_, f_, f_, f_, f_, f_] (by kernel_rfl) rfl rfl ⟨((HB.out.cell (bl_ w _ hw103_0)).trans hw103_0), ((HB.out.cell (bl_ w _ hw103_1)).trans hw103_1), ((HB.out.cell (bl_ w _ hw103_2)).trans hw103_2), ((HB.out.cell (bl_ w _ hw103_3)).trans hw103_3), ((HB.out.cell (bl_ w _ hw104_0)).trans hw104_0), ((HB.out.cell (bl_ w _ hw104_1)).trans hw104_1), ((HB.out.cell (bl_ w _ hw104_2)).trans hw104_2), ((HB.out.cell (bl_ w _ hw104_3)).trans hw104_3)⟩ (fun hHeld => ?_); refine with_tabW spec_SeenSame.tab6 spec_SeenSame.bits6 (fun HT_ HW_ => ?_)
             generalize wr.drew = w17 at HB HR103_2 HR103_3 HR104_2 HR104_3 hx103_0 hx103_1 hx103_2 hx103_3 hx104_0 hx104_1 hx104_2 hx104_3 hHeld ⊢
             refine pure_ (i := 0) (N := some 17) (v := ?_) (a' := ?_) #[t_, f_, f_, f_, f_, f_, f_, f_, f_, f_, f_, f_, f_, f_, f_, f_, f_, f_, f_, f_, f_, f_, f_, f_, f_, f_, f_, f_, f_, f_, f_, f_, f_, f_, f_, f_, f_, f_, f_, f_, f_, f_, f_, f_, f_, f_, f_, f_, f_, f_, f_, f_] rfl rfl (any_of HT_.out (by kernel_rfl)) (fun _ _ _ h => h) (Or.inl ⟨by rfl, ?_⟩) ?_ ?_
             rotate_left
             · intro w'
               go_simp
               with_reducible rfl
             rotate_left
             · simp only [Act.put, List.setIfInBounds_toArray, List.set_cons_zero, List.set_cons_succ, i64_w, i32_w]
               rfl
             refine pure_ (i := 1) (N := some 18) (v := ?_) (a' := ?_) #[t_, t_, f_, f_, f_, f_, f_, f_, f_, f_, f_, f_, f_, f_, f_, f_, f_, f_, f_, f_, f_, f_, f_, f_, f_, f_, f_, f_, f_, f_, f_, f_, f_, f_, f_, f_, f_, f_, f_, f_, f_, f_, f_, f_, f_, f_, f_, f_, f_, f_, f_, f_] rfl rfl (any_of HT_.out (by kernel_rfl)) (fun _ _ _ h => h) (Or.inl ⟨by rfl, ?_⟩) ?_ ?_
             rotate_left
             · intro w'
               go_simp
               with_reducible rfl
             rotate_left
             · simp only [Act.put, List.setIfInBounds_toArray, List.set_cons_zero, List.set_cons_succ, i64_w, i32_w]
               rfl
             refine pure_ (i := 2) (N := some 19) (v := ?_) (a' := ?_) #[t_, t_, t_, f_, f_, f_, f_, f_, f_, f_, f_, f_, f_, f_, f_, f_, f_, f_, f_, f_, f_, f_, f_, f_, f_, f_, f_, f_, f_, f_, f_, f_, f_, f_, f_, f_, f_, f_, f_, f_, f_, f_, f_, f_, f_, f_, f_, f_, f_, f_, f_, f_] rfl rfl (any_of HT_.out (by kernel_rfl)) (fun _ _ _ h => h) (Or.inl ⟨by rfl, ?_⟩) ?_ ?_
             rotate_left
             · intro w'
               go_simp
               with_reducible rfl
             rotate_left
             · simp only [Act.put, List.setIfInBounds_toArray, List.set_cons_zero, List.set_cons_succ, i64_w, i32_w]
               rfl
             refine pure_ (i := 3) (N := some 20) (v := ?_) (a' := ?_) #[t_, t_, t_, t_, f_, f_, f_, f_, f_, f_, f_, f_, f_, f_, f_, f_, f_, f_, f_, f_, f_, f_, f_, f_, f_, f_, f_, f_, f_, f_, f_, f_, f_, f_, f_, f_, f_, f_, f_, f_, f_, f_, f_, f_, f_, f_, f_, f_, f_, f_, f_, f_] rfl rfl (any_of HT_.out (by kernel_rfl)) (fun _ _ _ h => h) (Or.inl ⟨by rfl, ?_⟩) ?_ ?_
             rotate_left
             · intro w'
               go_simp
               with_reducible rfl
             rotate_left
             · simp only [Act.put, List.setIfInBounds_toArray, List.set_cons_zero, List.set_cons_succ, i64_w, i32_w]
               rfl
             refine pure_ (i := 5) (N := some 22) (v := ?_) (a' := ?_) #[t_, t_, t_, t_, f_, t_, f_, f_, f_, f_, f_, f_, f_, f_, f_, f_, f_, f_, f_, f_, f_, f_, f_, f_, f_, f_, f_, f_, f_, f_, f_, f_, f_, f_, f_, f_, f_, f_, f_, f_, f_, f_, f_, f_, f_, f_, f_, f_, f_, f_, f_, f_] rfl rfl (any_of HT_.out (by kernel_rfl)) (fun _ _ _ h => h) (Or.inl ⟨by rfl, ?_⟩) ?_ ?_
             rotate_left
             · intro w'
               go_simp
               with_reducible rfl
             rotate_left
             · simp only [Act.put, List.setIfInBounds_toArray, List.set_cons_zero, List.set_cons_succ, i64_w, i32_w]
               rfl
             refine pure_ (i := 6) (N := some 23) (v := ?_) (a' := ?_) #[t_, t_, t_, t_, f_, t_, t_, f_, f_, f_, f_, f_, f_, f_, f_, f_, f_, f_, f_, f_, f_, f_, f_, f_, f_, f_, f_, f_, f_, f_, f_, f_, f_, f_, f_, f_, f_, f_, f_, f_, f_, f_, f_, f_, f_, f_, f_, f_, f_, f_, f_, f_] rfl rfl (any_of HT_.out (by kernel_rfl)) (fun _ _ _ h => h) (Or.inl ⟨by rfl, ?_⟩) ?_ ?_
             rotate_left
             · intro w'
               go_simp
               with_reducible rfl
             rotate_left
             · simp only [Act.put, List.setIfInBounds_toArray, List.set_cons_zero, List.set_cons_succ, i64_w, i32_w]
               rfl
             refine pure_ (i := 7) (N := some 24) (v := ?_) (a' := ?_) #[t_, t_, t_, t_, f_, t_, t_, t_, f_, f_, f_, f_, f_, f_, f_, f_, f_, f_, f_, f_, f_, f_, f_, f_, f_, f_, f_, f_, f_, f_, f_, f_, f_, f_, f_, f_, f_, f_, f_, f_, f_, f_, f_, f_, f_, f_, f_, f_, f_, f_, f_, f_] rfl rfl (any_of HT_.out (by kernel_rfl)) (fun _ _ _ h => h) (Or.inl ⟨by rfl, ?_⟩) ?_ ?_
             rotate_left
             · intro w'
               go_simp
               with_reducible rfl
             rotate_left
             · simp only [Act.put, List.setIfInBounds_toArray, List.set_cons_zero, List.set_cons_succ, i64_w, i32_w]
               rfl
             refine pure_ (i := 8) (N := some 25) (v := ?_) (a' := ?_) #[t_, t_, t_, t_, f_, t_, t_, t_, t_, f_, f_, f_, f_, f_, f_, f_, f_, f_, f_, f_, f_, f_, f_, f_, f_, f_, f_, f_, f_, f_, f_, f_, f_, f_, f_, f_, f_, f_, f_, f_, f_, f_, f_, f_, f_, f_, f_, f_, f_, f_, f_, f_] rfl rfl (any_of HT_.out (by kernel_rfl)) (fun _ _ _ h => h) (Or.inl ⟨by rfl, ?_⟩) ?_ ?_
             rotate_left
             · intro w'
               go_simp
               with_reducible rfl
             rotate_left
             · simp only [Act.put, List.setIfInBounds_toArray, List.set_cons_zero, List.set_cons_succ, i64_w, i32_w]
               rfl
             refine take_ (i := 4) (N := some 21) (v := ?_) (a' := ?_) #[t_, t_, t_, t_, t_, t_, t_, t_, t_, f_, f_, f_, f_, f_, f_, f_, f_, f_, f_, f_, f_, f_, f_, f_, f_, f_, f_, f_, f_, f_, f_, f_, f_, f_, f_, f_, f_, f_, f_, f_, f_, f_, f_, f_, f_, f_, f_, f_, f_, f_, f_, f_] rfl rfl (take_ofW HT_.out HW_.out (by kernel_rfl)) (fun _ _ _ h => h) (Or.inl ⟨by rfl, ?_⟩) hHeld ?_ ?_
             rotate_left
             · rintro w' ⟨s0, s1, s2, s3, s4, s5, s6, s7⟩
               go_simp
               with_reducible rfl
             rotate_left
             · simp only [Act.put, List.setIfInBounds_toArray, List.set_cons_zero, List.set_cons_succ, i64_w, i32_w]
               rfl
             refine take_ (i := 9) (N := some 26) (v := ?_) (a' := ?_) #[t_, t_, t_, t_, t_, t_, t_, t_, t_, t_, f_, f_, f_, f_, f_, f_, f_, f_, f_, f_, f_, f_, f_, f_, f_, f_, f_, f_, f_, f_, f_, f_, f_, f_, f_, f_, f_, f_, f_, f_, f_, f_, f_, f_, f_, f_, f_, f_, f_, f_, f_, f_] rfl rfl (take_ofW HT_.out HW_.out (by kernel_rfl)) (fun _ _ _ h => h) (Or.inl ⟨by rfl, ?_⟩) hHeld ?_ ?_
             rotate_left
             · rintro w' ⟨s0, s1, s2, s3, s4, s5, s6, s7⟩
               go_simp
               with_reducible rfl
             rotate_left
             · simp only [Act.put, List.setIfInBounds_toArray, List.set_cons_zero, List.set_cons_succ, i64_w, i32_w]
               rfl
             refine pure_ (i := 10) (N := some 27) (v := ?_) (a' := ?_) #[t_, t_, t_, t_, t_, t_, t_, t_, t_, t_, t_, f_, f_, f_, f_, f_, f_, f_, f_, f_, f_, f_, f_, f_, f_, f_, f_, f_, f_, f_, f_, f_, f_, f_, f_, f_, f_, f_, f_, f_, f_, f_, f_, f_, f_, f_, f_, f_, f_, f_, f_, f_] rfl rfl (any_of HT_.out (by kernel_rfl)) (fun _ _ _ h => h) (Or.inl ⟨by rfl, ?_⟩) ?_ ?_
             rotate_left
             · intro w'
               go_simp
               with_reducible rfl
             rotate_left
             · simp only [Act.put, List.setIfInBounds_toArray, List.set_cons_zero, List.set_cons_succ, i64_w, i32_w]
               rfl
             refine pure_ (i := 11) (N := some 28) (v := ?_) (a' := ?_) #[t_, t_, t_, t_, t_, t_, t_, t_, t_, t_, t_, t_, f_, f_, f_, f_, f_, f_, f_, f_, f_, f_, f_, f_, f_, f_, f_, f_, f_, f_, f_, f_, f_, f_, f_, f_, f_, f_, f_, f_, f_, f_, f_, f_, f_, f_, f_, f_, f_, f_, f_, f_] rfl rfl (any_of HT_.out (by kernel_rfl)) (fun _ _ _ h => h) (Or.inl ⟨by rfl, ?_⟩) ?_ ?_
             rotate_left
             · intro w'
               go_simp
               with_reducible rfl
             rotate_left
             · simp only [Act.put, List.setIfInBounds_toArray, List.set_cons_zero, List.set_cons_succ, i64_w, i32_w]
               rfl
             refine pure_ (i := 12) (N := some 29) (v := undef) (a' := ?_) #[t_, t_, t_, t_, t_, t_, t_, t_, t_, t_, t_, t_, t_, f_, f_, f_, f_, f_, f_, f_, f_, f_, f_, f_, f_, f_, f_, f_, f_, f_, f_, f_, f_, f_, f_, f_, f_, f_, f_, f_, f_, f_, f_, f_, f_, f_, f_, f_, f_, f_, f_, f_] rfl rfl (any_of HT_.out (by kernel_rfl)) (fun _ _ _ h => h) (Or.inr ⟨by rfl, rfl⟩) ?_ ?_
             rotate_left
             · simp only [Act.put, List.setIfInBounds_toArray, List.set_cons_zero, List.set_cons_succ, i64_w, i32_w]
               rfl
             refine pure_ (i := 13) (N := some 30) (v := undef) (a' := ?_) #[t_, t_, t_, t_, t_, t_, t_, t_, t_, t_, t_, t_, t_, t_, f_, f_, f_, f_, f_, f_, f_, f_, f_, f_, f_, f_, f_, f_, f_, f_, f_, f_, f_, f_, f_, f_, f_, f_, f_, f_, f_, f_, f_, f_, f_, f_, f_, f_, f_, f_, f_, f_] rfl rfl (any_of HT_.out (by kernel_rfl)) (fun _ _ _ h => h) (Or.inr ⟨by rfl, rfl⟩) ?_ ?_
             rotate_left
             · simp only [Act.put, List.setIfInBounds_toArray, List.set_cons_zero, List.set_cons_succ, i64_w, i32_w]
               rfl
             refine pure_ (i := 14) (N := some 31) (v := undef) (a' := ?_) #[t_, t_, t_, t_, t_, t_, t_, t_, t_, t_, t_, t_, t_, t_, t_, f_, f_, f_, f_, f_, f_, f_, f_, f_, f_, f_, f_, f_, f_, f_, f_, f_, f_, f_, f_, f_, f_, f_, f_, f_, f_, f_, f_, f_, f_, f_, f_, f_, f_, f_, f_, f_] rfl rfl (any_of HT_.out (by kernel_rfl)) (fun _ _ _ h => h) (Or.inr ⟨by rfl, rfl⟩) ?_ ?_
             rotate_left
             · simp only [Act.put, List.setIfInBounds_toArray, List.set_cons_zero, List.set_cons_succ, i64_w, i32_w]
               rfl
             refine pure_ (i := 15) (N := some 32) (v := undef) (a' := ?_) #[t_, t_, t_, t_, t_, t_, t_, t_, t_, t_, t_, t_, t_, t_, t_, t_, f_, f_, f_, f_, f_, f_, f_, f_, f_, f_, f_, f_, f_, f_, f_, f_, f_, f_, f_, f_, f_, f_, f_, f_, f_, f_, f_, f_, f_, f_, f_, f_, f_, f_, f_, f_] rfl rfl (any_of HT_.out (by kernel_rfl)) (fun _ _ _ h => h) (Or.inr ⟨by rfl, rfl⟩) ?_ ?_
             rotate_left
             · simp only [Act.put, List.setIfInBounds_toArray, List.set_cons_zero, List.set_cons_succ, i64_w, i32_w]
               rfl
             refine pure_ (i := 16) (N := some 33) (v := undef) (a' := ?_) #[t_, t_, t_, t_, t_, t_, t_, t_, t_, t_, t_, t_, t_, t_, t_, t_, t_, f_, f_, f_, f_, f_, f_, f_, f_, f_, f_, f_, f_, f_, f_, f_, f_, f_, f_, f_, f_, f_, f_, f_, f_, f_, f_, f_, f_, f_, f_, f_, f_, f_, f_, f_] rfl rfl (any_of HT_.out (by kernel_rfl)) (fun _ _ _ h => h) (Or.inr ⟨by rfl, rfl⟩) ?_ ?_
             rotate_left
             · simp only [Act.put, List.setIfInBounds_toArray, List.set_cons_zero, List.set_cons_succ, i64_w, i32_w]
               rfl
             refine pure_ (i := 17) (N := some 34) (v := undef) (a' := ?_) #[t_, t_, t_, t_, t_, t_, t_, t_, t_, t_, t_, t_, t_, t_, t_, t_, t_, t_, f_, f_, f_, f_, f_, f_, f_, f_, f_, f_, f_, f_, f_, f_, f_, f_, f_, f_, f_, f_, f_, f_, f_, f_, f_, f_, f_, f_, f_, f_, f_, f_, f_, f_] rfl rfl (any_of HT_.out (by kernel_rfl)) (fun _ _ _ h => h) (Or.inr ⟨by rfl, rfl⟩) ?_ ?_
             rotate_left
             · simp only [Act.put, List.setIfInBounds_toArray, List.set_cons_zero, List.set_cons_succ, i64_w, i32_w]
               rfl
             refine pure_ (i := 18) (N := some 35) (v := undef) (a' := ?_) #[t_, t_, t_, t_, t_, t_, t_, t_, t_, t_, t_, t_, t_, t_, t_, t_, t_, t_, t_, f_, f_, f_, f_, f_, f_, f_, f_, f_, f_, f_, f_, f_, f_, f_, f_, f_, f_, f_, f_, f_, f_, f_, f_, f_, f_, f_, f_, f_, f_, f_, f_, f_] rfl rfl (any_of HT_.out (by kernel_rfl)) (fun _ _ _ h => h) (Or.inr ⟨by rfl, rfl⟩) ?_ ?_
             rotate_left
             · simp only [Act.put, List.setIfInBounds_toArray, List.set_cons_zero, List.set_cons_succ, i64_w, i32_w]
               rfl
             refine pure_ (i := 19) (N := some 36) (v := undef) (a' := ?_) #[t_, t_, t_, t_, t_, t_, t_, t_, t_, t_, t_, t_, t_, t_, t_, t_, t_, t_, t_, t_, f_, f_, f_, f_, f_, f_, f_, f_, f_, f_, f_, f_, f_, f_, f_, f_, f_, f_, f_, f_, f_, f_, f_, f_, f_, f_, f_, f_, f_, f_, f_, f_] rfl rfl (any_of HT_.out (by kernel_rfl)) (fun _ _ _ h => h) (Or.inr ⟨by rfl, rfl⟩) ?_ ?_
             rotate_left
             · simp only [Act.put, List.setIfInBounds_toArray, List.set_cons_zero, List.set_cons_succ, i64_w, i32_w]
               rfl
             refine pure_ (i := 20) (N := some 37) (v := undef) (a' := ?_) #[t_, t_, t_, t_, t_, t_, t_, t_, t_, t_, t_, t_, t_, t_, t_, t_, t_, t_, t_, t_, t_, f_, f_, f_, f_, f_, f_, f_, f_, f_, f_, f_, f_, f_, f_, f_, f_, f_, f_, f_, f_, f_, f_, f_, f_, f_, f_, f_, f_, f_, f_, f_] rfl rfl (any_of HT_.out (by kernel_rfl)) (fun _ _ _ h => h) (Or.inr ⟨by rfl, rfl⟩) ?_ ?_
             rotate_left
             · simp only [Act.put, List.setIfInBounds_toArray, List.set_cons_zero, List.set_cons_succ, i64_w, i32_w]
               rfl
             refine pure_ (i := 21) (N := some 38) (v := undef) (a' := ?_) #[t_, t_, t_, t_, t_, t_, t_, t_, t_, t_, t_, t_, t_, t_, t_, t_, t_, t_, t_, t_, t_, t_, f_, f_, f_, f_, f_, f_, f_, f_, f_, f_, f_, f_, f_, f_, f_, f_, f_, f_, f_, f_, f_, f_, f_, f_, f_, f_, f_, f_, f_, f_] rfl rfl (any_of HT_.out (by kernel_rfl)) (fun _ _ _ h => h) (Or.inr ⟨by rfl, rfl⟩) ?_ ?_
             rotate_left
             · simp only [Act.put, List.setIfInBounds_toArray, List.set_cons_zero, List.set_cons_succ, i64_w, i32_w]
               rfl
             refine pure_ (i := 22) (N := some 39) (v := undef) (a' := ?_) #[t_, t_, t_, t_, t_, t_, t_, t_, t_, t_, t_, t_, t_, t_, t_, t_, t_, t_, t_, t_, t_, t_, t_, f_, f_, f_, f_, f_, f_, f_, f_, f_, f_, f_, f_, f_, f_, f_, f_, f_, f_, f_, f_, f_, f_, f_, f_, f_, f_, f_, f_, f_] rfl rfl (any_of HT_.out (by kernel_rfl)) (fun _ _ _ h => h) (Or.inr ⟨by rfl, rfl⟩) ?_ ?_
             rotate_left
             · simp only [Act.put, List.setIfInBounds_toArray, List.set_cons_zero, List.set_cons_succ, i64_w, i32_w]
               rfl
             refine pure_ (i := 23) (N := some 40) (v := ?_) (a' := ?_) #[t_, t_, t_, t_, t_, t_, t_, t_, t_, t_, t_, t_, t_, t_, t_, t_, t_, t_, t_, t_, t_, t_, t_, t_, f_, f_, f_, f_, f_, f_, f_, f_, f_, f_, f_, f_, f_, f_, f_, f_, f_, f_, f_, f_, f_, f_, f_, f_, f_, f_, f_, f_] rfl rfl (any_of HT_.out (by kernel_rfl)) (fun _ _ _ h => h) (Or.inl ⟨by rfl, ?_⟩) ?_ ?_
             rotate_left
             · intro w'
               go_simp
               with_reducible rfl
             rotate_left
             · simp only [Act.put, List.setIfInBounds_toArray, List.set_cons_zero, List.set_cons_succ, i64_w, i32_w]
               rfl
             refine pure_ (i := 24) (N := some 41) (v := ?_) (a' := ?_) #[t_, t_, t_, t_, t_, t_, t_, t_, t_, t_, t_, t_, t_, t_, t_, t_, t_, t_, t_, t_, t_, t_, t_, t_, t_, f_, f_, f_, f_, f_, f_, f_, f_, f_, f_, f_, f_, f_, f_, f_, f_, f_, f_, f_, f_, f_, f_, f_, f_, f_, f_, f_] rfl rfl (any_of HT_.out (by kernel_rfl)) (fun _ _ _ h => h) (Or.inl ⟨by rfl, ?_⟩) ?_ ?_
             rotate_left
             · intro w'
               go_simp
               with_reducible rfl
             rotate_left
             · simp only [Act.put, List.setIfInBounds_toArray, List.set_cons_zero, List.set_cons_succ, i64_w, i32_w]
               rfl
             refine pure_ (i := 25) (N := some 42) (v := undef) (a' := ?_) #[t_, t_, t_, t_, t_, t_, t_, t_, t_, t_, t_, t_, t_, t_, t_, t_, t_, t_, t_, t_, t_, t_, t_, t_, t_, t_, f_, f_, f_, f_, f_, f_, f_, f_, f_, f_, f_, f_, f_, f_, f_, f_, f_, f_, f_, f_, f_, f_, f_, f_, f_, f_] rfl rfl (any_of HT_.out (by kernel_rfl)) (fun _ _ _ h => h) (Or.inr ⟨by rfl, rfl⟩) ?_ ?_
             rotate_left
             · simp only [Act.put, List.setIfInBounds_toArray, List.set_cons_zero, List.set_cons_succ, i64_w, i32_w]
               rfl
             refine pure_ (i := 26) (N := some 43) (v := undef) (a' := ?_) #[t_, t_, t_, t_, t_, t_, t_, t_, t_, t_, t_, t_, t_, t_, t_, t_, t_, t_, t_, t_, t_, t_, t_, t_, t_, t_, t_, f_, f_, f_, f_, f_, f_, f_, f_, f_, f_, f_, f_, f_, f_, f_, f_, f_, f_, f_, f_, f_, f_, f_, f_, f_] rfl rfl (any_of HT_.out (by kernel_rfl)) (fun _ _ _ h => h) (Or.inr ⟨by rfl, rfl⟩) ?_ ?_
             rotate_left
             · simp only [Act.put, List.setIfInBounds_toArray, List.set_cons_zero, List.set_cons_succ, i64_w, i32_w]
               rfl
             refine pure_ (i := 27) (N := some 44) (v := undef) (a' := ?_) #[t_, t_, t_, t_, t_, t_, t_, t_, t_, t_, t_, t_, t_, t_, t_, t_, t_, t_, t_, t_, t_, t_, t_, t_, t_, t_, t_, t_, f_, f_, f_, f_, f_, f_, f_, f_, f_, f_, f_, f_, f_, f_, f_, f_, f_, f_, f_, f_, f_, f_, f_, f_] rfl rfl (any_of HT_.out (by kernel_rfl)) (fun _ _ _ h => h) (Or.inr ⟨by rfl, rfl⟩) ?_ ?_
             rotate_left
             · simp only [Act.put, List.setIfInBounds_toArray, List.set_cons_zero, List.set_cons_succ, i64_w, i32_w]
               rfl
             refine pure_ (i := 28) (N := some 45) (v := undef) (a' := ?_) #[t_, t_, t_, t_, t_, t_, t_, t_, t_, t_, t_, t_, t_, t_, t_, t_, t_, t_, t_, t_, t_, t_, t_, t_, t_, t_, t_, t_, t_, f_, f_, f_, f_, f_, f_, f_, f_, f_, f_, f_, f_, f_, f_, f_, f_, f_, f_, f_, f_, f_, f_, f_] rfl rfl (any_of HT_.out (by kernel_rfl)) (fun _ _ _ h => h) (Or.inr ⟨by rfl, rfl⟩) ?_ ?_
             rotate_left
             · simp only [Act.put, List.setIfInBounds_toArray, List.set_cons_zero, List.set_cons_succ, i64_w, i32_w]
               rfl
             refine pure_ (i := 29) (N := some 46) (v := undef) (a' := ?_) #[t_, t_, t_, t_, t_, t_, t_, t_, t_, t_, t_, t_, t_, t_, t_, t_, t_, t_, t_, t_, t_, t_, t_, t_, t_, t_, t_, t_, t_, t_, f_, f_, f_, f_, f_, f_, f_, f_, f_, f_, f_, f_, f_, f_, f_, f_, f_, f_, f_, f_, f_, f_] rfl rfl (any_of HT_.out (by kernel_rfl)) (fun _ _ _ h => h) (Or.inr ⟨by rfl, rfl⟩) ?_ ?_
             rotate_left
             · simp only [Act.put, List.setIfInBounds_toArray, List.set_cons_zero, List.set_cons_succ, i64_w, i32_w]
               rfl
             refine pure_ (i := 30) (N := some 47) (v := undef) (a' := ?_) #[t_, t_, t_, t_, t_, t_, t_, t_, t_, t_, t_, t_, t_, t_, t_, t_, t_, t_, t_, t_, t_, t_, t_, t_, t_, t_, t_, t_, t_, t_, t_, f_, f_, f_, f_, f_, f_, f_, f_, f_, f_, f_, f_, f_, f_, f_, f_, f_, f_, f_, f_, f_] rfl rfl (any_of HT_.out (by kernel_rfl)) (fun _ _ _ h => h) (Or.inr ⟨by rfl, rfl⟩) ?_ ?_
             rotate_left
             · simp only [Act.put, List.setIfInBounds_toArray, List.set_cons_zero, List.set_cons_succ, i64_w, i32_w]
               rfl
             refine pure_ (i := 31) (N := some 48) (v := undef) (a' := ?_) #[t_, t_, t_, t_, t_, t_, t_, t_, t_, t_, t_, t_, t_, t_, t_, t_, t_, t_, t_, t_, t_, t_, t_, t_, t_, t_, t_, t_, t_, t_, t_, t_, f_, f_, f_, f_, f_, f_, f_, f_, f_, f_, f_, f_, f_, f_, f_, f_, f_, f_, f_, f_] rfl rfl (any_of HT_.out (by kernel_rfl)) (fun _ _ _ h => h) (Or.inr ⟨by rfl, rfl⟩) ?_ ?_
             rotate_left
             · simp only [Act.put, List.setIfInBounds_toArray, List.set_cons_zero, List.set_cons_succ, i64_w, i32_w]
               rfl
             refine pure_ (i := 32) (N := some 49) (v := undef) (a' := ?_) #[t_, t_, t_, t_, t_, t_, t_, t_, t_, t_, t_, t_, t_, t_, t_, t_, t_, t_, t_, t_, t_, t_, t_, t_, t_, t_, t_, t_, t_, t_, t_, t_, t_, f_, f_, f_, f_, f_, f_, f_, f_, f_, f_, f_, f_, f_, f_, f_, f_, f_, f_, f_] rfl rfl (any_of HT_.out (by kernel_rfl)) (fun _ _ _ h => h) (Or.inr ⟨by rfl, rfl⟩) ?_ ?_
             rotate_left
             · simp only [Act.put, List.setIfInBounds_toArray, List.set_cons_zero, List.set_cons_succ, i64_w, i32_w]
               rfl
             refine pure_ (i := 33) (N := some 50) (v := undef) (a' := ?_) #[t_, t_, t_, t_, t_, t_, t_, t_, t_, t_, t_, t_, t_, t_, t_, t_, t_, t_, t_, t_, t_, t_, t_, t_, t_, t_, t_, t_, t_, t_, t_, t_, t_, t_, f_, f_, f_, f_, f_, f_, f_, f_, f_, f_, f_, f_, f_, f_, f_, f_, f_, f_] rfl rfl (any_of HT_.out (by kernel_rfl)) (fun _ _ _ h => h) (Or.inr ⟨by rfl, rfl⟩) ?_ ?_
             rotate_left
             · simp only [Act.put, List.setIfInBounds_toArray, List.set_cons_zero, List.set_cons_succ, i64_w, i32_w]
               rfl
             refine pure_ (i := 34) (N := some 51) (v := undef) (a' := ?_) #[t_, t_, t_, t_, t_, t_, t_, t_, t_, t_, t_, t_, t_, t_, t_, t_, t_, t_, t_, t_, t_, t_, t_, t_, t_, t_, t_, t_, t_, t_, t_, t_, t_, t_, t_, f_, f_, f_, f_, f_, f_, f_, f_, f_, f_, f_, f_, f_, f_, f_, f_, f_] rfl rfl (any_of HT_.out (by kernel_rfl)) (fun _ _ _ h => h) (Or.inr ⟨by rfl, rfl⟩) ?_ ?_
             rotate_left
             · simp only [Act.put, List.setIfInBounds_toArray, List.set_cons_zero, List.set_cons_succ, i64_w, i32_w]
               rfl
             refine pure_ (i := 35) (N := some 52) (v := undef) (a' := ?_) #[t_, t_, t_, t_, t_, t_, t_, t_, t_, t_, t_, t_, t_, t_, t_, t_, t_, t_, t_, t_, t_, t_, t_, t_, t_, t_, t_, t_, t_, t_, t_, t_, t_, t_, t_, t_, f_, f_, f_, f_, f_, f_, f_, f_, f_, f_, f_, f_, f_, f_, f_, f_] rfl rfl (any_of HT_.out (by kernel_rfl)) (fun _ _ _ h => h) (Or.inr ⟨by rfl, rfl⟩) ?_ ?_
             rotate_left
             · simp only [Act.put, List.setIfInBounds_toArray, List.set_cons_zero, List.set_cons_succ, i64_w, i32_w]
               rfl
             refine pure_ (i := 36) (N := some 53) (v := undef) (a' := ?_) #[t_, t_, t_, t_, t_, t_, t_, t_, t_, t_, t_, t_, t_, t_, t_, t_, t_, t_, t_, t_, t_, t_, t_, t_, t_, t_, t_, t_, t_, t_, t_, t_, t_, t_, t_, t_, t_, f_, f_, f_, f_, f_, f_, f_, f_, f_, f_, f_, f_, f_, f_, f_] rfl rfl (any_of HT_.out (by kernel_rfl)) (fun _ _ _ h => h) (Or.inr ⟨by rfl, rfl⟩) ?_ ?_
             rotate_left
             · simp only [Act.put, List.setIfInBounds_toArray, List.set_cons_zero, List.set_cons_succ, i64_w, i32_w]
               rfl
             refine pure_ (i := 37) (N := some 54) (v := ?_) (a' := ?_) #[t_, t_, t_, t_, t_, t_, t_, t_, t_, t_, t_, t_, t_, t_, t_, t_, t_, t_, t_, t_, t_, t_, t_, t_, t_, t_, t_, t_, t_, t_, t_, t_, t_, t_, t_, t_, t_, t_, f_, f_, f_, f_, f_, f_, f_, f_, f_, f_, f_, f_, f_, f_] rfl rfl (any_of HT_.out (by kernel_rfl)) (fun _ _ _ h => h) (Or.inl ⟨by rfl, ?_⟩) ?_ ?_
             rotate_left
             · intro w'
               go_simp
               with_reducible rfl
             rotate_left
             · simp only [Act.put, List.setIfInBounds_toArray, List.set_cons_zero, List.set_cons_succ, i64_w, i32_w]
               rfl
             refine pure_ (i := 38) (N := some 55) (v := ?_) (a' := ?_) #[t_, t_, t_, t_, t_, t_, t_, t_, t_, t_, t_, t_, t_, t_, t_, t_, t_, t_, t_, t_, t_, t_, t_, t_, t_, t_, t_, t_, t_, t_, t_, t_, t_, t_, t_, t_, t_, t_, t_, f_, f_, f_, f_, f_, f_, f_, f_, f_, f_, f_, f_, f_] rfl rfl (any_of HT_.out (by kernel_rfl)) (fun _ _ _ h => h) (Or.inl ⟨by rfl, ?_⟩) ?_ ?_
             rotate_left
             · intro w'
               go_simp
               with_reducible rfl
             rotate_left
             · simp only [Act.put, List.setIfInBounds_toArray, List.set_cons_zero, List.set_cons_succ, i64_w, i32_w]
               rfl
             refine pure_ (i := 39) (N := some 56) (v := undef) (a' := ?_) #[t_, t_, t_, t_, t_, t_, t_, t_, t_, t_, t_, t_, t_, t_, t_, t_, t_, t_, t_, t_, t_, t_, t_, t_, t_, t_, t_, t_, t_, t_, t_, t_, t_, t_, t_, t_, t_, t_, t_, t_, f_, f_, f_, f_, f_, f_, f_, f_, f_, f_, f_, f_] rfl rfl (any_of HT_.out (by kernel_rfl)) (fun _ _ _ h => h) (Or.inr ⟨by rfl, rfl⟩) ?_ ?_
             rotate_left
             · simp only [Act.put, List.setIfInBounds_toArray, List.set_cons_zero, List.set_cons_succ, i64_w, i32_w]
               rfl
             refine pure_ (i := 40) (N := some 57) (v := undef) (a' := ?_) #[t_, t_, t_, t_, t_, t_, t_, t_, t_, t_, t_, t_, t_, t_, t_, t_, t_, t_, t_, t_, t_, t_, t_, t_, t_, t_, t_, t_, t_, t_, t_, t_, t_, t_, t_, t_, t_, t_, t_, t_, t_, f_, f_, f_, f_, f_, f_, f_, f_, f_, f_, f_] rfl rfl (any_of HT_.out (by kernel_rfl)) (fun _ _ _ h => h) (Or.inr ⟨by rfl, rfl⟩) ?_ ?_
             rotate_left
             · simp only [Act.put, List.setIfInBounds_toArray, List.set_cons_zero, List.set_cons_succ, i64_w, i32_w]
               rfl
             refine pure_ (i := 41) (N := some 58) (v := undef) (a' := ?_) #[t_, t_, t_, t_, t_, t_, t_, t_, t_, t_, t_, t_, t_, t_, t_, t_, t_, t_, t_, t_, t_, t_, t_, t_, t_, t_, t_, t_, t_, t_, t_, t_, t_, t_, t_, t_, t_, t_, t_, t_, t_, t_, f_, f_, f_, f_, f_, f_, f_, f_, f_, f_] rfl rfl (any_of HT_.out (by kernel_rfl)) (fun _ _ _ h => h) (Or.inr ⟨by rfl, rfl⟩) ?_ ?_
             rotate_left
             · simp only [Act.put, List.setIfInBounds_toArray, List.set_cons_zero, List.set_cons_succ, i64_w, i32_w]
               rfl
             refine pure_ (i := 42) (N := some 59) (v := undef) (a' := ?_) #[t_, t_, t_, t_, t_, t_, t_, t_, t_, t_, t_, t_, t_, t_, t_, t_, t_, t_, t_, t_, t_, t_, t_, t_, t_, t_, t_, t_, t_, t_, t_, t_, t_, t_, t_, t_, t_, t_, t_, t_, t_, t_, t_, f_, f_, f_, f_, f_, f_, f_, f_, f_] rfl rfl (any_of HT_.out (by kernel_rfl)) (fun _ _ _ h => h) (Or.inr ⟨by rfl, rfl⟩) ?_ ?_
             rotate_left
             · simp only [Act.put, List.setIfInBounds_toArray, List.set_cons_zero, List.set_cons_succ, i64_w, i32_w]
               rfl
             refine pure_ (i := 43) (N := some 60) (v := undef) (a' := ?_) #[t_, t_, t_, t_, t_, t_, t_, t_, t_, t_, t_, t_, t_, t_, t_, t_, t_, t_, t_, t_, t_, t_, t_, t_, t_, t_, t_, t_, t_, t_, t_, t_, t_, t_, t_, t_, t_, t_, t_, t_, t_, t_, t_, t_, f_, f_, f_, f_, f_, f_, f_, f_] rfl rfl (any_of HT_.out (by kernel_rfl)) (fun _ _ _ h => h) (Or.inr ⟨by rfl, rfl⟩) ?_ ?_
             rotate_left
             · simp only [Act.put, List.setIfInBounds_toArray, List.set_cons_zero, List.set_cons_succ, i64_w, i32_w]
               rfl
             refine pure_ (i := 44) (N := some 61) (v := undef) (a' := ?_) #[t_, t_, t_, t_, t_, t_, t_, t_, t_, t_, t_, t_, t_, t_, t_, t_, t_, t_, t_, t_, t_, t_, t_, t_, t_, t_, t_, t_, t_, t_, t_, t_, t_, t_, t_, t_, t_, t_, t_, t_, t_, t_, t_, t_, t_, f_, f_, f_, f_, f_, f_, f_] rfl rfl (any_of HT_.out (by kernel_rfl)) (fun _ _ _ h => h) (Or.inr ⟨by rfl, rfl⟩) ?_ ?_
             rotate_left
             · simp only [Act.put, List.setIfInBounds_toArray, List.set_cons_zero, List.set_cons_succ, i64_w, i32_w]
               rfl
             refine pure_ (i := 45) (N := some 62) (v := undef) (a' := ?_) #[t_, t_, t_, t_, t_, t_, t_, t_, t_, t_, t_, t_, t_, t_, t_, t_, t_, t_, t_, t_, t_, t_, t_, t_, t_, t_, t_, t_, t_, t_, t_, t_, t_, t_, t_, t_, t_, t_, t_, t_, t_, t_, t_, t_, t_, t_, f_, f_, f_, f_, f_, f_] rfl rfl (any_of HT_.out (by kernel_rfl)) (fun _ _ _ h => h) (Or.inr ⟨by rfl, rfl⟩) ?_ ?_
             rotate_left
             · simp only [Act.put, List.setIfInBounds_toArray, List.set_cons_zero, List.set_cons_succ, i64_w, i32_w]
               rfl
             refine pure_ (i := 46) (N := some 63) (v := undef) (a' := ?_) #[t_, t_, t_, t_, t_, t_, t_, t_, t_, t_, t_, t_, t_, t_, t_, t_, t_, t_, t_, t_, t_, t_, t_, t_, t_, t_, t_, t_, t_, t_, t_, t_, t_, t_, t_, t_, t_, t_, t_, t_, t_, t_, t_, t_, t_, t_, t_, f_, f_, f_, f_, f_] rfl rfl (any_of HT_.out (by kernel_rfl)) (fun _ _ _ h => h) (Or.inr ⟨by rfl, rfl⟩) ?_ ?_
             rotate_left
             · simp only [Act.put, List.setIfInBounds_toArray, List.set_cons_zero, List.set_cons_succ, i64_w, i32_w]
               rfl
             refine pure_ (i := 47) (N := some 64) (v := undef) (a' := ?_) #[t_, t_, t_, t_, t_, t_, t_, t_, t_, t_, t_, t_, t_, t_, t_, t_, t_, t_, t_, t_, t_, t_, t_, t_, t_, t_, t_, t_, t_, t_, t_, t_, t_, t_, t_, t_, t_, t_, t_, t_, t_, t_, t_, t_, t_, t_, t_, t_, f_, f_, f_, f_] rfl rfl (any_of HT_.out (by kernel_rfl)) (fun _ _ _ h => h) (Or.inr ⟨by rfl, rfl⟩) ?_ ?_
             rotate_left
             · simp only [Act.put, List.setIfInBounds_toArray, List.set_cons_zero, List.set_cons_succ, i64_w, i32_w]
               rfl
             refine pure_ (i := 48) (N := some 65) (v := undef) (a' := ?_) #[t_, t_, t_, t_, t_, t_, t_, t_, t_, t_, t_, t_, t_, t_, t_, t_, t_, t_, t_, t_, t_, t_, t_, t_, t_, t_, t_, t_, t_, t_, t_, t_, t_, t_, t_, t_, t_, t_, t_, t_, t_, t_, t_, t_, t_, t_, t_, t_, t_, f_, f_, f_] rfl rfl (any_of HT_.out (by kernel_rfl)) (fun _ _ _ h => h) (Or.inr ⟨by rfl, rfl⟩) ?_ ?_
             rotate_left
             · simp only [Act.put, List.setIfInBounds_toArray, List.set_cons_zero, List.set_cons_succ, i64_w, i32_w]
               rfl
             refine pure_ (i := 49) (N := some 66) (v := undef) (a' := ?_) #[t_, t_, t_, t_, t_, t_, t_, t_, t_, t_, t_, t_, t_, t_, t_, t_, t_, t_, t_, t_, t_, t_, t_, t_, t_, t_, t_, t_, t_, t_, t_, t_, t_, t_, t_, t_, t_, t_, t_, t_, t_, t_, t_, t_, t_, t_, t_, t_, t_, t_, f_, f_] rfl rfl (any_of HT_.out (by kernel_rfl)) (fun _ _ _ h => h) (Or.inr ⟨by rfl, rfl⟩) ?_ ?_
             rotate_left
             · simp only [Act.put, List.setIfInBounds_toArray, List.set_cons_zero, List.set_cons_succ, i64_w, i32_w]
               rfl
             refine pure_ (i := 50) (N := some 67) (v := undef) (a' := ?_) #[t_, t_, t_, t_, t_, t_, t_, t_, t_, t_, t_, t_, t_, t_, t_, t_, t_, t_, t_, t_, t_, t_, t_, t_, t_, t_, t_, t_, t_, t_, t_, t_, t_, t_, t_, t_, t_, t_, t_, t_, t_, t_, t_, t_, t_, t_, t_, t_, t_, t_, t_, f_] rfl rfl (any_of HT_.out (by kernel_rfl)) (fun _ _ _ h => h) (Or.inr ⟨by rfl, rfl⟩) ?_ ?_
             rotate_left
             · simp only [Act.put, List.setIfInBounds_toArray, List.set_cons_zero, List.set_cons_succ, i64_w, i32_w]
               rfl
             refine pure_ (i := 51) (N := some 68) (v := ?_) (a' := ?_) #[t_, t_, t_, t_, t_, t_, t_, t_, t_, t_, t_, t_, t_, t_, t_, t_, t_, t_, t_, t_, t_, t_, t_, t_, t_, t_, t_, t_, t_, t_, t_, t_, t_, t_, t_, t_, t_, t_, t_, t_, t_, t_, t_, t_, t_, t_, t_, t_, t_, t_, t_, t_] rfl rfl (any_of HT_.out (by kernel_rfl)) (fun _ _ _ h => h) (Or.inl ⟨by rfl, ?_⟩) ?_ ?_
             rotate_left
             · intro w'
               go_simp
               with_reducible rfl
             rotate_left
             · simp only [Act.put, List.setIfInBounds_toArray, List.set_cons_zero, List.set_cons_succ, i64_w, i32_w]
               rfl
             refine done_ (done_of HT_.out (by kernel_rfl)) ?_
             try go_wp2
             go_ret
             exact ⟨by first | rfl | (simp [errW_none, errW_some] <;> rfl) | (simp [*, errW_none, errW_some] <;> rfl), by repeat (first | (with_reducible first | exact HB.out | apply below_alloc | apply pw_below_drewN | apply below_drew1) | exact HB.out)⟩
         · rw [if_neg c6] at H
           exact absurd H (by simp)
       · rw [if_neg c5] at H
         exact absurd H (by simp)
     · rw [if_neg c4] at H
       have c4b0 : decide (x5_1 < (l0.length : Int)) = false := decide_eq_false c4
       clear c4
       obtain rfl := Option.some.inj H
       go_wp2
       go_ret
       exact ⟨by first | rfl | (simp [errW_none, errW_some] <;> rfl) | (simp [*, errW_none, errW_some] <;> rfl), by repeat (first | (with_reducible first | exact HB.out | apply below_alloc | apply pw_below_drewN | apply below_drew1) | exact HB.out)⟩
 · rw [if_neg c3] at H
   have c3b0 : ((l0.length : Int) == (l1.length : Int)) = false := beq_eq_false_iff_ne.mpr c3
   have c3b1 : ((l0.length : Int) != (l1.length : Int)) = true := bne_iff_ne.mpr c3
   have c3b2 : (l0.length == l1.length) = false := by first | simpa using c3 | (simp at c3 ⊢; omega)
   obtain rfl := Option.some.inj H
   go_enter Try.func11, Try.ntmps11
   go_wp2
   go_ret
   exact ⟨by first | rfl | (simp [errW_none, errW_some] <;> rfl) | (simp [*, errW_none, errW_some] <;> rfl), by repeat (first | (with_reducible first | exact HB.out | apply below_alloc | apply pw_below_drewN | apply below_drew1) | exact HB.out)⟩
end Go.Proofs.Ytmhnhfmkcipcpaa.QFnListRuns

namespace Go.Proofs.Ytmhnhfmkcipcpaa.QFnListRuns
open Go.RowKit Go.Proofs.YtmhnhfmkcipcpaaW.PrintWords Go.Proofs.YtmhnhfmkcipcpaaW.PrintLast Go.Proofs.YtmhnhfmkcipcpaaW.PrintMore
attribute [local go_sem] max2_int min2_int max_two min_two max_three min_three max_four min_four   -- for this text's walks alone
set_option linter.unusedVariables false
set_option linter.unusedSimpArgs false
def stf_of (x : S27) : Seen.St := (x.f0, x.f1, x.f2, x.f3)
def of_stf (a : Seen.St) : S27 := ⟨a.1, a.2.1, a.2.2.1, a.2.2.2⟩
def spec_LineFit.f (l0 : List (S27)) : Option (List (S27)) :=
  if l0.length ≤ 274877906944 then some ((LineDo.fitL ([], []) (l0.map stf_of)).map of_stf) else none
theorem spec_LineFit.calls (A0 : Option Addr) (c0 : Nat) (l0 : List (S27)) (r : List (S27)) (w : World) (hr0 : Kd.C k27 w A0 l0.length l0) (_hc0 : l0.length ≤ c0) (h : spec_LineFit.f l0 = some r) :
    Calls Try.prog 14 #[.slice A0 l0.length c0] w fun e w' => ∃ v0_ : Value, e = .returned (v0_) ∧ Kd.R k27 27 w' w.heap.size (fun _ => True) v0_ r ∧ Below w.heap.size w w' := by
  unfold spec_LineFit.f at h
  by_cases q : l0.length ≤ 274877906944
  · rw [if_pos q] at h
    obtain rfl := Option.some.inj h
    have hl : (l0.map stf_of).length = l0.length := List.length_map ..
    have hC : Kd.C Seen.stK w A0 (l0.map stf_of).length (l0.map stf_of) := by rw [hl]; exact Row.C_iso hr0
    have H := LineDo.LineFit_any A0 c0 (l0.map stf_of) w hC (by rw [hl]; exact q)
    rw [hl] at H
    refine H.mono ?_
    rintro e w' ⟨v, he, hS, hB⟩
    refine ⟨v, he, LineDo.R_iso ?_, hB⟩
    rw [List.map_map, show ((fun x : S27 => (x.f0, x.f1, x.f2, x.f3)) ∘ of_stf) = id from rfl, List.map_id]
    exact hS
  · rw [if_neg q] at h; cases h
def st_of (x : S27) : Seen.St := (x.f0, x.f1, x.f2, x.f3)
def seen_of (p : Lists.Told4) : S34 := ⟨p.1, p.2.1, p.2.2.1, p.2.2.2⟩
def impl_ListRun.f (l0 : List (S27)) : Option (List (S34)) :=
  if l0.length ≤ 274877906944 ∧ LineDo.mayAllB ([], []) (l0.map st_of) = true then some ((Lists.told4 (LinePure.toldL ([], []) (l0.map st_of))).map seen_of) else none
theorem impl_ListRun.calls (A0 : Option Addr) (c0 : Nat) (l0 : List (S27)) (r : List (S34)) (w : World) (hr0 : Kd.C k27 w A0 l0.length l0) (_hc0 : l0.length ≤ c0) (h : impl_ListRun.f l0 = some r) :
    Calls Try.prog 15 #[.slice A0 l0.length c0] w fun e w' => ∃ v0_ : Value, e = .returned (v0_) ∧ Kd.S k34 34 w' w.heap.size (fun _ => True) v0_ r ∧ Below w.heap.size w w' := by
  unfold impl_ListRun.f at h
  by_cases q : l0.length ≤ 274877906944 ∧ LineDo.mayAllB ([], []) (l0.map st_of) = true
  · rw [if_pos q] at h
    obtain rfl := Option.some.inj h
    have hl : (l0.map st_of).length = l0.length := List.length_map ..
    have hC : Kd.C Seen.stK w A0 (l0.map st_of).length (l0.map st_of) := by rw [hl]; exact Row.C_iso hr0
    have H := Lists.ListRun_any A0 c0 (l0.map st_of) w hC ((LineDo.mayAll_iff _ _).1 q.2) (by rw [hl]; exact q.1)
    rw [hl] at H
    refine H.mono ?_
    rintro e w' ⟨v, he, hS, hB⟩
    refine ⟨v, he, Row.S_iso ?_, hB⟩
    rw [List.map_map, show ((fun x : S34 => (x.f0, x.f1, x.f2, x.f3)) ∘ seen_of) = id from rfl, List.map_id]
    exact hS
  · rw [if_neg q] at h; cases h
end Go.Proofs.Ytmhnhfmkcipcpaa.QFnListRuns
