/- The row of a law, and what it stands on: for the inputs that its statement speaks of. -/
import Derived.Test.YtkgbflcbeeghoaaCkFnTrieUndo5
import Derived.IntWalk
import Derived.Deep.Slices
import Derived.Deep.Strs
import Derived.Lib.SmallJoins
import Derived.Carry
import Derived.OpenShut
import Derived.ShutString
import Derived.WideShapes
import Derived.ChangeOld
import Derived.Test.YtkgbflcbeeghoaaRows
import Derived.WalkKit
import Derived.ProofKit
import Derived.Below
import Derived.SizedLaws
namespace Go.Proofs.Ytkgbflcbeeghoaa.QFnTrieUndo
open Go.RowKit Go.Proofs.YtkgbflcbeeghoaaW.PrintWords Go.Proofs.YtkgbflcbeeghoaaW.PrintLast Go.Proofs.YtkgbflcbeeghoaaW.PrintMore
attribute [local go_sem] max2_int min2_int max_two min_two max_three min_three max_four min_four   -- for this text's walks alone
set_option linter.unusedVariables false
set_option linter.unusedSimpArgs false
mutual
def laws_FnTrieUndo.j0 : Nat → List (S30) → ByteArray → Int → ByteArray → Bool → Option (Bool)
 | 0, _, _, _, _, _ => none
 | k + 1, x0, x1, x2, x3, x34 => if x34 = true then (some true) else ((laws_wordLast.f x0 (([(⟨2, x1, 0⟩ : S30)] : List (S30)))).bind fun bt349 => (if bt349.2.2.2.2 = true then (if bt349.2.1 = true then (laws_FnTrieUndo.j1 k x0 x1 x2 x3 true) else (laws_FnTrieUndo.j1 k x0 x1 x2 x3 (x1.toList == ([] : List UInt8)))) else (none)))
def laws_FnTrieUndo.j1 : Nat → List (S30) → ByteArray → Int → ByteArray → Bool → Option (Bool)
 | 0, _, _, _, _, _ => none
 | k + 1, x0, x1, x2, x3, x50 => if x50 = true then (some true) else ((laws_wordLast.f x0 (([(⟨0, x1, x2⟩ : S30), (⟨2, x1, 0⟩ : S30)] : List (S30)))).bind fun bt362 => ((laws_wordLast.f x0 (([(⟨0, x1, x2⟩ : S30), (⟨1, x1, 0⟩ : S30), (⟨3, x1, 0⟩ : S30)] : List (S30)))).bind fun bt373 => (if bt362.2.2.2.2 = true then (if bt373.2.2.2.2 = true then (if bt362.2.1 = true then (if bt362.1 = x2 then (laws_FnTrieUndo.j2 k x0 x3 bt373.2.1 0 x1 x2 1 x1 0) else (laws_FnTrieUndo.j2 k x0 x3 true 0 x1 x2 1 x1 0)) else (laws_FnTrieUndo.j2 k x0 x3 true 0 x1 x2 1 x1 0)) else (laws_FnTrieUndo.j2 k x0 x3 true 0 x1 x2 1 x1 0)) else (laws_FnTrieUndo.j2 k x0 x3 true 0 x1 x2 1 x1 0))))
def laws_FnTrieUndo.j2 : Nat → List (S30) → ByteArray → Bool → Int → ByteArray → Int → Int → ByteArray → Int → Option (Bool)
 | 0, _, _, _, _, _, _, _, _, _ => none
 | k + 1, x0, x3, x95, x358000, x358001, x358002, x359000, x359001, x359002 => if x95 = true then (none) else (laws_FnTrieUndo.l0 k x0 x3 2 x358000 x358001 x358002 x359000 x359001 x359002)
def laws_FnTrieUndo.l0 : Nat → List (S30) → ByteArray → Int → Int → ByteArray → Int → Int → ByteArray → Int → Option (Bool)
 | 0, _, _, _, _, _, _, _, _, _ => none
 | k + 1, x0, x3, x17, x358000, x358001, x358002, x359000, x359001, x359002 => if x17 ≤ 7 then ((laws_wordLast.f x0 (([(⟨x17, x3, 0⟩ : S30)] : List (S30)))).bind fun bt384 => ((laws_wordLast.f x0 (([(⟨x358000, x358001, x358002⟩ : S30), (⟨x359000, x359001, x359002⟩ : S30), (⟨x17, x3, 0⟩ : S30)] : List (S30)))).bind fun bt395 => (if bt384.2.2.2.2 = true then (if bt395.2.2.2.2 = true then ((spec_Removed.f k x0).bind fun t403 => ((laws_wordSame.f k x17 bt384.1 bt384.2.1 bt384.2.2.1 bt384.2.2.2.1 bt395.1 bt395.2.1 bt395.2.2.1 bt395.2.2.2.1 t403).bind fun t404 => (if t404 = true then (laws_FnTrieUndo.l0 k x0 x3 (wrap64 (x17 + 1)) x358000 x358001 x358002 x359000 x359001 x359002) else (none)))) else (none)) else (none)))) else (some true)
end
def laws_FnTrieUndo.f (k : Nat) (l0 : List (S30)) (a1 : ByteArray) (a2 : Int) (a3 : ByteArray) : Option (Bool) := (laws_zzFits6.f k l0).bind fun t345 => (if t345 = true then (if (a1.size : Int) > 2147483647 then (laws_FnTrieUndo.j0 k l0 a1 a2 a3 true) else (laws_FnTrieUndo.j0 k l0 a1 a2 a3 (decide ((a3.size : Int) > 2147483647)))) else (laws_FnTrieUndo.j0 k l0 a1 a2 a3 true))
def laws_FnTrieUndo.T18 : Bool × List (List Nat × List Nat) := (true, [([], []), ([0], [0]), ([1], [1]), ([2], [2]), ([3, 2], [2, 3]), ([2, 4], [2, 4]), ([5, 2], [5]), ([6], [6]), ([6], [6]), ([6], [6]), ([6], [6]), ([10, 6, 6], [6, 10]), ([7, 8, 9, 11, 11, 6], [6, 7, 8, 9, 11]), ([12, 6], [6, 12]), ([6, 13], [6, 13])])
def laws_FnTrieUndo.B18 : List Nat := [0, 1, 3, 7, 15, 31, 63, 127, 127, 127, 127, 1151, 4095, 8191, 16383]
theorem laws_FnTrieUndo.tab18 : rtab .any (opsOf Try.f6 18) = laws_FnTrieUndo.T18 := by kernel_rfl
theorem laws_FnTrieUndo.bits18 : waitsOk laws_FnTrieUndo.T18.2 laws_FnTrieUndo.B18 = true := by kernel_rfl
set_option maxHeartbeats 8000000 in
set_option maxRecDepth 100000 in
theorem laws_FnTrieUndo.calls (k : Nat) (A0 : Option Addr) (c0 : Nat) (l0 : List (S30)) (a1 : ByteArray) (a2 : Int) (a3 : ByteArray) (r : Bool) (w : World) (hr0 : Kd.C k30 w A0 l0.length l0) (hc0 : l0.length ≤ c0) (h : laws_FnTrieUndo.f k l0 a1 a2 a3 = some r) :
 Calls Try.prog 6 #[.slice A0 l0.length c0, .string a1, .int .i64 a2, .string a3] w fun e w' => e = .returned (.bool r) ∧ Below w.heap.size w w' := by
 have hu30 := Try.underlying30
 have hu26 := Try.underlying26
 have HR0 := A0_ hr0
 have HC0 := A0_ hc0
 clear hr0 hc0
 have HB := A0_ (Below.refl w.heap.size w)
 have H : ((laws_zzFits6.f k l0).bind fun t345 => (if t345 = true then (if (a1.size : Int) > 2147483647 then (laws_FnTrieUndo.j0 k l0 a1 a2 a3 true) else (laws_FnTrieUndo.j0 k l0 a1 a2 a3 (decide ((a3.size : Int) > 2147483647)))) else (laws_FnTrieUndo.j0 k l0 a1 a2 a3 true))) = some r := h
 clear h
 have HC5 := A0_ H
 clear H
 go_enter Try.func6, Try.ntmps6
 go_upto_region 1 with (fail)
 go_cut [34] (fun v34 wc => ∃ (kq : Nat) (x34_4 : Bool), v34 = .bool x34_4 ∧ Aside0 (laws_FnTrieUndo.j0 kq l0 a1 a2 a3 x34_4 = some r) ∧ Aside0 (kq ≤ k) ∧ Aside0 (Below w.heap.size w wc))
 case first =>
  have H := HC5.out; clear HC5; replace H := Option.bind_eq_some_iff.mp H; obtain ⟨t345, A60, H⟩ := H; replace H : (if t345 = true then (if (a1.size : Int) > 2147483647 then (laws_FnTrieUndo.j0 k l0 a1 a2 a3 true) else (laws_FnTrieUndo.j0 k l0 a1 a2 a3 (decide ((a3.size : Int) > 2147483647)))) else (laws_FnTrieUndo.j0 k l0 a1 a2 a3 true)) = some r := H; have A6 := A0_ A60; clear A60; (by_cases c7 : t345 = true)
  · subst c7
    (have H1 : (if (a1.size : Int) > 2147483647 then (laws_FnTrieUndo.j0 k l0 a1 a2 a3 true) else (laws_FnTrieUndo.j0 k l0 a1 a2 a3 (decide ((a3.size : Int) > 2147483647)))) = some r := by rw [if_pos rfl] at H; exact H); clear H; have H := H1; clear H1; (by_cases c8 : (a1.size : Int) > 2147483647)
    · rw [if_pos c8] at H
      have c8b0 : decide (2147483647 < (a1.size : Int)) = true := decide_eq_true c8; have c8b1 : decide (2147483647 < a1.size) = true := decide_eq_true (by omega); clear c8; ((first | rw [c8b0] | (simp only [i64_w, i32_w]; rw [c8b0]) | skip)); have H' := A0_ H; clear H; (go_wp2_with (first | ((with_reducible refine gate_callee (f := 9) rfl ?_); refine goesL_ (some 23) rfl rfl Try.func9 (by kernel_rfl) rfl #[.slice A0 l0.length c0] rfl (by (try simp only [List.map_toArray, List.map_cons, List.map_nil]); first | done | rfl | (simp only [List.length_drop, sp2_]; rfl)) ?_; (with_reducible refine (laws_zzFits6.calls k _ _ l0 true _ ?side1 ?side2 A6.out).mono ?_); (case side1 => repeat (first | exact (Kd.C_below HR0.out HB.out) | (with_reducible refine sp8_ ?_ _) | (with_reducible refine sp9_ ?_ _) | (with_reducible refine sq1_ ?_))); (case side2 => exact HC0.out); rintro e w9 ⟨rfl, hb⟩; refine ⟨_, rfl, ?_⟩; have n0_ := A0_ (sn2_ (kw0_ HB.out) hb); clear HB; have HB := n0_; clear n0_; (try clear hb); (try clear hb2); (try clear hk); (try clear hi)))); (go_meet)
      case rel => exact ⟨_, (true), (by first | rfl | (simp; done) | (simp [*]; done)), H', ⟨by first | omega | exact Nat.le_refl _⟩, ⟨by repeat (first | (with_reducible first | exact HB.out | apply sm4_ | apply sl9_ | apply sm5_) | exact HB.out)⟩⟩
    · rw [if_neg c8] at H
      have c8b0 : decide (2147483647 < (a1.size : Int)) = false := decide_eq_false c8; have c8b1 : decide (2147483647 < a1.size) = false := decide_eq_false (by omega); clear c8; ((first | rw [c8b0] | (simp only [i64_w, i32_w]; rw [c8b0]) | skip)); have H' := A0_ H; clear H; (go_wp2_with (first | ((with_reducible refine gate_callee (f := 9) rfl ?_); refine goesL_ (some 23) rfl rfl Try.func9 (by kernel_rfl) rfl #[.slice A0 l0.length c0] rfl (by (try simp only [List.map_toArray, List.map_cons, List.map_nil]); first | done | rfl | (simp only [List.length_drop, sp2_]; rfl)) ?_; (with_reducible refine (laws_zzFits6.calls k _ _ l0 true _ ?side1 ?side2 A6.out).mono ?_); (case side1 => repeat (first | exact (Kd.C_below HR0.out HB.out) | (with_reducible refine sp8_ ?_ _) | (with_reducible refine sp9_ ?_ _) | (with_reducible refine sq1_ ?_))); (case side2 => exact HC0.out); rintro e w10 ⟨rfl, hb⟩; refine ⟨_, rfl, ?_⟩; have n0_ := A0_ (sn2_ (kw0_ HB.out) hb); clear HB; have HB := n0_; clear n0_; (try clear hb); (try clear hb2); (try clear hk); (try clear hi)))); (go_meet)
      case rel => exact ⟨_, (decide ((a3.size : Int) > 2147483647)), (by first | rfl | (simp; done) | (simp [*]; done)), H', ⟨by first | omega | exact Nat.le_refl _⟩, ⟨by repeat (first | (with_reducible first | exact HB.out | apply sm4_ | apply sl9_ | apply sm5_) | exact HB.out)⟩⟩
  · replace c7 := Bool.eq_false_iff.mpr c7
    subst c7; (have H1 : (laws_FnTrieUndo.j0 k l0 a1 a2 a3 true) = some r := by rw [if_neg (show ¬ (false = true) by decide)] at H; exact H); clear H; have H := H1; clear H1; have H' := A0_ H; clear H; (go_wp2_with (first | ((with_reducible refine gate_callee (f := 9) rfl ?_); refine goesL_ (some 23) rfl rfl Try.func9 (by kernel_rfl) rfl #[.slice A0 l0.length c0] rfl (by (try simp only [List.map_toArray, List.map_cons, List.map_nil]); first | done | rfl | (simp only [List.length_drop, sp2_]; rfl)) ?_; (with_reducible refine (laws_zzFits6.calls k _ _ l0 false _ ?side1 ?side2 A6.out).mono ?_); (case side1 => repeat (first | exact (Kd.C_below HR0.out HB.out) | (with_reducible refine sp8_ ?_ _) | (with_reducible refine sp9_ ?_ _) | (with_reducible refine sq1_ ?_))); (case side2 => exact HC0.out); rintro e w11 ⟨rfl, hb⟩; refine ⟨_, rfl, ?_⟩; have n0_ := A0_ (sn2_ (kw0_ HB.out) hb); clear HB; have HB := n0_; clear n0_; (try clear hb); (try clear hb2); (try clear hk); (try clear hi)))); (go_meet)
    case rel => exact ⟨_, (true), (by first | rfl | (simp; done) | (simp [*]; done)), H', ⟨by first | omega | exact Nat.le_refl _⟩, ⟨by repeat (first | (with_reducible first | exact HB.out | apply sm4_ | apply sl9_ | apply sm5_) | exact HB.out)⟩⟩
 case rest =>
  clear HC5; (try clear p2); (try clear c6); (try clear c7); (try clear c8); (try clear c8b0); (try clear c8b1); (try clear c9); obtain ⟨kq, x34_4, rfl, HA, HJ4, HB⟩ := hcut
  cases kq with
  | zero => exact absurd HA.out (by simp [laws_FnTrieUndo.j0])
  | succ kj4 =>
   have H := HA.out; clear HA; (simp only [laws_FnTrieUndo.j0] at H); (by_cases c12 : x34_4 = true)
   · subst c12
     (have H1 : (some true) = some r := by rw [if_pos rfl] at H; exact H); clear H; have H := H1; clear H1; obtain rfl := Option.some.inj H; (go_wp2); (go_ret); (exact ⟨by first | rfl | (simp [errW_none, errW_some] <;> rfl) | (simp [*, errW_none, errW_some] <;> rfl), by repeat (first | (with_reducible first | exact HB.out | apply sm4_ | apply sl9_ | apply sm5_) | exact HB.out)⟩)
   · replace c12 := Bool.eq_false_iff.mpr c12
     subst c12; (have H1 : ((laws_wordLast.f l0 (([(⟨2, a1, 0⟩ : S30)] : List (S30)))).bind fun bt349 => (if bt349.2.2.2.2 = true then (if bt349.2.1 = true then (laws_FnTrieUndo.j1 kj4 l0 a1 a2 a3 true) else (laws_FnTrieUndo.j1 kj4 l0 a1 a2 a3 (a1.toList == ([] : List UInt8)))) else (none))) = some r := by rw [if_neg (show ¬ (false = true) by decide)] at H; exact H); clear H; have H := H1; clear H1; obtain ⟨y346, hy346⟩ : ∃ y_ : List (S30), y_ = (([(⟨2, a1, 0⟩ : S30)] : List (S30))) := ⟨_, rfl⟩; (replace H : ((laws_wordLast.f l0 y346).bind fun bt349 => (if bt349.2.2.2.2 = true then (if bt349.2.1 = true then (laws_FnTrieUndo.j1 kj4 l0 a1 a2 a3 true) else (laws_FnTrieUndo.j1 kj4 l0 a1 a2 a3 (a1.toList == ([] : List UInt8)))) else (none))) = some r := by first | (rw [hy346]; with_reducible exact H) | (have H2_ := (obs_).symm.trans H; rw [hy346]; with_reducible exact H2_) | (have H2_ := (obs_).symm.trans H; with_reducible exact H2_) | with_reducible exact H | (rw [hy346]; exact H) | exact H); have Ny346 := A0_ hy346; clear hy346; replace H := Option.bind_eq_some_iff.mp H; obtain ⟨⟨t349, t350, t351, t352, t355⟩, A130, H⟩ := H; replace H : (if t355 = true then (if t350 = true then (laws_FnTrieUndo.j1 kj4 l0 a1 a2 a3 true) else (laws_FnTrieUndo.j1 kj4 l0 a1 a2 a3 (a1.toList == ([] : List UInt8)))) else (none)) = some r := H; have A13 := A0_ A130; clear A130; (by_cases c14 : t355 = true)
     · subst c14
       (have H1 : (if t350 = true then (laws_FnTrieUndo.j1 kj4 l0 a1 a2 a3 true) else (laws_FnTrieUndo.j1 kj4 l0 a1 a2 a3 (a1.toList == ([] : List UInt8)))) = some r := by rw [if_pos rfl] at H; exact H); clear H; have H := H1; clear H1; have HC15 := A0_ H; clear H; (go_upto_region 6 with (first | ((with_reducible refine sp1_ (N := 39) rfl ?_); (try (refine gate_guard (by rfl) ?_; dsimp only)); refine Kd.R_lit k30 _ 30 ?hg (N := 39) ?hd (xs := ([(⟨2, a1, 0⟩ : S30)] : List (S30))) (inner := [.int .i64 2, .string a1, .int .i64 0]) (ok := fun _ => True) (okp := fun _ => True) ?hr ?hp (fun _ hk => hk) trivial (Below.refl _ _) (Nat.le_refl _) (by simp) ?_; (case hd => rfl); (case hg => rfl); (case hr => first | (go_simp; done) | (go_simp; rfl)); (case hp => exact (Reps.c3 (show Kd.M k30 _ _ _ (⟨2, a1, 0⟩ : S30) [.int .i64 2, .string a1, .int .i64 0] from (k30_mkM _ _ _ (⟨2, a1, 0⟩ : S30) )) (Reps.none _ _))); intro v347 w16 ho17 hb hg_ hnew_; clear hg_ hnew_; (first | rw [← Ny346.out] at ho17 | (simp only [Int.reduceToNat] at ho17; rw [← Ny346.out] at ho17)); have n0_ := A0_ (Kd.R_lower ho17 (sn1_ (kw0_ HB.out))); have n1_ := A0_ (sn2_ (kw0_ HB.out) hb); clear HB; have HO348 := n0_; have HB := n1_; clear n0_ n1_; clear hb ho17; obtain ⟨Ao18, co18, eo18⟩ := Kd.R_slice HO348.out; subst eo18) | ((with_reducible refine gate_callee (f := 10) rfl ?_); refine goesL_ (some 40) rfl rfl Try.func10 (by kernel_rfl) rfl #[.slice A0 l0.length c0, .slice Ao18 y346.length co18] rfl (by (try simp only [List.map_toArray, List.map_cons, List.map_nil]); first | done | rfl | (simp only [List.length_drop, sp2_]; rfl)) ?_; (with_reducible refine (laws_wordLast.calls _ _ l0 _ _ y346 t349 t350 t351 t352 true _ ?side1 ?side2 ?side3 ?side4 A13.out).mono ?_); (case side1 => repeat (first | exact (Kd.C_below HR0.out HB.out) | (with_reducible refine sp8_ ?_ _) | (with_reducible refine sp9_ ?_ _) | (with_reducible refine sq1_ ?_))); (case side2 => exact HC0.out); (case side3 => repeat (first | exact (Kd.R_reads' HO348.out).2.2 | (with_reducible refine sp8_ ?_ _) | (with_reducible refine sp9_ ?_ _) | (with_reducible refine sq1_ ?_))); (case side4 => exact (Kd.R_reads' HO348.out).2.1); rintro e w19 ⟨v353, rfl, ho0, hb⟩; refine ⟨_, rfl, ?_⟩; have n0_ := A0_ (Kd.R_below (kr_ HO348.out) hb); have n1_ := A0_ (Kd.R_lower ho0 (sn1_ (kw0_ HB.out))); have n2_ := A0_ (sn2_ (kw0_ HB.out) hb); clear HO348; clear HB; have HO348 := n0_; have HO354 := n1_; have HB := n2_; clear n0_ n1_ n2_; (try clear hb); (try clear hb2); (try clear hk); (try clear hi); (try clear ho0)) | ((with_reducible refine sp1_ (N := 9) rfl ?_); (try (refine gate_guard (by rfl) ?_; dsimp only)); refine sn9_ ?hg (N := 9) ?hd (cs := #[.int .i64 0, .bool false, .string (⟨#[]⟩ : ByteArray), .slice none 0 0]) (t := 26) ?hr ?_; (case hd => rfl); (case hg => rfl); (case hr => first | (go_simp; done) | (go_simp; rfl)); intro gb356 hg w20 hbox hb; have n0_ := A0_ (Kd.R_below (kr_ HO348.out) hb); have n1_ := A0_ (Kd.R_below (kr_ HO354.out) hb); have n2_ := A0_ (sn2_ (kw0_ HB.out) hb); have n3_ := A0_ (hbox); have n4_ := A0_ ((by rw [hg]; exact (sn1_ (kw0_ HB.out)) : w.heap.size ≤ gb356)); have n5_ := A0_ ((by rw [hg]; exact (sn1_ (kw0_ HB.out)) : w.heap.size ≤ gb356)); clear HO348; clear HO354; clear HB; have HO348 := n0_; have HO354 := n1_; have HB := n2_; have BK356 := n3_; have GW356 := n4_; have GE356 := n5_; clear n0_ n1_ n2_ n3_ n4_ n5_; clear hb hbox hg; have hcz21_0 : w20.cell? ⟨gb356, 0, none⟩ = some (.int .i64 0) := (blk_cell BK356.out 0).trans rfl; have hcz21_1 : w20.cell? ⟨gb356, 1, none⟩ = some (.bool false) := (blk_cell BK356.out 1).trans rfl; have hcz21_2 : w20.cell? ⟨gb356, 2, none⟩ = some (.string (⟨#[]⟩ : ByteArray)) := (blk_cell BK356.out 2).trans rfl; have hcz21_3 : w20.cell? ⟨gb356, 3, none⟩ = some (.slice none 0 0) := (blk_cell BK356.out 3).trans rfl; have hfz21_0 := blk_frozen BK356.out 0; have hfz21_1 := blk_frozen BK356.out 1; have hfz21_2 := blk_frozen BK356.out 2; have hfz21_3 := blk_frozen BK356.out 3; obtain ⟨Ao22, co22, eo22⟩ := Kd.R_slice HO354.out; subst eo22))); ((try simp only [Act.put, sl1_, sl2_, sl3_])); (go_cut [50] (fun v50 wc => ∃ (kq : Nat) (x50_14 : Bool), v50 = .bool x50_14 ∧ Aside0 (laws_FnTrieUndo.j1 kq l0 a1 a2 a3 x50_14 = some r) ∧ Aside0 (kq ≤ kj4) ∧ Aside0 (Kd.R Kd.string 9 wc w.heap.size (fun _ => True) (.slice Ao22 t352.length co22) t352) ∧ Aside0 (wc.heap[gb356]? = some (.cells #[.int .i64 t349, .bool t350, .string t351, (.slice Ao22 t352.length co22)] 26 (0, 0))) ∧ Aside0 (Below w.heap.size w wc)))
       case first =>
        have H := HC15.out; clear HC15; (by_cases c23 : t350 = true)
        · subst c23
          (have H1 : (laws_FnTrieUndo.j1 kj4 l0 a1 a2 a3 true) = some r := by rw [if_pos rfl] at H; exact H); clear H; have H := H1; clear H1; have H' := A0_ H; clear H; have hcz24_0 : w20.cell? ⟨gb356, 0, none⟩ = some (.int .i64 0) := (blk_cell BK356.out 0).trans rfl; have hcz24_1 : w20.cell? ⟨gb356, 1, none⟩ = some (.bool false) := (blk_cell BK356.out 1).trans rfl; have hcz24_2 : w20.cell? ⟨gb356, 2, none⟩ = some (.string (⟨#[]⟩ : ByteArray)) := (blk_cell BK356.out 2).trans rfl; have hcz24_3 : w20.cell? ⟨gb356, 3, none⟩ = some (.slice none 0 0) := (blk_cell BK356.out 3).trans rfl; have hfz24_0 := blk_frozen BK356.out 0; have hfz24_1 := blk_frozen BK356.out 1; have hfz24_2 := blk_frozen BK356.out 2; have hfz24_3 := blk_frozen BK356.out 3; (go_wp2); (go_meet)
          case rel => exact ⟨_, (true), (by first | rfl | (simp; done) | (simp [*]; done)), H', ⟨by have := HJ4.out; first | omega | exact Nat.le_refl _⟩, ⟨by (with_reducible repeat (first | apply sm2_ | apply sm1_ | apply sm3_)); exact Kd.R_mono (Kd.R_far (p := ⟨gb356, 3, none⟩) (Kd.R_far (p := ⟨gb356, 2, none⟩) (Kd.R_far (p := ⟨gb356, 1, none⟩) (Kd.R_far (p := ⟨gb356, 0, none⟩) (Kd.R_types HO354.out BK356.out (by decide)) (fun _ hk => hk.2) (.int .i64 t349)) (fun _ hk => hk.2) (.bool true)) (fun _ hk => hk.2) (.string t351)) (fun _ hk => hk.2) (.slice Ao22 t352.length co22)) (fun _ hk => trivial)⟩, ⟨by (with_reducible repeat (first | refine sm7_ ?_ _ | refine sm8_ ?_ | refine sm9_ ?_ _)); refine blk_put (cs := #[.int .i64 t349, .bool true, .string t351, .slice none 0 0]) ?_ 3 _ rfl; (with_reducible repeat (first | refine sm7_ ?_ _ | refine sm8_ ?_ | refine sm9_ ?_ _)); refine blk_put (cs := #[.int .i64 t349, .bool true, .string (⟨#[]⟩ : ByteArray), .slice none 0 0]) ?_ 2 _ rfl; (with_reducible repeat (first | refine sm7_ ?_ _ | refine sm8_ ?_ | refine sm9_ ?_ _)); refine blk_put (cs := #[.int .i64 t349, .bool false, .string (⟨#[]⟩ : ByteArray), .slice none 0 0]) ?_ 1 _ rfl; (with_reducible repeat (first | refine sm7_ ?_ _ | refine sm8_ ?_ | refine sm9_ ?_ _)); refine blk_put (cs := #[.int .i64 0, .bool false, .string (⟨#[]⟩ : ByteArray), .slice none 0 0]) ?_ 0 _ rfl; (with_reducible repeat (first | refine sm7_ ?_ _ | refine sm8_ ?_ | refine sm9_ ?_ _)); exact BK356.out⟩, ⟨by repeat (first | (with_reducible first | exact HB.out | apply sm4_ | apply sl9_ | apply sm5_ | refine sn3_ ?_ GE356.out) | exact HB.out)⟩⟩
        · replace c23 := Bool.eq_false_iff.mpr c23
          subst c23; (have H1 : (laws_FnTrieUndo.j1 kj4 l0 a1 a2 a3 (a1.toList == ([] : List UInt8))) = some r := by rw [if_neg (show ¬ (false = true) by decide)] at H; exact H); clear H; have H := H1; clear H1; have H' := A0_ H; clear H; have hcz25_0 : w20.cell? ⟨gb356, 0, none⟩ = some (.int .i64 0) := (blk_cell BK356.out 0).trans rfl; have hcz25_1 : w20.cell? ⟨gb356, 1, none⟩ = some (.bool false) := (blk_cell BK356.out 1).trans rfl; have hcz25_2 : w20.cell? ⟨gb356, 2, none⟩ = some (.string (⟨#[]⟩ : ByteArray)) := (blk_cell BK356.out 2).trans rfl; have hcz25_3 : w20.cell? ⟨gb356, 3, none⟩ = some (.slice none 0 0) := (blk_cell BK356.out 3).trans rfl; have hfz25_0 := blk_frozen BK356.out 0; have hfz25_1 := blk_frozen BK356.out 1; have hfz25_2 := blk_frozen BK356.out 2; have hfz25_3 := blk_frozen BK356.out 3; (go_wp2); (go_meet)
          case rel => exact ⟨_, ((a1.toList == ([] : List UInt8))), (by first | rfl | (simp; done) | (simp [*]; done)), H', ⟨by have := HJ4.out; first | omega | exact Nat.le_refl _⟩, ⟨by (with_reducible repeat (first | apply sm2_ | apply sm1_ | apply sm3_)); exact Kd.R_mono (Kd.R_far (p := ⟨gb356, 3, none⟩) (Kd.R_far (p := ⟨gb356, 2, none⟩) (Kd.R_far (p := ⟨gb356, 1, none⟩) (Kd.R_far (p := ⟨gb356, 0, none⟩) (Kd.R_types HO354.out BK356.out (by decide)) (fun _ hk => hk.2) (.int .i64 t349)) (fun _ hk => hk.2) (.bool false)) (fun _ hk => hk.2) (.string t351)) (fun _ hk => hk.2) (.slice Ao22 t352.length co22)) (fun _ hk => trivial)⟩, ⟨by (with_reducible repeat (first | refine sm7_ ?_ _ | refine sm8_ ?_ | refine sm9_ ?_ _)); refine blk_put (cs := #[.int .i64 t349, .bool false, .string t351, .slice none 0 0]) ?_ 3 _ rfl; (with_reducible repeat (first | refine sm7_ ?_ _ | refine sm8_ ?_ | refine sm9_ ?_ _)); refine blk_put (cs := #[.int .i64 t349, .bool false, .string (⟨#[]⟩ : ByteArray), .slice none 0 0]) ?_ 2 _ rfl; (with_reducible repeat (first | refine sm7_ ?_ _ | refine sm8_ ?_ | refine sm9_ ?_ _)); refine blk_put (cs := #[.int .i64 t349, .bool false, .string (⟨#[]⟩ : ByteArray), .slice none 0 0]) ?_ 1 _ rfl; (with_reducible repeat (first | refine sm7_ ?_ _ | refine sm8_ ?_ | refine sm9_ ?_ _)); refine blk_put (cs := #[.int .i64 0, .bool false, .string (⟨#[]⟩ : ByteArray), .slice none 0 0]) ?_ 0 _ rfl; (with_reducible repeat (first | refine sm7_ ?_ _ | refine sm8_ ?_ | refine sm9_ ?_ _)); exact BK356.out⟩, ⟨by repeat (first | (with_reducible first | exact HB.out | apply sm4_ | apply sl9_ | apply sm5_ | refine sn3_ ?_ GE356.out) | exact HB.out)⟩⟩
       case rest =>
        clear HC15; (try clear c1); (try clear c2); (try clear p2); (try clear c3); (try clear c6); (try clear c7); (try clear c8); (try clear c8b0); (try clear c8b1); (try clear c9); (try clear c10); (try clear c12); (try clear c14); (try clear c23); (try clear hcz21_0); (try clear hcz21_1); (try clear hcz21_2); (try clear hcz21_3); (try clear hcz24_0); (try clear hcz24_1); (try clear hcz24_2); (try clear hcz24_3); (try clear hcz25_0); (try clear hcz25_1); (try clear hcz25_2); (try clear hcz25_3); (try clear hfz21_0); (try clear hfz21_1); (try clear hfz21_2); (try clear hfz21_3); (try clear hfz24_0); (try clear hfz24_1); (try clear hfz24_2); (try clear hfz24_3); (try clear hfz25_0); (try clear hfz25_1); (try clear hfz25_2); (try clear hfz25_3); (try clear p2); obtain ⟨kq, x50_14, rfl, HA, HJ14, HO_357003, BK356, HB⟩ := hcut
        cases kq with
        | zero => exact absurd HA.out (by simp [laws_FnTrieUndo.j1])
        | succ kj14 =>
         have H := HA.out; clear HA; (simp only [laws_FnTrieUndo.j1] at H); (by_cases c26 : x50_14 = true)
         · subst c26
           (have H1 : (some true) = some r := by rw [if_pos rfl] at H; exact H); clear H; have H := H1; clear H1; obtain rfl := Option.some.inj H; (go_wp2); (go_ret); (exact ⟨by first | rfl | (simp [errW_none, errW_some] <;> rfl) | (simp [*, errW_none, errW_some] <;> rfl), by repeat (first | (with_reducible first | exact HB.out | apply sm4_ | apply sl9_ | apply sm5_ | refine sn3_ ?_ GE356.out) | exact HB.out)⟩)
         · replace c26 := Bool.eq_false_iff.mpr c26
           subst c26; (have H1 : ((laws_wordLast.f l0 (([(⟨0, a1, a2⟩ : S30), (⟨2, a1, 0⟩ : S30)] : List (S30)))).bind fun bt362 => ((laws_wordLast.f l0 (([(⟨0, a1, a2⟩ : S30), (⟨1, a1, 0⟩ : S30), (⟨3, a1, 0⟩ : S30)] : List (S30)))).bind fun bt373 => (if bt362.2.2.2.2 = true then (if bt373.2.2.2.2 = true then (if bt362.2.1 = true then (if bt362.1 = a2 then (laws_FnTrieUndo.j2 kj14 l0 a3 bt373.2.1 0 a1 a2 1 a1 0) else (laws_FnTrieUndo.j2 kj14 l0 a3 true 0 a1 a2 1 a1 0)) else (laws_FnTrieUndo.j2 kj14 l0 a3 true 0 a1 a2 1 a1 0)) else (laws_FnTrieUndo.j2 kj14 l0 a3 true 0 a1 a2 1 a1 0)) else (laws_FnTrieUndo.j2 kj14 l0 a3 true 0 a1 a2 1 a1 0)))) = some r := by rw [if_neg (show ¬ (false = true) by decide)] at H; exact H); clear H; have H := H1; clear H1; obtain ⟨y359, hy359⟩ : ∃ y_ : List (S30), y_ = (([(⟨0, a1, a2⟩ : S30), (⟨2, a1, 0⟩ : S30)] : List (S30))) := ⟨_, rfl⟩; (replace H : ((laws_wordLast.f l0 y359).bind fun bt362 => ((laws_wordLast.f l0 (([(⟨0, a1, a2⟩ : S30), (⟨1, a1, 0⟩ : S30), (⟨3, a1, 0⟩ : S30)] : List (S30)))).bind fun bt373 => (if bt362.2.2.2.2 = true then (if bt373.2.2.2.2 = true then (if bt362.2.1 = true then (if bt362.1 = a2 then (laws_FnTrieUndo.j2 kj14 l0 a3 bt373.2.1 0 a1 a2 1 a1 0) else (laws_FnTrieUndo.j2 kj14 l0 a3 true 0 a1 a2 1 a1 0)) else (laws_FnTrieUndo.j2 kj14 l0 a3 true 0 a1 a2 1 a1 0)) else (laws_FnTrieUndo.j2 kj14 l0 a3 true 0 a1 a2 1 a1 0)) else (laws_FnTrieUndo.j2 kj14 l0 a3 true 0 a1 a2 1 a1 0)))) = some r := by first | (rw [hy359]; with_reducible exact H) | (have H2_ := (obs_).symm.trans H; rw [hy359]; with_reducible exact H2_) | (have H2_ := (obs_).symm.trans H; with_reducible exact H2_) | with_reducible exact H | (rw [hy359]; exact H) | exact H); have Ny359 := A0_ hy359; clear hy359; replace H := Option.bind_eq_some_iff.mp H; obtain ⟨⟨t362, t363, t364, t365, t368⟩, A270, H⟩ := H; replace H : ((laws_wordLast.f l0 (([(⟨0, a1, a2⟩ : S30), (⟨1, a1, 0⟩ : S30), (⟨3, a1, 0⟩ : S30)] : List (S30)))).bind fun bt373 => (if t368 = true then (if bt373.2.2.2.2 = true then (if t363 = true then (if t362 = a2 then (laws_FnTrieUndo.j2 kj14 l0 a3 bt373.2.1 0 a1 a2 1 a1 0) else (laws_FnTrieUndo.j2 kj14 l0 a3 true 0 a1 a2 1 a1 0)) else (laws_FnTrieUndo.j2 kj14 l0 a3 true 0 a1 a2 1 a1 0)) else (laws_FnTrieUndo.j2 kj14 l0 a3 true 0 a1 a2 1 a1 0)) else (laws_FnTrieUndo.j2 kj14 l0 a3 true 0 a1 a2 1 a1 0))) = some r := H; have A27 := A0_ A270; clear A270; obtain ⟨y370, hy370⟩ : ∃ y_ : List (S30), y_ = (([(⟨0, a1, a2⟩ : S30), (⟨1, a1, 0⟩ : S30), (⟨3, a1, 0⟩ : S30)] : List (S30))) := ⟨_, rfl⟩; (replace H : ((laws_wordLast.f l0 y370).bind fun bt373 => (if t368 = true then (if bt373.2.2.2.2 = true then (if t363 = true then (if t362 = a2 then (laws_FnTrieUndo.j2 kj14 l0 a3 bt373.2.1 0 a1 a2 1 a1 0) else (laws_FnTrieUndo.j2 kj14 l0 a3 true 0 a1 a2 1 a1 0)) else (laws_FnTrieUndo.j2 kj14 l0 a3 true 0 a1 a2 1 a1 0)) else (laws_FnTrieUndo.j2 kj14 l0 a3 true 0 a1 a2 1 a1 0)) else (laws_FnTrieUndo.j2 kj14 l0 a3 true 0 a1 a2 1 a1 0))) = some r := by first | (rw [hy370]; with_reducible exact H) | (have H2_ := (obs_).symm.trans H; rw [hy370]; with_reducible exact H2_) | (have H2_ := (obs_).symm.trans H; with_reducible exact H2_) | with_reducible exact H | (rw [hy370]; exact H) | exact H); have Ny370 := A0_ hy370; clear hy370; replace H := Option.bind_eq_some_iff.mp H; obtain ⟨⟨t373, t374, t375, t376, t379⟩, A280, H⟩ := H; replace H : (if t368 = true then (if t379 = true then (if t363 = true then (if t362 = a2 then (laws_FnTrieUndo.j2 kj14 l0 a3 t374 0 a1 a2 1 a1 0) else (laws_FnTrieUndo.j2 kj14 l0 a3 true 0 a1 a2 1 a1 0)) else (laws_FnTrieUndo.j2 kj14 l0 a3 true 0 a1 a2 1 a1 0)) else (laws_FnTrieUndo.j2 kj14 l0 a3 true 0 a1 a2 1 a1 0)) else (laws_FnTrieUndo.j2 kj14 l0 a3 true 0 a1 a2 1 a1 0)) = some r := H; have A28 := A0_ A280; clear A280; have HC29 := A0_ H; clear H; (go_upto_region 11 with (first | ((with_reducible refine sp1_ (N := 11) rfl ?_); (try (refine gate_guard (by rfl) ?_; dsimp only)); refine sn9_ ?hg (N := 11) ?hd (cs := #[.int .i64 0, .string (⟨#[]⟩ : ByteArray), .int .i64 0]) (t := 30) ?hr ?_; (case hd => rfl); (case hg => rfl); (case hr => first | (go_simp; done) | (go_simp; rfl)); intro gb357 hg w30 hbox hb; have n0_ := A0_ (Kd.R_below (kr_ HO_357003.out) hb); have n1_ := A0_ (sn4_ (g := gb356) (o := .cells #[.int .i64 t349, .bool t350, .string t351, .slice Ao22 t352.length co22] 26 (0, 0)) (kb_ BK356.out) hb); have n2_ := A0_ (sn2_ (kw1_ HB.out GE356.out) hb); have n3_ := A0_ (hbox); have n4_ := A0_ ((by rw [hg]; exact (sn1_ (kw1_ HB.out GE356.out)) : w.heap.size ≤ gb357)); have n5_ := A0_ ((by rw [hg]; exact (sn1_ (kw1_ HB.out GE356.out)) : w.heap.size ≤ gb357)); have n6_ := A0_ ((by rw [hg]; exact sl5_ (blk_lt (g := gb356) (o := .cells #[.int .i64 t349, .bool t350, .string t351, .slice Ao22 t352.length co22] 26 (0, 0)) (kb_ BK356.out)) : gb356 ≠ gb357)); have n7_ := A0_ ((by rw [hg]; exact sn8_ (blk_lt (g := gb356) (o := .cells #[.int .i64 t349, .bool t350, .string t351, .slice Ao22 t352.length co22] 26 (0, 0)) (kb_ BK356.out)) : gb357 ≠ gb356)); clear HO_357003; clear BK356; clear HB; have HO_357003 := n0_; have BK356 := n1_; have HB := n2_; have BK357 := n3_; have GW357 := n4_; have GE357 := n5_; have NB356_357 := n6_; have NB357_356 := n7_; clear n0_ n1_ n2_ n3_ n4_ n5_ n6_ n7_; clear hb hbox hg) | ((with_reducible refine sp1_ (N := 12) rfl ?_); (try (refine gate_guard (by rfl) ?_; dsimp only)); refine sn9_ ?hg (N := 12) ?hd (cs := #[.int .i64 0, .string (⟨#[]⟩ : ByteArray), .int .i64 0]) (t := 30) ?hr ?_; (case hd => rfl); (case hg => rfl); (case hr => first | (go_simp; done) | (go_simp; rfl)); intro gb358 hg w31 hbox hb; have n0_ := A0_ (Kd.R_below (kr_ HO_357003.out) hb); have n1_ := A0_ (sn4_ (g := gb356) (o := .cells #[.int .i64 t349, .bool t350, .string t351, .slice Ao22 t352.length co22] 26 (0, 0)) (kb_ BK356.out) hb); have n2_ := A0_ (sn4_ (g := gb357) (o := .cells #[.int .i64 0, .string (⟨#[]⟩ : ByteArray), .int .i64 0] 30 (0, 0)) (kb_ BK357.out) hb); have n3_ := A0_ (sn2_ (kw2_ HB.out GE356.out GE357.out) hb); have n4_ := A0_ (hbox); have n5_ := A0_ ((by rw [hg]; exact (sn1_ (kw2_ HB.out GE356.out GE357.out)) : w.heap.size ≤ gb358)); have n6_ := A0_ ((by rw [hg]; exact (sn1_ (kw2_ HB.out GE356.out GE357.out)) : w.heap.size ≤ gb358)); have n7_ := A0_ ((by rw [hg]; exact sl5_ (blk_lt (g := gb356) (o := .cells #[.int .i64 t349, .bool t350, .string t351, .slice Ao22 t352.length co22] 26 (0, 0)) (kb_ BK356.out)) : gb356 ≠ gb358)); have n8_ := A0_ ((by rw [hg]; exact sn8_ (blk_lt (g := gb356) (o := .cells #[.int .i64 t349, .bool t350, .string t351, .slice Ao22 t352.length co22] 26 (0, 0)) (kb_ BK356.out)) : gb358 ≠ gb356)); have n9_ := A0_ ((by rw [hg]; exact sl5_ (blk_lt (g := gb357) (o := .cells #[.int .i64 0, .string (⟨#[]⟩ : ByteArray), .int .i64 0] 30 (0, 0)) (kb_ BK357.out)) : gb357 ≠ gb358)); have n10_ := A0_ ((by rw [hg]; exact sn8_ (blk_lt (g := gb357) (o := .cells #[.int .i64 0, .string (⟨#[]⟩ : ByteArray), .int .i64 0] 30 (0, 0)) (kb_ BK357.out)) : gb358 ≠ gb357)); clear HO_357003; clear BK356; clear BK357; clear HB; have HO_357003 := n0_; have BK356 := n1_; have BK357 := n2_; have HB := n3_; have BK358 := n4_; have GW358 := n5_; have GE358 := n6_; have NB356_358 := n7_; have NB358_356 := n8_; have NB357_358 := n9_; have NB358_357 := n10_; clear n0_ n1_ n2_ n3_ n4_ n5_ n6_ n7_ n8_ n9_ n10_; clear hb hbox hg; have hnb32 := NB357_356.out; have hnc32 := NB356_357.out; have hnb33 := NB357_358.out; have hnc33 := NB358_357.out; have hcz34_0 : w31.cell? ⟨gb357, 0, none⟩ = some (.int .i64 0) := (blk_cell BK357.out 0).trans rfl; have hcz34_1 : w31.cell? ⟨gb357, 1, none⟩ = some (.string (⟨#[]⟩ : ByteArray)) := (blk_cell BK357.out 1).trans rfl; have hcz34_2 : w31.cell? ⟨gb357, 2, none⟩ = some (.int .i64 0) := (blk_cell BK357.out 2).trans rfl; have hfz34_0 := blk_frozen BK357.out 0; have hfz34_1 := blk_frozen BK357.out 1; have hfz34_2 := blk_frozen BK357.out 2; have hnb35 := NB358_356.out; have hnc35 := NB356_358.out; have hcz36_0 : w31.cell? ⟨gb358, 0, none⟩ = some (.int .i64 0) := (blk_cell BK358.out 0).trans rfl; have hcz36_1 : w31.cell? ⟨gb358, 1, none⟩ = some (.string (⟨#[]⟩ : ByteArray)) := (blk_cell BK358.out 1).trans rfl; have hcz36_2 : w31.cell? ⟨gb358, 2, none⟩ = some (.int .i64 0) := (blk_cell BK358.out 2).trans rfl; have hfz36_0 := blk_frozen BK358.out 0; have hfz36_1 := blk_frozen BK358.out 1; have hfz36_2 := blk_frozen BK358.out 2) | ((with_reducible refine sp1_ (N := 61) rfl ?_); (try (refine gate_guard (by rfl) ?_; dsimp only)); refine Kd.R_lit k30 _ 30 ?hg (N := 61) ?hd (xs := ([(⟨0, a1, a2⟩ : S30), (⟨2, a1, 0⟩ : S30)] : List (S30))) (inner := [.int .i64 0, .string a1, .int .i64 a2, .int .i64 2, .string a1, .int .i64 0]) (ok := fun _ => True) (okp := fun _ => True) ?hr ?hp (fun _ hk => hk) trivial (Below.refl _ _) (Nat.le_refl _) (by simp) ?_; (case hd => rfl); (case hg => rfl); (case hr => first | (go_simp; done) | (go_simp; rfl)); (case hp => exact (Reps.c3 (show Kd.M k30 _ _ _ (⟨0, a1, a2⟩ : S30) [.int .i64 0, .string a1, .int .i64 a2] from (k30_mkM _ _ _ (⟨0, a1, a2⟩ : S30) )) (Reps.c3 (show Kd.M k30 _ _ _ (⟨2, a1, 0⟩ : S30) [.int .i64 2, .string a1, .int .i64 0] from (k30_mkM _ _ _ (⟨2, a1, 0⟩ : S30) )) (Reps.none _ _)))); intro v360 w37 ho38 hb hg_ hnew_; clear hg_ hnew_; (first | rw [← Ny359.out] at ho38 | (simp only [Int.reduceToNat] at ho38; rw [← Ny359.out] at ho38)); have n0_ := A0_ (Kd.R_below (by (with_reducible repeat (first | apply sm2_ | apply sm1_ | apply sm3_)); exact (Kd.R_mono (Kd.R_mono (Kd.R_far (p := ⟨gb358, 2, none⟩) (Kd.R_far (p := ⟨gb358, 1, none⟩) (Kd.R_far (p := ⟨gb358, 0, none⟩) (Kd.R_far (p := ⟨gb357, 2, none⟩) (Kd.R_far (p := ⟨gb357, 1, none⟩) (Kd.R_far (p := ⟨gb357, 0, none⟩) (Kd.R_types (Kd.R_types HO_357003.out BK357.out (by decide)) BK358.out (by decide)) (fun _ hk => hk.1.2) (.int .i64 0)) (fun _ hk => hk.1.2) (.string a1)) (fun _ hk => hk.1.2) (.int .i64 a2)) (fun _ hk => hk.2) (.int .i64 1)) (fun _ hk => hk.2) (.string a1)) (fun _ hk => hk.2) (.int .i64 0)) (fun _ h_ => h_.1)) (fun _ h_ => h_.1))) hb); have n1_ := A0_ (Kd.R_lower (Kd.R_newB (Kd.R_newB ho38 (g := gb357) (o := .cells #[.int .i64 0, .string a1, .int .i64 a2] 30 (0, 0)) (by (with_reducible repeat (first | refine sm7_ ?_ _ | refine sm8_ ?_ | refine sm9_ ?_ _)); refine blk_far ?_ NB357_358.out _; (with_reducible repeat (first | refine sm7_ ?_ _ | refine sm8_ ?_ | refine sm9_ ?_ _)); refine blk_far ?_ NB357_358.out _; (with_reducible repeat (first | refine sm7_ ?_ _ | refine sm8_ ?_ | refine sm9_ ?_ _)); refine blk_far ?_ NB357_358.out _; (with_reducible repeat (first | refine sm7_ ?_ _ | refine sm8_ ?_ | refine sm9_ ?_ _)); refine blk_put (cs := #[.int .i64 0, .string a1, .int .i64 0]) ?_ 2 _ rfl; (with_reducible repeat (first | refine sm7_ ?_ _ | refine sm8_ ?_ | refine sm9_ ?_ _)); refine blk_put (cs := #[.int .i64 0, .string (⟨#[]⟩ : ByteArray), .int .i64 0]) ?_ 1 _ rfl; (with_reducible repeat (first | refine sm7_ ?_ _ | refine sm8_ ?_ | refine sm9_ ?_ _)); refine blk_put (cs := #[.int .i64 0, .string (⟨#[]⟩ : ByteArray), .int .i64 0]) ?_ 0 _ rfl; (with_reducible repeat (first | refine sm7_ ?_ _ | refine sm8_ ?_ | refine sm9_ ?_ _)); exact BK357.out)) (g := gb358) (o := .cells #[.int .i64 1, .string a1, .int .i64 0] 30 (0, 0)) (by (with_reducible repeat (first | refine sm7_ ?_ _ | refine sm8_ ?_ | refine sm9_ ?_ _)); refine blk_put (cs := #[.int .i64 1, .string a1, .int .i64 0]) ?_ 2 _ rfl; (with_reducible repeat (first | refine sm7_ ?_ _ | refine sm8_ ?_ | refine sm9_ ?_ _)); refine blk_put (cs := #[.int .i64 1, .string (⟨#[]⟩ : ByteArray), .int .i64 0]) ?_ 1 _ rfl; (with_reducible repeat (first | refine sm7_ ?_ _ | refine sm8_ ?_ | refine sm9_ ?_ _)); refine blk_put (cs := #[.int .i64 0, .string (⟨#[]⟩ : ByteArray), .int .i64 0]) ?_ 0 _ rfl; (with_reducible repeat (first | refine sm7_ ?_ _ | refine sm8_ ?_ | refine sm9_ ?_ _)); refine blk_far ?_ NB358_357.out _; (with_reducible repeat (first | refine sm7_ ?_ _ | refine sm8_ ?_ | refine sm9_ ?_ _)); refine blk_far ?_ NB358_357.out _; (with_reducible repeat (first | refine sm7_ ?_ _ | refine sm8_ ?_ | refine sm9_ ?_ _)); refine blk_far ?_ NB358_357.out _; (with_reducible repeat (first | refine sm7_ ?_ _ | refine sm8_ ?_ | refine sm9_ ?_ _)); exact BK358.out)) (sn1_ (kw3_ HB.out GE356.out GE357.out GE358.out))); have n2_ := A0_ (sn4_ (g := gb356) (o := .cells #[.int .i64 t349, .bool t350, .string t351, .slice Ao22 t352.length co22] 26 (0, 0)) (by (with_reducible repeat (first | refine sm7_ ?_ _ | refine sm8_ ?_ | refine sm9_ ?_ _)); refine blk_far ?_ NB356_358.out _; (with_reducible repeat (first | refine sm7_ ?_ _ | refine sm8_ ?_ | refine sm9_ ?_ _)); refine blk_far ?_ NB356_358.out _; (with_reducible repeat (first | refine sm7_ ?_ _ | refine sm8_ ?_ | refine sm9_ ?_ _)); refine blk_far ?_ NB356_358.out _; (with_reducible repeat (first | refine sm7_ ?_ _ | refine sm8_ ?_ | refine sm9_ ?_ _)); refine blk_far ?_ NB356_357.out _; (with_reducible repeat (first | refine sm7_ ?_ _ | refine sm8_ ?_ | refine sm9_ ?_ _)); refine blk_far ?_ NB356_357.out _; (with_reducible repeat (first | refine sm7_ ?_ _ | refine sm8_ ?_ | refine sm9_ ?_ _)); refine blk_far ?_ NB356_357.out _; (with_reducible repeat (first | refine sm7_ ?_ _ | refine sm8_ ?_ | refine sm9_ ?_ _)); exact BK356.out) hb); have n3_ := A0_ (sn4_ (g := gb357) (o := .cells #[.int .i64 0, .string a1, .int .i64 a2] 30 (0, 0)) (by (with_reducible repeat (first | refine sm7_ ?_ _ | refine sm8_ ?_ | refine sm9_ ?_ _)); refine blk_far ?_ NB357_358.out _; (with_reducible repeat (first | refine sm7_ ?_ _ | refine sm8_ ?_ | refine sm9_ ?_ _)); refine blk_far ?_ NB357_358.out _; (with_reducible repeat (first | refine sm7_ ?_ _ | refine sm8_ ?_ | refine sm9_ ?_ _)); refine blk_far ?_ NB357_358.out _; (with_reducible repeat (first | refine sm7_ ?_ _ | refine sm8_ ?_ | refine sm9_ ?_ _)); refine blk_put (cs := #[.int .i64 0, .string a1, .int .i64 0]) ?_ 2 _ rfl; (with_reducible repeat (first | refine sm7_ ?_ _ | refine sm8_ ?_ | refine sm9_ ?_ _)); refine blk_put (cs := #[.int .i64 0, .string (⟨#[]⟩ : ByteArray), .int .i64 0]) ?_ 1 _ rfl; (with_reducible repeat (first | refine sm7_ ?_ _ | refine sm8_ ?_ | refine sm9_ ?_ _)); refine blk_put (cs := #[.int .i64 0, .string (⟨#[]⟩ : ByteArray), .int .i64 0]) ?_ 0 _ rfl; (with_reducible repeat (first | refine sm7_ ?_ _ | refine sm8_ ?_ | refine sm9_ ?_ _)); exact BK357.out) hb); have n4_ := A0_ (sn4_ (g := gb358) (o := .cells #[.int .i64 1, .string a1, .int .i64 0] 30 (0, 0)) (by (with_reducible repeat (first | refine sm7_ ?_ _ | refine sm8_ ?_ | refine sm9_ ?_ _)); refine blk_put (cs := #[.int .i64 1, .string a1, .int .i64 0]) ?_ 2 _ rfl; (with_reducible repeat (first | refine sm7_ ?_ _ | refine sm8_ ?_ | refine sm9_ ?_ _)); refine blk_put (cs := #[.int .i64 1, .string (⟨#[]⟩ : ByteArray), .int .i64 0]) ?_ 1 _ rfl; (with_reducible repeat (first | refine sm7_ ?_ _ | refine sm8_ ?_ | refine sm9_ ?_ _)); refine blk_put (cs := #[.int .i64 0, .string (⟨#[]⟩ : ByteArray), .int .i64 0]) ?_ 0 _ rfl; (with_reducible repeat (first | refine sm7_ ?_ _ | refine sm8_ ?_ | refine sm9_ ?_ _)); refine blk_far ?_ NB358_357.out _; (with_reducible repeat (first | refine sm7_ ?_ _ | refine sm8_ ?_ | refine sm9_ ?_ _)); refine blk_far ?_ NB358_357.out _; (with_reducible repeat (first | refine sm7_ ?_ _ | refine sm8_ ?_ | refine sm9_ ?_ _)); refine blk_far ?_ NB358_357.out _; (with_reducible repeat (first | refine sm7_ ?_ _ | refine sm8_ ?_ | refine sm9_ ?_ _)); exact BK358.out) hb); have n5_ := A0_ (sn2_ (kw3_ HB.out GE356.out GE357.out GE358.out) hb); clear HO_357003; clear BK356; clear BK357; clear BK358; clear HB; have HO_357003 := n0_; have HO361 := n1_; have BK356 := n2_; have BK357 := n3_; have BK358 := n4_; have HB := n5_; clear n0_ n1_ n2_ n3_ n4_ n5_; clear hb ho38; obtain ⟨Ao39, co39, eo39⟩ := Kd.R_slice HO361.out; subst eo39) | ((with_reducible refine gate_callee (f := 10) rfl ?_); refine goesL_ (some 62) rfl rfl Try.func10 (by kernel_rfl) rfl #[.slice A0 l0.length c0, .slice Ao39 y359.length co39] rfl (by (try simp only [List.map_toArray, List.map_cons, List.map_nil]); first | done | rfl | (simp only [List.length_drop, sp2_]; rfl)) ?_; (with_reducible refine (laws_wordLast.calls _ _ l0 _ _ y359 t362 t363 t364 t365 t368 _ ?side1 ?side2 ?side3 ?side4 A27.out).mono ?_); (case side1 => repeat (first | exact (Kd.C_below HR0.out HB.out) | (with_reducible refine sp8_ ?_ _) | (with_reducible refine sp9_ ?_ _) | (with_reducible refine sq1_ ?_))); (case side2 => exact HC0.out); (case side3 => repeat (first | exact (Kd.R_reads' HO361.out).2.2 | (with_reducible refine sp8_ ?_ _) | (with_reducible refine sp9_ ?_ _) | (with_reducible refine sq1_ ?_))); (case side4 => exact (Kd.R_reads' HO361.out).2.1); rintro e w40 ⟨v366, rfl, ho0, hb⟩; refine ⟨_, rfl, ?_⟩; have n0_ := A0_ (Kd.R_elder' (kr_ HO_357003.out) (Kd.R_base ho0) hb); have n1_ := A0_ (Kd.R_below (kr_ HO361.out) hb); have n2_ := A0_ (Kd.R_lower (Kd.R_new' ho0 (Kd.R_lt (kr_ HO_357003.out))) (sn1_ (kw3_ HB.out GE356.out GE357.out GE358.out))); have n3_ := A0_ (sn4_ (g := gb356) (o := .cells #[.int .i64 t349, .bool t350, .string t351, .slice Ao22 t352.length co22] 26 (0, 0)) (kb_ BK356.out) hb); have n4_ := A0_ (sn4_ (g := gb357) (o := .cells #[.int .i64 0, .string a1, .int .i64 a2] 30 (0, 0)) (kb_ BK357.out) hb); have n5_ := A0_ (sn4_ (g := gb358) (o := .cells #[.int .i64 1, .string a1, .int .i64 0] 30 (0, 0)) (kb_ BK358.out) hb); have n6_ := A0_ (sn2_ (kw3_ HB.out GE356.out GE357.out GE358.out) hb); clear HO_357003; clear HO361; clear BK356; clear BK357; clear BK358; clear HB; have HO_357003 := n0_; have HO361 := n1_; have HO367 := n2_; have BK356 := n3_; have BK357 := n4_; have BK358 := n5_; have HB := n6_; clear n0_ n1_ n2_ n3_ n4_ n5_ n6_; (try clear hb); (try clear hb2); (try clear hk); (try clear hi); (try clear ho0)) | ((with_reducible refine sp1_ (N := 13) rfl ?_); (try (refine gate_guard (by rfl) ?_; dsimp only)); refine sn9_ ?hg (N := 13) ?hd (cs := #[.int .i64 0, .bool false, .string (⟨#[]⟩ : ByteArray), .slice none 0 0]) (t := 26) ?hr ?_; (case hd => rfl); (case hg => rfl); (case hr => first | (go_simp; done) | (go_simp; rfl)); intro gb369 hg w41 hbox hb; have n0_ := A0_ (Kd.R_below (kr_ HO_357003.out) hb); have n1_ := A0_ (Kd.R_below (kr_ HO361.out) hb); have n2_ := A0_ (Kd.R_below (kr_ HO367.out) hb); have n3_ := A0_ (sn4_ (g := gb356) (o := .cells #[.int .i64 t349, .bool t350, .string t351, .slice Ao22 t352.length co22] 26 (0, 0)) (kb_ BK356.out) hb); have n4_ := A0_ (sn4_ (g := gb357) (o := .cells #[.int .i64 0, .string a1, .int .i64 a2] 30 (0, 0)) (kb_ BK357.out) hb); have n5_ := A0_ (sn4_ (g := gb358) (o := .cells #[.int .i64 1, .string a1, .int .i64 0] 30 (0, 0)) (kb_ BK358.out) hb); have n6_ := A0_ (sn2_ (kw3_ HB.out GE356.out GE357.out GE358.out) hb); have n7_ := A0_ (hbox); have n8_ := A0_ ((by rw [hg]; exact (sn1_ (kw3_ HB.out GE356.out GE357.out GE358.out)) : w.heap.size ≤ gb369)); have n9_ := A0_ ((by rw [hg]; exact (sn1_ (kw3_ HB.out GE356.out GE357.out GE358.out)) : w.heap.size ≤ gb369)); have n10_ := A0_ ((by rw [hg]; exact sl5_ (blk_lt (g := gb356) (o := .cells #[.int .i64 t349, .bool t350, .string t351, .slice Ao22 t352.length co22] 26 (0, 0)) (kb_ BK356.out)) : gb356 ≠ gb369)); have n11_ := A0_ ((by rw [hg]; exact sn8_ (blk_lt (g := gb356) (o := .cells #[.int .i64 t349, .bool t350, .string t351, .slice Ao22 t352.length co22] 26 (0, 0)) (kb_ BK356.out)) : gb369 ≠ gb356)); have n12_ := A0_ ((by rw [hg]; exact sl5_ (blk_lt (g := gb357) (o := .cells #[.int .i64 0, .string a1, .int .i64 a2] 30 (0, 0)) (kb_ BK357.out)) : gb357 ≠ gb369)); have n13_ := A0_ ((by rw [hg]; exact sn8_ (blk_lt (g := gb357) (o := .cells #[.int .i64 0, .string a1, .int .i64 a2] 30 (0, 0)) (kb_ BK357.out)) : gb369 ≠ gb357)); have n14_ := A0_ ((by rw [hg]; exact sl5_ (blk_lt (g := gb358) (o := .cells #[.int .i64 1, .string a1, .int .i64 0] 30 (0, 0)) (kb_ BK358.out)) : gb358 ≠ gb369)); have n15_ := A0_ ((by rw [hg]; exact sn8_ (blk_lt (g := gb358) (o := .cells #[.int .i64 1, .string a1, .int .i64 0] 30 (0, 0)) (kb_ BK358.out)) : gb369 ≠ gb358)); clear HO_357003; clear HO361; clear HO367; clear BK356; clear BK357; clear BK358; clear HB; have HO_357003 := n0_; have HO361 := n1_; have HO367 := n2_; have BK356 := n3_; have BK357 := n4_; have BK358 := n5_; have HB := n6_; have BK369 := n7_; have GW369 := n8_; have GE369 := n9_; have NB356_369 := n10_; have NB369_356 := n11_; have NB357_369 := n12_; have NB369_357 := n13_; have NB358_369 := n14_; have NB369_358 := n15_; clear n0_ n1_ n2_ n3_ n4_ n5_ n6_ n7_ n8_ n9_ n10_ n11_ n12_ n13_ n14_ n15_; clear hb hbox hg; have hnb42 := NB369_356.out; have hnc42 := NB356_369.out; have hnb43 := NB369_357.out; have hnc43 := NB357_369.out; have hnb44 := NB369_358.out; have hnc44 := NB358_369.out; have hcz45_0 : w41.cell? ⟨gb369, 0, none⟩ = some (.int .i64 0) := (blk_cell BK369.out 0).trans rfl; have hcz45_1 : w41.cell? ⟨gb369, 1, none⟩ = some (.bool false) := (blk_cell BK369.out 1).trans rfl; have hcz45_2 : w41.cell? ⟨gb369, 2, none⟩ = some (.string (⟨#[]⟩ : ByteArray)) := (blk_cell BK369.out 2).trans rfl; have hcz45_3 : w41.cell? ⟨gb369, 3, none⟩ = some (.slice none 0 0) := (blk_cell BK369.out 3).trans rfl; have hfz45_0 := blk_frozen BK369.out 0; have hfz45_1 := blk_frozen BK369.out 1; have hfz45_2 := blk_frozen BK369.out 2; have hfz45_3 := blk_frozen BK369.out 3; obtain ⟨Ao46, co46, eo46⟩ := Kd.R_slice HO367.out; subst eo46; have hcz47_0 : w41.cell? ⟨gb357, 0, none⟩ = some (.int .i64 0) := (blk_cell BK357.out 0).trans rfl; have hcz47_1 : w41.cell? ⟨gb357, 1, none⟩ = some (.string a1) := (blk_cell BK357.out 1).trans rfl; have hcz47_2 : w41.cell? ⟨gb357, 2, none⟩ = some (.int .i64 a2) := (blk_cell BK357.out 2).trans rfl; have hfz47_0 := blk_frozen BK357.out 0; have hfz47_1 := blk_frozen BK357.out 1; have hfz47_2 := blk_frozen BK357.out 2; have hcz48_0 : w41.cell? ⟨gb358, 0, none⟩ = some (.int .i64 1) := (blk_cell BK358.out 0).trans rfl; have hcz48_1 : w41.cell? ⟨gb358, 1, none⟩ = some (.string a1) := (blk_cell BK358.out 1).trans rfl; have hcz48_2 : w41.cell? ⟨gb358, 2, none⟩ = some (.int .i64 0) := (blk_cell BK358.out 2).trans rfl; have hfz48_0 := blk_frozen BK358.out 0; have hfz48_1 := blk_frozen BK358.out 1; have hfz48_2 := blk_frozen BK358.out 2) | ((with_reducible refine sp1_ (N := 71) rfl ?_); (try (refine gate_guard (by rfl) ?_; dsimp only)); refine Kd.R_lit k30 _ 30 ?hg (N := 71) ?hd (xs := ([(⟨0, a1, a2⟩ : S30), (⟨1, a1, 0⟩ : S30), (⟨3, a1, 0⟩ : S30)] : List (S30))) (inner := [.int .i64 0, .string a1, .int .i64 a2, .int .i64 1, .string a1, .int .i64 0, .int .i64 3, .string a1, .int .i64 0]) (ok := fun _ => True) (okp := fun _ => True) ?hr ?hp (fun _ hk => hk) trivial (Below.refl _ _) (Nat.le_refl _) (by simp) ?_; (case hd => rfl); (case hg => rfl); (case hr => first | (go_simp; done) | (go_simp; rfl)); (case hp => exact (Reps.c3 (show Kd.M k30 _ _ _ (⟨0, a1, a2⟩ : S30) [.int .i64 0, .string a1, .int .i64 a2] from (k30_mkM _ _ _ (⟨0, a1, a2⟩ : S30) )) (Reps.c3 (show Kd.M k30 _ _ _ (⟨1, a1, 0⟩ : S30) [.int .i64 1, .string a1, .int .i64 0] from (k30_mkM _ _ _ (⟨1, a1, 0⟩ : S30) )) (Reps.c3 (show Kd.M k30 _ _ _ (⟨3, a1, 0⟩ : S30) [.int .i64 3, .string a1, .int .i64 0] from (k30_mkM _ _ _ (⟨3, a1, 0⟩ : S30) )) (Reps.none _ _))))); intro v371 w49 ho50 hb hg_ hnew_; clear hg_ hnew_; (first | rw [← Ny370.out] at ho50 | (simp only [Int.reduceToNat] at ho50; rw [← Ny370.out] at ho50)); have n0_ := A0_ (Kd.R_below (by (with_reducible repeat (first | apply sm2_ | apply sm1_ | apply sm3_)); exact (Kd.R_mono (Kd.R_far (p := ⟨gb369, 3, none⟩) (Kd.R_far (p := ⟨gb369, 2, none⟩) (Kd.R_far (p := ⟨gb369, 1, none⟩) (Kd.R_far (p := ⟨gb369, 0, none⟩) (Kd.R_types HO_357003.out BK369.out (by decide)) (fun _ hk => hk.2) (.int .i64 t362)) (fun _ hk => hk.2) (.bool t363)) (fun _ hk => hk.2) (.string t364)) (fun _ hk => hk.2) (.slice Ao46 t365.length co46)) (fun _ h_ => h_.1))) hb); have n1_ := A0_ (Kd.R_elder' (by (with_reducible repeat (first | apply sm2_ | apply sm1_ | apply sm3_)); exact (Kd.R_mono (Kd.R_far (p := ⟨gb369, 3, none⟩) (Kd.R_far (p := ⟨gb369, 2, none⟩) (Kd.R_far (p := ⟨gb369, 1, none⟩) (Kd.R_far (p := ⟨gb369, 0, none⟩) (Kd.R_types HO361.out BK369.out (by decide)) (fun _ hk => hk.2) (.int .i64 t362)) (fun _ hk => hk.2) (.bool t363)) (fun _ hk => hk.2) (.string t364)) (fun _ hk => hk.2) (.slice Ao46 t365.length co46)) (fun _ h_ => h_.1))) (Kd.R_base ho50) hb); have n2_ := A0_ (Kd.R_below (by (with_reducible repeat (first | apply sm2_ | apply sm1_ | apply sm3_)); exact (Kd.R_mono (Kd.R_far (p := ⟨gb369, 3, none⟩) (Kd.R_far (p := ⟨gb369, 2, none⟩) (Kd.R_far (p := ⟨gb369, 1, none⟩) (Kd.R_far (p := ⟨gb369, 0, none⟩) (Kd.R_types HO367.out BK369.out (by decide)) (fun _ hk => hk.2) (.int .i64 t362)) (fun _ hk => hk.2) (.bool t363)) (fun _ hk => hk.2) (.string t364)) (fun _ hk => hk.2) (.slice Ao46 t365.length co46)) (fun _ h_ => h_.1))) hb); have n3_ := A0_ (Kd.R_lower (Kd.R_newB (Kd.R_newB (Kd.R_new' ho50 (Kd.R_lt (by (with_reducible repeat (first | apply sm2_ | apply sm1_ | apply sm3_)); exact (Kd.R_mono (Kd.R_far (p := ⟨gb369, 3, none⟩) (Kd.R_far (p := ⟨gb369, 2, none⟩) (Kd.R_far (p := ⟨gb369, 1, none⟩) (Kd.R_far (p := ⟨gb369, 0, none⟩) (Kd.R_types HO361.out BK369.out (by decide)) (fun _ hk => hk.2) (.int .i64 t362)) (fun _ hk => hk.2) (.bool t363)) (fun _ hk => hk.2) (.string t364)) (fun _ hk => hk.2) (.slice Ao46 t365.length co46)) (fun _ h_ => h_.1))))) (g := gb357) (o := .cells #[.int .i64 0, .string a1, .int .i64 a2] 30 (0, 0)) (by (with_reducible repeat (first | refine sm7_ ?_ _ | refine sm8_ ?_ | refine sm9_ ?_ _)); refine blk_far ?_ NB357_369.out _; (with_reducible repeat (first | refine sm7_ ?_ _ | refine sm8_ ?_ | refine sm9_ ?_ _)); refine blk_far ?_ NB357_369.out _; (with_reducible repeat (first | refine sm7_ ?_ _ | refine sm8_ ?_ | refine sm9_ ?_ _)); refine blk_far ?_ NB357_369.out _; (with_reducible repeat (first | refine sm7_ ?_ _ | refine sm8_ ?_ | refine sm9_ ?_ _)); refine blk_far ?_ NB357_369.out _; (with_reducible repeat (first | refine sm7_ ?_ _ | refine sm8_ ?_ | refine sm9_ ?_ _)); exact BK357.out)) (g := gb358) (o := .cells #[.int .i64 1, .string a1, .int .i64 0] 30 (0, 0)) (by (with_reducible repeat (first | refine sm7_ ?_ _ | refine sm8_ ?_ | refine sm9_ ?_ _)); refine blk_far ?_ NB358_369.out _; (with_reducible repeat (first | refine sm7_ ?_ _ | refine sm8_ ?_ | refine sm9_ ?_ _)); refine blk_far ?_ NB358_369.out _; (with_reducible repeat (first | refine sm7_ ?_ _ | refine sm8_ ?_ | refine sm9_ ?_ _)); refine blk_far ?_ NB358_369.out _; (with_reducible repeat (first | refine sm7_ ?_ _ | refine sm8_ ?_ | refine sm9_ ?_ _)); refine blk_far ?_ NB358_369.out _; (with_reducible repeat (first | refine sm7_ ?_ _ | refine sm8_ ?_ | refine sm9_ ?_ _)); exact BK358.out)) (sn1_ (kw4_ HB.out GE356.out GE357.out GE358.out GE369.out))); have n4_ := A0_ (sn4_ (g := gb356) (o := .cells #[.int .i64 t349, .bool t350, .string t351, .slice Ao22 t352.length co22] 26 (0, 0)) (by (with_reducible repeat (first | refine sm7_ ?_ _ | refine sm8_ ?_ | refine sm9_ ?_ _)); refine blk_far ?_ NB356_369.out _; (with_reducible repeat (first | refine sm7_ ?_ _ | refine sm8_ ?_ | refine sm9_ ?_ _)); refine blk_far ?_ NB356_369.out _; (with_reducible repeat (first | refine sm7_ ?_ _ | refine sm8_ ?_ | refine sm9_ ?_ _)); refine blk_far ?_ NB356_369.out _; (with_reducible repeat (first | refine sm7_ ?_ _ | refine sm8_ ?_ | refine sm9_ ?_ _)); refine blk_far ?_ NB356_369.out _; (with_reducible repeat (first | refine sm7_ ?_ _ | refine sm8_ ?_ | refine sm9_ ?_ _)); exact BK356.out) hb); have n5_ := A0_ (sn4_ (g := gb357) (o := .cells #[.int .i64 0, .string a1, .int .i64 a2] 30 (0, 0)) (by (with_reducible repeat (first | refine sm7_ ?_ _ | refine sm8_ ?_ | refine sm9_ ?_ _)); refine blk_far ?_ NB357_369.out _; (with_reducible repeat (first | refine sm7_ ?_ _ | refine sm8_ ?_ | refine sm9_ ?_ _)); refine blk_far ?_ NB357_369.out _; (with_reducible repeat (first | refine sm7_ ?_ _ | refine sm8_ ?_ | refine sm9_ ?_ _)); refine blk_far ?_ NB357_369.out _; (with_reducible repeat (first | refine sm7_ ?_ _ | refine sm8_ ?_ | refine sm9_ ?_ _)); refine blk_far ?_ NB357_369.out _; (with_reducible repeat (first | refine sm7_ ?_ _ | refine sm8_ ?_ | refine sm9_ ?_ _)); exact BK357.out) hb); have n6_ := A0_ (sn4_ (g := gb358) (o := .cells #[.int .i64 1, .string a1, .int .i64 0] 30 (0, 0)) (by (with_reducible repeat (first | refine sm7_ ?_ _ | refine sm8_ ?_ | refine sm9_ ?_ _)); refine blk_far ?_ NB358_369.out _; (with_reducible repeat (first | refine sm7_ ?_ _ | refine sm8_ ?_ | refine sm9_ ?_ _)); refine blk_far ?_ NB358_369.out _; (with_reducible repeat (first | refine sm7_ ?_ _ | refine sm8_ ?_ | refine sm9_ ?_ _)); refine blk_far ?_ NB358_369.out _; (with_reducible repeat (first | refine sm7_ ?_ _ | refine sm8_ ?_ | refine sm9_ ?_ _)); refine blk_far ?_ NB358_369.out _; (with_reducible repeat (first | refine sm7_ ?_ _ | refine sm8_ ?_ | refine sm9_ ?_ _)); exact BK358.out) hb); have n7_ := A0_ (sn4_ (g := gb369) (o := .cells #[.int .i64 t362, .bool t363, .string t364, .slice Ao46 t365.length co46] 26 (0, 0)) (by (with_reducible repeat (first | refine sm7_ ?_ _ | refine sm8_ ?_ | refine sm9_ ?_ _)); refine blk_put (cs := #[.int .i64 t362, .bool t363, .string t364, .slice none 0 0]) ?_ 3 _ rfl; (with_reducible repeat (first | refine sm7_ ?_ _ | refine sm8_ ?_ | refine sm9_ ?_ _)); refine blk_put (cs := #[.int .i64 t362, .bool t363, .string (⟨#[]⟩ : ByteArray), .slice none 0 0]) ?_ 2 _ rfl; (with_reducible repeat (first | refine sm7_ ?_ _ | refine sm8_ ?_ | refine sm9_ ?_ _)); refine blk_put (cs := #[.int .i64 t362, .bool false, .string (⟨#[]⟩ : ByteArray), .slice none 0 0]) ?_ 1 _ rfl; (with_reducible repeat (first | refine sm7_ ?_ _ | refine sm8_ ?_ | refine sm9_ ?_ _)); refine blk_put (cs := #[.int .i64 0, .bool false, .string (⟨#[]⟩ : ByteArray), .slice none 0 0]) ?_ 0 _ rfl; (with_reducible repeat (first | refine sm7_ ?_ _ | refine sm8_ ?_ | refine sm9_ ?_ _)); exact BK369.out) hb); have n8_ := A0_ (sn2_ (kw4_ HB.out GE356.out GE357.out GE358.out GE369.out) hb); clear HO_357003; clear HO361; clear HO367; clear BK356; clear BK357; clear BK358; clear BK369; clear HB; have HO_357003 := n0_; have HO361 := n1_; have HO367 := n2_; have HO372 := n3_; have BK356 := n4_; have BK357 := n5_; have BK358 := n6_; have BK369 := n7_; have HB := n8_; clear n0_ n1_ n2_ n3_ n4_ n5_ n6_ n7_ n8_; clear hb ho50; obtain ⟨Ao51, co51, eo51⟩ := Kd.R_slice HO372.out; subst eo51) | ((with_reducible refine gate_callee (f := 10) rfl ?_); refine goesL_ (some 72) rfl rfl Try.func10 (by kernel_rfl) rfl #[.slice A0 l0.length c0, .slice Ao51 y370.length co51] rfl (by (try simp only [List.map_toArray, List.map_cons, List.map_nil]); first | done | rfl | (simp only [List.length_drop, sp2_]; rfl)) ?_; (with_reducible refine (laws_wordLast.calls _ _ l0 _ _ y370 t373 t374 t375 t376 t379 _ ?side1 ?side2 ?side3 ?side4 A28.out).mono ?_); (case side1 => repeat (first | exact (Kd.C_below HR0.out HB.out) | (with_reducible refine sp8_ ?_ _) | (with_reducible refine sp9_ ?_ _) | (with_reducible refine sq1_ ?_))); (case side2 => exact HC0.out); (case side3 => repeat (first | exact (Kd.R_reads' HO372.out).2.2 | (with_reducible refine sp8_ ?_ _) | (with_reducible refine sp9_ ?_ _) | (with_reducible refine sq1_ ?_))); (case side4 => exact (Kd.R_reads' HO372.out).2.1); rintro e w52 ⟨v377, rfl, ho0, hb⟩; refine ⟨_, rfl, ?_⟩; have n0_ := A0_ (Kd.R_elder' (kr_ HO_357003.out) (Kd.R_base ho0) hb); have n1_ := A0_ (Kd.R_below (kr_ HO361.out) hb); have n2_ := A0_ (Kd.R_elder' (kr_ HO367.out) (Kd.R_base ho0) hb); have n3_ := A0_ (Kd.R_below (kr_ HO372.out) hb); have n4_ := A0_ (Kd.R_lower (Kd.R_new' (Kd.R_new' ho0 (Kd.R_lt (kr_ HO_357003.out))) (Kd.R_lt (kr_ HO367.out))) (sn1_ (kw4_ HB.out GE356.out GE357.out GE358.out GE369.out))); have n5_ := A0_ (sn4_ (g := gb356) (o := .cells #[.int .i64 t349, .bool t350, .string t351, .slice Ao22 t352.length co22] 26 (0, 0)) (kb_ BK356.out) hb); have n6_ := A0_ (sn4_ (g := gb357) (o := .cells #[.int .i64 0, .string a1, .int .i64 a2] 30 (0, 0)) (kb_ BK357.out) hb); have n7_ := A0_ (sn4_ (g := gb358) (o := .cells #[.int .i64 1, .string a1, .int .i64 0] 30 (0, 0)) (kb_ BK358.out) hb); have n8_ := A0_ (sn4_ (g := gb369) (o := .cells #[.int .i64 t362, .bool t363, .string t364, .slice Ao46 t365.length co46] 26 (0, 0)) (kb_ BK369.out) hb); have n9_ := A0_ (sn2_ (kw4_ HB.out GE356.out GE357.out GE358.out GE369.out) hb); clear HO_357003; clear HO361; clear HO367; clear HO372; clear BK356; clear BK357; clear BK358; clear BK369; clear HB; have HO_357003 := n0_; have HO361 := n1_; have HO367 := n2_; have HO372 := n3_; have HO378 := n4_; have BK356 := n5_; have BK357 := n6_; have BK358 := n7_; have BK369 := n8_; have HB := n9_; clear n0_ n1_ n2_ n3_ n4_ n5_ n6_ n7_ n8_ n9_; (try clear hb); (try clear hb2); (try clear hk); (try clear hi); (try clear ho0)) | ((with_reducible refine sp1_ (N := 15) rfl ?_); (try (refine gate_guard (by rfl) ?_; dsimp only)); refine sn9_ ?hg (N := 15) ?hd (cs := #[.int .i64 0, .bool false, .string (⟨#[]⟩ : ByteArray), .slice none 0 0]) (t := 26) ?hr ?_; (case hd => rfl); (case hg => rfl); (case hr => first | (go_simp; done) | (go_simp; rfl)); intro gb380 hg w53 hbox hb; have n0_ := A0_ (Kd.R_below (kr_ HO_357003.out) hb); have n1_ := A0_ (Kd.R_below (kr_ HO361.out) hb); have n2_ := A0_ (Kd.R_below (kr_ HO367.out) hb); have n3_ := A0_ (Kd.R_below (kr_ HO372.out) hb); have n4_ := A0_ (Kd.R_below (kr_ HO378.out) hb); have n5_ := A0_ (sn4_ (g := gb356) (o := .cells #[.int .i64 t349, .bool t350, .string t351, .slice Ao22 t352.length co22] 26 (0, 0)) (kb_ BK356.out) hb); have n6_ := A0_ (sn4_ (g := gb357) (o := .cells #[.int .i64 0, .string a1, .int .i64 a2] 30 (0, 0)) (kb_ BK357.out) hb); have n7_ := A0_ (sn4_ (g := gb358) (o := .cells #[.int .i64 1, .string a1, .int .i64 0] 30 (0, 0)) (kb_ BK358.out) hb); have n8_ := A0_ (sn4_ (g := gb369) (o := .cells #[.int .i64 t362, .bool t363, .string t364, .slice Ao46 t365.length co46] 26 (0, 0)) (kb_ BK369.out) hb); have n9_ := A0_ (sn2_ (kw4_ HB.out GE356.out GE357.out GE358.out GE369.out) hb); have n10_ := A0_ (hbox); have n11_ := A0_ ((by rw [hg]; exact (sn1_ (kw4_ HB.out GE356.out GE357.out GE358.out GE369.out)) : w.heap.size ≤ gb380)); have n12_ := A0_ ((by rw [hg]; exact (sn1_ (kw4_ HB.out GE356.out GE357.out GE358.out GE369.out)) : w.heap.size ≤ gb380)); have n13_ := A0_ ((by rw [hg]; exact sl5_ (blk_lt (g := gb356) (o := .cells #[.int .i64 t349, .bool t350, .string t351, .slice Ao22 t352.length co22] 26 (0, 0)) (kb_ BK356.out)) : gb356 ≠ gb380)); have n14_ := A0_ ((by rw [hg]; exact sn8_ (blk_lt (g := gb356) (o := .cells #[.int .i64 t349, .bool t350, .string t351, .slice Ao22 t352.length co22] 26 (0, 0)) (kb_ BK356.out)) : gb380 ≠ gb356)); have n15_ := A0_ ((by rw [hg]; exact sl5_ (blk_lt (g := gb357) (o := .cells #[.int .i64 0, .string a1, .int .i64 a2] 30 (0, 0)) (kb_ BK357.out)) : gb357 ≠ gb380)); have n16_ := A0_ ((by rw [hg]; exact sn8_ (blk_lt (g := gb357) (o := .cells #[.int .i64 0, .string a1, .int .i64 a2] 30 (0, 0)) (kb_ BK357.out)) : gb380 ≠ gb357)); have n17_ := A0_ ((by rw [hg]; exact sl5_ (blk_lt (g := gb358) (o := .cells #[.int .i64 1, .string a1, .int .i64 0] 30 (0, 0)) (kb_ BK358.out)) : gb358 ≠ gb380)); have n18_ := A0_ ((by rw [hg]; exact sn8_ (blk_lt (g := gb358) (o := .cells #[.int .i64 1, .string a1, .int .i64 0] 30 (0, 0)) (kb_ BK358.out)) : gb380 ≠ gb358)); have n19_ := A0_ ((by rw [hg]; exact sl5_ (blk_lt (g := gb369) (o := .cells #[.int .i64 t362, .bool t363, .string t364, .slice Ao46 t365.length co46] 26 (0, 0)) (kb_ BK369.out)) : gb369 ≠ gb380)); have n20_ := A0_ ((by rw [hg]; exact sn8_ (blk_lt (g := gb369) (o := .cells #[.int .i64 t362, .bool t363, .string t364, .slice Ao46 t365.length co46] 26 (0, 0)) (kb_ BK369.out)) : gb380 ≠ gb369)); clear HO_357003; clear HO361; clear HO367; clear HO372; clear HO378; clear BK356; clear BK357; clear BK358; clear BK369; clear HB; have HO_357003 := n0_; have HO361 := n1_; have HO367 := n2_; have HO372 := n3_; have HO378 := n4_; have BK356 := n5_; have BK357 := n6_; have BK358 := n7_; have BK369 := n8_; have HB := n9_; have BK380 := n10_; have GW380 := n11_; have GE380 := n12_; have NB356_380 := n13_; have NB380_356 := n14_; have NB357_380 := n15_; have NB380_357 := n16_; have NB358_380 := n17_; have NB380_358 := n18_; have NB369_380 := n19_; have NB380_369 := n20_; clear n0_ n1_ n2_ n3_ n4_ n5_ n6_ n7_ n8_ n9_ n10_ n11_ n12_ n13_ n14_ n15_ n16_ n17_ n18_ n19_ n20_; clear hb hbox hg; have hnb54 := NB380_356.out; have hnc54 := NB356_380.out; have hnb55 := NB380_357.out; have hnc55 := NB357_380.out; have hnb56 := NB380_358.out; have hnc56 := NB358_380.out; have hnb57 := NB380_369.out; have hnc57 := NB369_380.out; have hcz58_0 : w53.cell? ⟨gb380, 0, none⟩ = some (.int .i64 0) := (blk_cell BK380.out 0).trans rfl; have hcz58_1 : w53.cell? ⟨gb380, 1, none⟩ = some (.bool false) := (blk_cell BK380.out 1).trans rfl; have hcz58_2 : w53.cell? ⟨gb380, 2, none⟩ = some (.string (⟨#[]⟩ : ByteArray)) := (blk_cell BK380.out 2).trans rfl; have hcz58_3 : w53.cell? ⟨gb380, 3, none⟩ = some (.slice none 0 0) := (blk_cell BK380.out 3).trans rfl; have hfz58_0 := blk_frozen BK380.out 0; have hfz58_1 := blk_frozen BK380.out 1; have hfz58_2 := blk_frozen BK380.out 2; have hfz58_3 := blk_frozen BK380.out 3; obtain ⟨Ao59, co59, eo59⟩ := Kd.R_slice HO378.out; subst eo59))); ((try simp only [Act.put, sl1_, sl2_, sl3_])); (go_cut [95] (fun v95 wc => ∃ (kq : Nat) (x95_28 : Bool), v95 = .bool x95_28 ∧ Aside0 (laws_FnTrieUndo.j2 kq l0 a3 x95_28 0 a1 a2 1 a1 0 = some r) ∧ Aside0 (kq ≤ kj14) ∧ Aside0 (Kd.R Kd.string 9 wc w.heap.size (fun k_ => some k_ ≠ ((.slice Ao46 t365.length co46) : Value).ownBlock ∧ some k_ ≠ ((.slice Ao59 t376.length co59) : Value).ownBlock) (.slice Ao22 t352.length co22) t352) ∧ Aside0 (Kd.R Kd.string 9 wc w.heap.size (fun k_ => some k_ ≠ ((.slice Ao22 t352.length co22) : Value).ownBlock ∧ some k_ ≠ ((.slice Ao59 t376.length co59) : Value).ownBlock) (.slice Ao46 t365.length co46) t365) ∧ Aside0 (Kd.R Kd.string 9 wc w.heap.size (fun k_ => some k_ ≠ ((.slice Ao22 t352.length co22) : Value).ownBlock ∧ some k_ ≠ ((.slice Ao46 t365.length co46) : Value).ownBlock) (.slice Ao59 t376.length co59) t376) ∧ Aside0 (wc.heap[gb356]? = some (.cells #[.int .i64 t349, .bool t350, .string t351, (.slice Ao22 t352.length co22)] 26 (0, 0))) ∧ Aside0 (wc.heap[gb357]? = some (.cells #[.int .i64 0, .string a1, .int .i64 a2] 30 (0, 0))) ∧ Aside0 (wc.heap[gb358]? = some (.cells #[.int .i64 1, .string a1, .int .i64 0] 30 (0, 0))) ∧ Aside0 (wc.heap[gb369]? = some (.cells #[.int .i64 t362, .bool t363, .string t364, (.slice Ao46 t365.length co46)] 26 (0, 0))) ∧ Aside0 (wc.heap[gb380]? = some (.cells #[.int .i64 t373, .bool t374, .string t375, (.slice Ao59 t376.length co59)] 26 (0, 0))) ∧ Aside0 (Below w.heap.size w wc)))
           case first =>
            have H := HC29.out; clear HC29; (by_cases c60 : t368 = true)
            · subst c60
              (have H1 : (if t379 = true then (if t363 = true then (if t362 = a2 then (laws_FnTrieUndo.j2 kj14 l0 a3 t374 0 a1 a2 1 a1 0) else (laws_FnTrieUndo.j2 kj14 l0 a3 true 0 a1 a2 1 a1 0)) else (laws_FnTrieUndo.j2 kj14 l0 a3 true 0 a1 a2 1 a1 0)) else (laws_FnTrieUndo.j2 kj14 l0 a3 true 0 a1 a2 1 a1 0)) = some r := by rw [if_pos rfl] at H; exact H); clear H; have H := H1; clear H1; (by_cases c61 : t379 = true)
              · subst c61
                (have H1 : (if t363 = true then (if t362 = a2 then (laws_FnTrieUndo.j2 kj14 l0 a3 t374 0 a1 a2 1 a1 0) else (laws_FnTrieUndo.j2 kj14 l0 a3 true 0 a1 a2 1 a1 0)) else (laws_FnTrieUndo.j2 kj14 l0 a3 true 0 a1 a2 1 a1 0)) = some r := by rw [if_pos rfl] at H; exact H); clear H; have H := H1; clear H1; (by_cases c62 : t363 = true)
                · subst c62
                  (have H1 : (if t362 = a2 then (laws_FnTrieUndo.j2 kj14 l0 a3 t374 0 a1 a2 1 a1 0) else (laws_FnTrieUndo.j2 kj14 l0 a3 true 0 a1 a2 1 a1 0)) = some r := by rw [if_pos rfl] at H; exact H); clear H; have H := H1; clear H1; (by_cases c63 : t362 = a2)
                  · rw [if_pos c63] at H
                    have c63b0 : (t362 == a2) = true := beq_iff_eq.mpr c63; have c63b1 : (t362 != a2) = false := bne_eq_false_iff_eq.mpr c63; clear c63; ((first | rw [c63b0] | (simp only [i64_w, i32_w]; rw [c63b0]) | skip)); have H' := A0_ H; clear H; have hnb64 := NB369_356.out; have hnc64 := NB356_369.out; have hnb65 := NB369_357.out; have hnc65 := NB357_369.out; have hnb66 := NB369_358.out; have hnc66 := NB358_369.out; have hnb67 := NB369_380.out; have hnc67 := NB380_369.out; have hcz68_0 : w53.cell? ⟨gb369, 0, none⟩ = some (.int .i64 t362) := (blk_cell BK369.out 0).trans rfl; have hcz68_1 : w53.cell? ⟨gb369, 1, none⟩ = some (.bool true) := (blk_cell BK369.out 1).trans rfl; have hcz68_2 : w53.cell? ⟨gb369, 2, none⟩ = some (.string t364) := (blk_cell BK369.out 2).trans rfl; have hcz68_3 : w53.cell? ⟨gb369, 3, none⟩ = some (.slice Ao46 t365.length co46) := (blk_cell BK369.out 3).trans rfl; have hfz68_0 := blk_frozen BK369.out 0; have hfz68_1 := blk_frozen BK369.out 1; have hfz68_2 := blk_frozen BK369.out 2; have hfz68_3 := blk_frozen BK369.out 3; have hnb69 := NB380_356.out; have hnc69 := NB356_380.out; have hnb70 := NB380_357.out; have hnc70 := NB357_380.out; have hnb71 := NB380_358.out; have hnc71 := NB358_380.out; have hcz72_0 : w53.cell? ⟨gb380, 0, none⟩ = some (.int .i64 0) := (blk_cell BK380.out 0).trans rfl; have hcz72_1 : w53.cell? ⟨gb380, 1, none⟩ = some (.bool false) := (blk_cell BK380.out 1).trans rfl; have hcz72_2 : w53.cell? ⟨gb380, 2, none⟩ = some (.string (⟨#[]⟩ : ByteArray)) := (blk_cell BK380.out 2).trans rfl; have hcz72_3 : w53.cell? ⟨gb380, 3, none⟩ = some (.slice none 0 0) := (blk_cell BK380.out 3).trans rfl; have hfz72_0 := blk_frozen BK380.out 0; have hfz72_1 := blk_frozen BK380.out 1; have hfz72_2 := blk_frozen BK380.out 2; have hfz72_3 := blk_frozen BK380.out 3; (go_wp2); (go_meet)
                    case rel => exact ⟨_, (t374), (by first | rfl | (simp; done) | (simp [*]; done)), H', ⟨by have := HJ4.out; have := HJ14.out; first | omega | exact Nat.le_refl _⟩, ⟨by (with_reducible repeat (first | apply sm2_ | apply sm1_ | apply sm3_)); exact Kd.R_mono (Kd.R_far (p := ⟨gb380, 3, none⟩) (Kd.R_far (p := ⟨gb380, 2, none⟩) (Kd.R_far (p := ⟨gb380, 1, none⟩) (Kd.R_far (p := ⟨gb380, 0, none⟩) (Kd.R_types HO_357003.out BK380.out (by decide)) (fun _ hk => hk.2) (.int .i64 t373)) (fun _ hk => hk.2) (.bool t374)) (fun _ hk => hk.2) (.string t375)) (fun _ hk => hk.2) (.slice Ao59 t376.length co59)) (fun _ hk => ⟨hk.1.1.2, hk.1.2⟩)⟩, ⟨by (with_reducible repeat (first | apply sm2_ | apply sm1_ | apply sm3_)); exact Kd.R_mono (Kd.R_far (p := ⟨gb380, 3, none⟩) (Kd.R_far (p := ⟨gb380, 2, none⟩) (Kd.R_far (p := ⟨gb380, 1, none⟩) (Kd.R_far (p := ⟨gb380, 0, none⟩) (Kd.R_types HO367.out BK380.out (by decide)) (fun _ hk => hk.2) (.int .i64 t373)) (fun _ hk => hk.2) (.bool t374)) (fun _ hk => hk.2) (.string t375)) (fun _ hk => hk.2) (.slice Ao59 t376.length co59)) (fun _ hk => ⟨hk.1.1.2, hk.1.2⟩)⟩, ⟨by (with_reducible repeat (first | apply sm2_ | apply sm1_ | apply sm3_)); exact Kd.R_mono (Kd.R_far (p := ⟨gb380, 3, none⟩) (Kd.R_far (p := ⟨gb380, 2, none⟩) (Kd.R_far (p := ⟨gb380, 1, none⟩) (Kd.R_far (p := ⟨gb380, 0, none⟩) (Kd.R_types HO378.out BK380.out (by decide)) (fun _ hk => hk.2) (.int .i64 t373)) (fun _ hk => hk.2) (.bool t374)) (fun _ hk => hk.2) (.string t375)) (fun _ hk => hk.2) (.slice Ao59 t376.length co59)) (fun _ hk => ⟨hk.1.1.2, hk.1.2⟩)⟩, ⟨by (with_reducible repeat (first | refine sm7_ ?_ _ | refine sm8_ ?_ | refine sm9_ ?_ _)); refine blk_far ?_ NB356_380.out _; (with_reducible repeat (first | refine sm7_ ?_ _ | refine sm8_ ?_ | refine sm9_ ?_ _)); refine blk_far ?_ NB356_380.out _; (with_reducible repeat (first | refine sm7_ ?_ _ | refine sm8_ ?_ | refine sm9_ ?_ _)); refine blk_far ?_ NB356_380.out _; (with_reducible repeat (first | refine sm7_ ?_ _ | refine sm8_ ?_ | refine sm9_ ?_ _)); refine blk_far ?_ NB356_380.out _; (with_reducible repeat (first | refine sm7_ ?_ _ | refine sm8_ ?_ | refine sm9_ ?_ _)); exact BK356.out⟩, ⟨by (with_reducible repeat (first | refine sm7_ ?_ _ | refine sm8_ ?_ | refine sm9_ ?_ _)); refine blk_far ?_ NB357_380.out _; (with_reducible repeat (first | refine sm7_ ?_ _ | refine sm8_ ?_ | refine sm9_ ?_ _)); refine blk_far ?_ NB357_380.out _; (with_reducible repeat (first | refine sm7_ ?_ _ | refine sm8_ ?_ | refine sm9_ ?_ _)); refine blk_far ?_ NB357_380.out _; (with_reducible repeat (first | refine sm7_ ?_ _ | refine sm8_ ?_ | refine sm9_ ?_ _)); refine blk_far ?_ NB357_380.out _; (with_reducible repeat (first | refine sm7_ ?_ _ | refine sm8_ ?_ | refine sm9_ ?_ _)); exact BK357.out⟩, ⟨by (with_reducible repeat (first | refine sm7_ ?_ _ | refine sm8_ ?_ | refine sm9_ ?_ _)); refine blk_far ?_ NB358_380.out _; (with_reducible repeat (first | refine sm7_ ?_ _ | refine sm8_ ?_ | refine sm9_ ?_ _)); refine blk_far ?_ NB358_380.out _; (with_reducible repeat (first | refine sm7_ ?_ _ | refine sm8_ ?_ | refine sm9_ ?_ _)); refine blk_far ?_ NB358_380.out _; (with_reducible repeat (first | refine sm7_ ?_ _ | refine sm8_ ?_ | refine sm9_ ?_ _)); refine blk_far ?_ NB358_380.out _; (with_reducible repeat (first | refine sm7_ ?_ _ | refine sm8_ ?_ | refine sm9_ ?_ _)); exact BK358.out⟩, ⟨by (with_reducible repeat (first | refine sm7_ ?_ _ | refine sm8_ ?_ | refine sm9_ ?_ _)); refine blk_far ?_ NB369_380.out _; (with_reducible repeat (first | refine sm7_ ?_ _ | refine sm8_ ?_ | refine sm9_ ?_ _)); refine blk_far ?_ NB369_380.out _; (with_reducible repeat (first | refine sm7_ ?_ _ | refine sm8_ ?_ | refine sm9_ ?_ _)); refine blk_far ?_ NB369_380.out _; (with_reducible repeat (first | refine sm7_ ?_ _ | refine sm8_ ?_ | refine sm9_ ?_ _)); refine blk_far ?_ NB369_380.out _; (with_reducible repeat (first | refine sm7_ ?_ _ | refine sm8_ ?_ | refine sm9_ ?_ _)); exact BK369.out⟩, ⟨by (with_reducible repeat (first | refine sm7_ ?_ _ | refine sm8_ ?_ | refine sm9_ ?_ _)); refine blk_put (cs := #[.int .i64 t373, .bool t374, .string t375, .slice none 0 0]) ?_ 3 _ rfl; (with_reducible repeat (first | refine sm7_ ?_ _ | refine sm8_ ?_ | refine sm9_ ?_ _)); refine blk_put (cs := #[.int .i64 t373, .bool t374, .string (⟨#[]⟩ : ByteArray), .slice none 0 0]) ?_ 2 _ rfl; (with_reducible repeat (first | refine sm7_ ?_ _ | refine sm8_ ?_ | refine sm9_ ?_ _)); refine blk_put (cs := #[.int .i64 t373, .bool false, .string (⟨#[]⟩ : ByteArray), .slice none 0 0]) ?_ 1 _ rfl; (with_reducible repeat (first | refine sm7_ ?_ _ | refine sm8_ ?_ | refine sm9_ ?_ _)); refine blk_put (cs := #[.int .i64 0, .bool false, .string (⟨#[]⟩ : ByteArray), .slice none 0 0]) ?_ 0 _ rfl; (with_reducible repeat (first | refine sm7_ ?_ _ | refine sm8_ ?_ | refine sm9_ ?_ _)); exact BK380.out⟩, ⟨by repeat (first | (with_reducible first | exact HB.out | apply sm4_ | apply sl9_ | apply sm5_ | refine sn3_ ?_ GE356.out | refine sn3_ ?_ GE357.out | refine sn3_ ?_ GE358.out | refine sn3_ ?_ GE369.out | refine sn3_ ?_ GE380.out) | exact HB.out)⟩⟩
                  · rw [if_neg c63] at H
                    have c63b0 : (t362 == a2) = false := beq_eq_false_iff_ne.mpr c63; have c63b1 : (t362 != a2) = true := bne_iff_ne.mpr c63; ((first | rw [c63b0] | (simp only [i64_w, i32_w]; rw [c63b0]) | skip)); have H' := A0_ H; clear H; have hnb73 := NB369_356.out; have hnc73 := NB356_369.out; have hnb74 := NB369_357.out; have hnc74 := NB357_369.out; have hnb75 := NB369_358.out; have hnc75 := NB358_369.out; have hnb76 := NB369_380.out; have hnc76 := NB380_369.out; have hcz77_0 : w53.cell? ⟨gb369, 0, none⟩ = some (.int .i64 t362) := (blk_cell BK369.out 0).trans rfl; have hcz77_1 : w53.cell? ⟨gb369, 1, none⟩ = some (.bool true) := (blk_cell BK369.out 1).trans rfl; have hcz77_2 : w53.cell? ⟨gb369, 2, none⟩ = some (.string t364) := (blk_cell BK369.out 2).trans rfl; have hcz77_3 : w53.cell? ⟨gb369, 3, none⟩ = some (.slice Ao46 t365.length co46) := (blk_cell BK369.out 3).trans rfl; have hfz77_0 := blk_frozen BK369.out 0; have hfz77_1 := blk_frozen BK369.out 1; have hfz77_2 := blk_frozen BK369.out 2; have hfz77_3 := blk_frozen BK369.out 3; (go_wp2); (go_meet)
                    case rel => exact ⟨_, (true), (by first | rfl | (simp; done) | (simp [*]; done)), H', ⟨by have := HJ4.out; have := HJ14.out; first | omega | exact Nat.le_refl _⟩, ⟨by (with_reducible repeat (first | apply sm2_ | apply sm1_ | apply sm3_)); exact Kd.R_mono (Kd.R_far (p := ⟨gb380, 3, none⟩) (Kd.R_far (p := ⟨gb380, 2, none⟩) (Kd.R_far (p := ⟨gb380, 1, none⟩) (Kd.R_far (p := ⟨gb380, 0, none⟩) (Kd.R_types HO_357003.out BK380.out (by decide)) (fun _ hk => hk.2) (.int .i64 t373)) (fun _ hk => hk.2) (.bool t374)) (fun _ hk => hk.2) (.string t375)) (fun _ hk => hk.2) (.slice Ao59 t376.length co59)) (fun _ hk => ⟨hk.1.1.2, hk.1.2⟩)⟩, ⟨by (with_reducible repeat (first | apply sm2_ | apply sm1_ | apply sm3_)); exact Kd.R_mono (Kd.R_far (p := ⟨gb380, 3, none⟩) (Kd.R_far (p := ⟨gb380, 2, none⟩) (Kd.R_far (p := ⟨gb380, 1, none⟩) (Kd.R_far (p := ⟨gb380, 0, none⟩) (Kd.R_types HO367.out BK380.out (by decide)) (fun _ hk => hk.2) (.int .i64 t373)) (fun _ hk => hk.2) (.bool t374)) (fun _ hk => hk.2) (.string t375)) (fun _ hk => hk.2) (.slice Ao59 t376.length co59)) (fun _ hk => ⟨hk.1.1.2, hk.1.2⟩)⟩, ⟨by (with_reducible repeat (first | apply sm2_ | apply sm1_ | apply sm3_)); exact Kd.R_mono (Kd.R_far (p := ⟨gb380, 3, none⟩) (Kd.R_far (p := ⟨gb380, 2, none⟩) (Kd.R_far (p := ⟨gb380, 1, none⟩) (Kd.R_far (p := ⟨gb380, 0, none⟩) (Kd.R_types HO378.out BK380.out (by decide)) (fun _ hk => hk.2) (.int .i64 t373)) (fun _ hk => hk.2) (.bool t374)) (fun _ hk => hk.2) (.string t375)) (fun _ hk => hk.2) (.slice Ao59 t376.length co59)) (fun _ hk => ⟨hk.1.1.2, hk.1.2⟩)⟩, ⟨by (with_reducible repeat (first | refine sm7_ ?_ _ | refine sm8_ ?_ | refine sm9_ ?_ _)); refine blk_far ?_ NB356_380.out _; (with_reducible repeat (first | refine sm7_ ?_ _ | refine sm8_ ?_ | refine sm9_ ?_ _)); refine blk_far ?_ NB356_380.out _; (with_reducible repeat (first | refine sm7_ ?_ _ | refine sm8_ ?_ | refine sm9_ ?_ _)); refine blk_far ?_ NB356_380.out _; (with_reducible repeat (first | refine sm7_ ?_ _ | refine sm8_ ?_ | refine sm9_ ?_ _)); refine blk_far ?_ NB356_380.out _; (with_reducible repeat (first | refine sm7_ ?_ _ | refine sm8_ ?_ | refine sm9_ ?_ _)); exact BK356.out⟩, ⟨by (with_reducible repeat (first | refine sm7_ ?_ _ | refine sm8_ ?_ | refine sm9_ ?_ _)); refine blk_far ?_ NB357_380.out _; (with_reducible repeat (first | refine sm7_ ?_ _ | refine sm8_ ?_ | refine sm9_ ?_ _)); refine blk_far ?_ NB357_380.out _; (with_reducible repeat (first | refine sm7_ ?_ _ | refine sm8_ ?_ | refine sm9_ ?_ _)); refine blk_far ?_ NB357_380.out _; (with_reducible repeat (first | refine sm7_ ?_ _ | refine sm8_ ?_ | refine sm9_ ?_ _)); refine blk_far ?_ NB357_380.out _; (with_reducible repeat (first | refine sm7_ ?_ _ | refine sm8_ ?_ | refine sm9_ ?_ _)); exact BK357.out⟩, ⟨by (with_reducible repeat (first | refine sm7_ ?_ _ | refine sm8_ ?_ | refine sm9_ ?_ _)); refine blk_far ?_ NB358_380.out _; (with_reducible repeat (first | refine sm7_ ?_ _ | refine sm8_ ?_ | refine sm9_ ?_ _)); refine blk_far ?_ NB358_380.out _; (with_reducible repeat (first | refine sm7_ ?_ _ | refine sm8_ ?_ | refine sm9_ ?_ _)); refine blk_far ?_ NB358_380.out _; (with_reducible repeat (first | refine sm7_ ?_ _ | refine sm8_ ?_ | refine sm9_ ?_ _)); refine blk_far ?_ NB358_380.out _; (with_reducible repeat (first | refine sm7_ ?_ _ | refine sm8_ ?_ | refine sm9_ ?_ _)); exact BK358.out⟩, ⟨by (with_reducible repeat (first | refine sm7_ ?_ _ | refine sm8_ ?_ | refine sm9_ ?_ _)); refine blk_far ?_ NB369_380.out _; (with_reducible repeat (first | refine sm7_ ?_ _ | refine sm8_ ?_ | refine sm9_ ?_ _)); refine blk_far ?_ NB369_380.out _; (with_reducible repeat (first | refine sm7_ ?_ _ | refine sm8_ ?_ | refine sm9_ ?_ _)); refine blk_far ?_ NB369_380.out _; (with_reducible repeat (first | refine sm7_ ?_ _ | refine sm8_ ?_ | refine sm9_ ?_ _)); refine blk_far ?_ NB369_380.out _; (with_reducible repeat (first | refine sm7_ ?_ _ | refine sm8_ ?_ | refine sm9_ ?_ _)); exact BK369.out⟩, ⟨by (with_reducible repeat (first | refine sm7_ ?_ _ | refine sm8_ ?_ | refine sm9_ ?_ _)); refine blk_put (cs := #[.int .i64 t373, .bool t374, .string t375, .slice none 0 0]) ?_ 3 _ rfl; (with_reducible repeat (first | refine sm7_ ?_ _ | refine sm8_ ?_ | refine sm9_ ?_ _)); refine blk_put (cs := #[.int .i64 t373, .bool t374, .string (⟨#[]⟩ : ByteArray), .slice none 0 0]) ?_ 2 _ rfl; (with_reducible repeat (first | refine sm7_ ?_ _ | refine sm8_ ?_ | refine sm9_ ?_ _)); refine blk_put (cs := #[.int .i64 t373, .bool false, .string (⟨#[]⟩ : ByteArray), .slice none 0 0]) ?_ 1 _ rfl; (with_reducible repeat (first | refine sm7_ ?_ _ | refine sm8_ ?_ | refine sm9_ ?_ _)); refine blk_put (cs := #[.int .i64 0, .bool false, .string (⟨#[]⟩ : ByteArray), .slice none 0 0]) ?_ 0 _ rfl; (with_reducible repeat (first | refine sm7_ ?_ _ | refine sm8_ ?_ | refine sm9_ ?_ _)); exact BK380.out⟩, ⟨by repeat (first | (with_reducible first | exact HB.out | apply sm4_ | apply sl9_ | apply sm5_ | refine sn3_ ?_ GE356.out | refine sn3_ ?_ GE357.out | refine sn3_ ?_ GE358.out | refine sn3_ ?_ GE369.out | refine sn3_ ?_ GE380.out) | exact HB.out)⟩⟩
                · replace c62 := Bool.eq_false_iff.mpr c62
                  subst c62; (have H1 : (laws_FnTrieUndo.j2 kj14 l0 a3 true 0 a1 a2 1 a1 0) = some r := by rw [if_neg (show ¬ (false = true) by decide)] at H; exact H); clear H; have H := H1; clear H1; have H' := A0_ H; clear H; have hnb78 := NB369_356.out; have hnc78 := NB356_369.out; have hnb79 := NB369_357.out; have hnc79 := NB357_369.out; have hnb80 := NB369_358.out; have hnc80 := NB358_369.out; have hnb81 := NB369_380.out; have hnc81 := NB380_369.out; have hcz82_0 : w53.cell? ⟨gb369, 0, none⟩ = some (.int .i64 t362) := (blk_cell BK369.out 0).trans rfl; have hcz82_1 : w53.cell? ⟨gb369, 1, none⟩ = some (.bool false) := (blk_cell BK369.out 1).trans rfl; have hcz82_2 : w53.cell? ⟨gb369, 2, none⟩ = some (.string t364) := (blk_cell BK369.out 2).trans rfl; have hcz82_3 : w53.cell? ⟨gb369, 3, none⟩ = some (.slice Ao46 t365.length co46) := (blk_cell BK369.out 3).trans rfl; have hfz82_0 := blk_frozen BK369.out 0; have hfz82_1 := blk_frozen BK369.out 1; have hfz82_2 := blk_frozen BK369.out 2; have hfz82_3 := blk_frozen BK369.out 3; (go_wp2); (go_meet)
                  case rel => exact ⟨_, (true), (by first | rfl | (simp; done) | (simp [*]; done)), H', ⟨by have := HJ4.out; have := HJ14.out; first | omega | exact Nat.le_refl _⟩, ⟨by (with_reducible repeat (first | apply sm2_ | apply sm1_ | apply sm3_)); exact Kd.R_mono (Kd.R_far (p := ⟨gb380, 3, none⟩) (Kd.R_far (p := ⟨gb380, 2, none⟩) (Kd.R_far (p := ⟨gb380, 1, none⟩) (Kd.R_far (p := ⟨gb380, 0, none⟩) (Kd.R_types HO_357003.out BK380.out (by decide)) (fun _ hk => hk.2) (.int .i64 t373)) (fun _ hk => hk.2) (.bool t374)) (fun _ hk => hk.2) (.string t375)) (fun _ hk => hk.2) (.slice Ao59 t376.length co59)) (fun _ hk => ⟨hk.1.1.2, hk.1.2⟩)⟩, ⟨by (with_reducible repeat (first | apply sm2_ | apply sm1_ | apply sm3_)); exact Kd.R_mono (Kd.R_far (p := ⟨gb380, 3, none⟩) (Kd.R_far (p := ⟨gb380, 2, none⟩) (Kd.R_far (p := ⟨gb380, 1, none⟩) (Kd.R_far (p := ⟨gb380, 0, none⟩) (Kd.R_types HO367.out BK380.out (by decide)) (fun _ hk => hk.2) (.int .i64 t373)) (fun _ hk => hk.2) (.bool t374)) (fun _ hk => hk.2) (.string t375)) (fun _ hk => hk.2) (.slice Ao59 t376.length co59)) (fun _ hk => ⟨hk.1.1.2, hk.1.2⟩)⟩, ⟨by (with_reducible repeat (first | apply sm2_ | apply sm1_ | apply sm3_)); exact Kd.R_mono (Kd.R_far (p := ⟨gb380, 3, none⟩) (Kd.R_far (p := ⟨gb380, 2, none⟩) (Kd.R_far (p := ⟨gb380, 1, none⟩) (Kd.R_far (p := ⟨gb380, 0, none⟩) (Kd.R_types HO378.out BK380.out (by decide)) (fun _ hk => hk.2) (.int .i64 t373)) (fun _ hk => hk.2) (.bool t374)) (fun _ hk => hk.2) (.string t375)) (fun _ hk => hk.2) (.slice Ao59 t376.length co59)) (fun _ hk => ⟨hk.1.1.2, hk.1.2⟩)⟩, ⟨by (with_reducible repeat (first | refine sm7_ ?_ _ | refine sm8_ ?_ | refine sm9_ ?_ _)); refine blk_far ?_ NB356_380.out _; (with_reducible repeat (first | refine sm7_ ?_ _ | refine sm8_ ?_ | refine sm9_ ?_ _)); refine blk_far ?_ NB356_380.out _; (with_reducible repeat (first | refine sm7_ ?_ _ | refine sm8_ ?_ | refine sm9_ ?_ _)); refine blk_far ?_ NB356_380.out _; (with_reducible repeat (first | refine sm7_ ?_ _ | refine sm8_ ?_ | refine sm9_ ?_ _)); refine blk_far ?_ NB356_380.out _; (with_reducible repeat (first | refine sm7_ ?_ _ | refine sm8_ ?_ | refine sm9_ ?_ _)); exact BK356.out⟩, ⟨by (with_reducible repeat (first | refine sm7_ ?_ _ | refine sm8_ ?_ | refine sm9_ ?_ _)); refine blk_far ?_ NB357_380.out _; (with_reducible repeat (first | refine sm7_ ?_ _ | refine sm8_ ?_ | refine sm9_ ?_ _)); refine blk_far ?_ NB357_380.out _; (with_reducible repeat (first | refine sm7_ ?_ _ | refine sm8_ ?_ | refine sm9_ ?_ _)); refine blk_far ?_ NB357_380.out _; (with_reducible repeat (first | refine sm7_ ?_ _ | refine sm8_ ?_ | refine sm9_ ?_ _)); refine blk_far ?_ NB357_380.out _; (with_reducible repeat (first | refine sm7_ ?_ _ | refine sm8_ ?_ | refine sm9_ ?_ _)); exact BK357.out⟩, ⟨by (with_reducible repeat (first | refine sm7_ ?_ _ | refine sm8_ ?_ | refine sm9_ ?_ _)); refine blk_far ?_ NB358_380.out _; (with_reducible repeat (first | refine sm7_ ?_ _ | refine sm8_ ?_ | refine sm9_ ?_ _)); refine blk_far ?_ NB358_380.out _; (with_reducible repeat (first | refine sm7_ ?_ _ | refine sm8_ ?_ | refine sm9_ ?_ _)); refine blk_far ?_ NB358_380.out _; (with_reducible repeat (first | refine sm7_ ?_ _ | refine sm8_ ?_ | refine sm9_ ?_ _)); refine blk_far ?_ NB358_380.out _; (with_reducible repeat (first | refine sm7_ ?_ _ | refine sm8_ ?_ | refine sm9_ ?_ _)); exact BK358.out⟩, ⟨by (with_reducible repeat (first | refine sm7_ ?_ _ | refine sm8_ ?_ | refine sm9_ ?_ _)); refine blk_far ?_ NB369_380.out _; (with_reducible repeat (first | refine sm7_ ?_ _ | refine sm8_ ?_ | refine sm9_ ?_ _)); refine blk_far ?_ NB369_380.out _; (with_reducible repeat (first | refine sm7_ ?_ _ | refine sm8_ ?_ | refine sm9_ ?_ _)); refine blk_far ?_ NB369_380.out _; (with_reducible repeat (first | refine sm7_ ?_ _ | refine sm8_ ?_ | refine sm9_ ?_ _)); refine blk_far ?_ NB369_380.out _; (with_reducible repeat (first | refine sm7_ ?_ _ | refine sm8_ ?_ | refine sm9_ ?_ _)); exact BK369.out⟩, ⟨by (with_reducible repeat (first | refine sm7_ ?_ _ | refine sm8_ ?_ | refine sm9_ ?_ _)); refine blk_put (cs := #[.int .i64 t373, .bool t374, .string t375, .slice none 0 0]) ?_ 3 _ rfl; (with_reducible repeat (first | refine sm7_ ?_ _ | refine sm8_ ?_ | refine sm9_ ?_ _)); refine blk_put (cs := #[.int .i64 t373, .bool t374, .string (⟨#[]⟩ : ByteArray), .slice none 0 0]) ?_ 2 _ rfl; (with_reducible repeat (first | refine sm7_ ?_ _ | refine sm8_ ?_ | refine sm9_ ?_ _)); refine blk_put (cs := #[.int .i64 t373, .bool false, .string (⟨#[]⟩ : ByteArray), .slice none 0 0]) ?_ 1 _ rfl; (with_reducible repeat (first | refine sm7_ ?_ _ | refine sm8_ ?_ | refine sm9_ ?_ _)); refine blk_put (cs := #[.int .i64 0, .bool false, .string (⟨#[]⟩ : ByteArray), .slice none 0 0]) ?_ 0 _ rfl; (with_reducible repeat (first | refine sm7_ ?_ _ | refine sm8_ ?_ | refine sm9_ ?_ _)); exact BK380.out⟩, ⟨by repeat (first | (with_reducible first | exact HB.out | apply sm4_ | apply sl9_ | apply sm5_ | refine sn3_ ?_ GE356.out | refine sn3_ ?_ GE357.out | refine sn3_ ?_ GE358.out | refine sn3_ ?_ GE369.out | refine sn3_ ?_ GE380.out) | exact HB.out)⟩⟩
              · replace c61 := Bool.eq_false_iff.mpr c61
                subst c61; (have H1 : (laws_FnTrieUndo.j2 kj14 l0 a3 true 0 a1 a2 1 a1 0) = some r := by rw [if_neg (show ¬ (false = true) by decide)] at H; exact H); clear H; have H := H1; clear H1; have H' := A0_ H; clear H; (go_wp2); (go_meet)
                case rel => exact ⟨_, (true), (by first | rfl | (simp; done) | (simp [*]; done)), H', ⟨by have := HJ4.out; have := HJ14.out; first | omega | exact Nat.le_refl _⟩, ⟨by (with_reducible repeat (first | apply sm2_ | apply sm1_ | apply sm3_)); exact Kd.R_mono (Kd.R_far (p := ⟨gb380, 3, none⟩) (Kd.R_far (p := ⟨gb380, 2, none⟩) (Kd.R_far (p := ⟨gb380, 1, none⟩) (Kd.R_far (p := ⟨gb380, 0, none⟩) (Kd.R_types HO_357003.out BK380.out (by decide)) (fun _ hk => hk.2) (.int .i64 t373)) (fun _ hk => hk.2) (.bool t374)) (fun _ hk => hk.2) (.string t375)) (fun _ hk => hk.2) (.slice Ao59 t376.length co59)) (fun _ hk => ⟨hk.1.1.2, hk.1.2⟩)⟩, ⟨by (with_reducible repeat (first | apply sm2_ | apply sm1_ | apply sm3_)); exact Kd.R_mono (Kd.R_far (p := ⟨gb380, 3, none⟩) (Kd.R_far (p := ⟨gb380, 2, none⟩) (Kd.R_far (p := ⟨gb380, 1, none⟩) (Kd.R_far (p := ⟨gb380, 0, none⟩) (Kd.R_types HO367.out BK380.out (by decide)) (fun _ hk => hk.2) (.int .i64 t373)) (fun _ hk => hk.2) (.bool t374)) (fun _ hk => hk.2) (.string t375)) (fun _ hk => hk.2) (.slice Ao59 t376.length co59)) (fun _ hk => ⟨hk.1.1.2, hk.1.2⟩)⟩, ⟨by (with_reducible repeat (first | apply sm2_ | apply sm1_ | apply sm3_)); exact Kd.R_mono (Kd.R_far (p := ⟨gb380, 3, none⟩) (Kd.R_far (p := ⟨gb380, 2, none⟩) (Kd.R_far (p := ⟨gb380, 1, none⟩) (Kd.R_far (p := ⟨gb380, 0, none⟩) (Kd.R_types HO378.out BK380.out (by decide)) (fun _ hk => hk.2) (.int .i64 t373)) (fun _ hk => hk.2) (.bool t374)) (fun _ hk => hk.2) (.string t375)) (fun _ hk => hk.2) (.slice Ao59 t376.length co59)) (fun _ hk => ⟨hk.1.1.2, hk.1.2⟩)⟩, ⟨by (with_reducible repeat (first | refine sm7_ ?_ _ | refine sm8_ ?_ | refine sm9_ ?_ _)); refine blk_far ?_ NB356_380.out _; (with_reducible repeat (first | refine sm7_ ?_ _ | refine sm8_ ?_ | refine sm9_ ?_ _)); refine blk_far ?_ NB356_380.out _; (with_reducible repeat (first | refine sm7_ ?_ _ | refine sm8_ ?_ | refine sm9_ ?_ _)); refine blk_far ?_ NB356_380.out _; (with_reducible repeat (first | refine sm7_ ?_ _ | refine sm8_ ?_ | refine sm9_ ?_ _)); refine blk_far ?_ NB356_380.out _; (with_reducible repeat (first | refine sm7_ ?_ _ | refine sm8_ ?_ | refine sm9_ ?_ _)); exact BK356.out⟩, ⟨by (with_reducible repeat (first | refine sm7_ ?_ _ | refine sm8_ ?_ | refine sm9_ ?_ _)); refine blk_far ?_ NB357_380.out _; (with_reducible repeat (first | refine sm7_ ?_ _ | refine sm8_ ?_ | refine sm9_ ?_ _)); refine blk_far ?_ NB357_380.out _; (with_reducible repeat (first | refine sm7_ ?_ _ | refine sm8_ ?_ | refine sm9_ ?_ _)); refine blk_far ?_ NB357_380.out _; (with_reducible repeat (first | refine sm7_ ?_ _ | refine sm8_ ?_ | refine sm9_ ?_ _)); refine blk_far ?_ NB357_380.out _; (with_reducible repeat (first | refine sm7_ ?_ _ | refine sm8_ ?_ | refine sm9_ ?_ _)); exact BK357.out⟩, ⟨by (with_reducible repeat (first | refine sm7_ ?_ _ | refine sm8_ ?_ | refine sm9_ ?_ _)); refine blk_far ?_ NB358_380.out _; (with_reducible repeat (first | refine sm7_ ?_ _ | refine sm8_ ?_ | refine sm9_ ?_ _)); refine blk_far ?_ NB358_380.out _; (with_reducible repeat (first | refine sm7_ ?_ _ | refine sm8_ ?_ | refine sm9_ ?_ _)); refine blk_far ?_ NB358_380.out _; (with_reducible repeat (first | refine sm7_ ?_ _ | refine sm8_ ?_ | refine sm9_ ?_ _)); refine blk_far ?_ NB358_380.out _; (with_reducible repeat (first | refine sm7_ ?_ _ | refine sm8_ ?_ | refine sm9_ ?_ _)); exact BK358.out⟩, ⟨by (with_reducible repeat (first | refine sm7_ ?_ _ | refine sm8_ ?_ | refine sm9_ ?_ _)); refine blk_far ?_ NB369_380.out _; (with_reducible repeat (first | refine sm7_ ?_ _ | refine sm8_ ?_ | refine sm9_ ?_ _)); refine blk_far ?_ NB369_380.out _; (with_reducible repeat (first | refine sm7_ ?_ _ | refine sm8_ ?_ | refine sm9_ ?_ _)); refine blk_far ?_ NB369_380.out _; (with_reducible repeat (first | refine sm7_ ?_ _ | refine sm8_ ?_ | refine sm9_ ?_ _)); refine blk_far ?_ NB369_380.out _; (with_reducible repeat (first | refine sm7_ ?_ _ | refine sm8_ ?_ | refine sm9_ ?_ _)); exact BK369.out⟩, ⟨by (with_reducible repeat (first | refine sm7_ ?_ _ | refine sm8_ ?_ | refine sm9_ ?_ _)); refine blk_put (cs := #[.int .i64 t373, .bool t374, .string t375, .slice none 0 0]) ?_ 3 _ rfl; (with_reducible repeat (first | refine sm7_ ?_ _ | refine sm8_ ?_ | refine sm9_ ?_ _)); refine blk_put (cs := #[.int .i64 t373, .bool t374, .string (⟨#[]⟩ : ByteArray), .slice none 0 0]) ?_ 2 _ rfl; (with_reducible repeat (first | refine sm7_ ?_ _ | refine sm8_ ?_ | refine sm9_ ?_ _)); refine blk_put (cs := #[.int .i64 t373, .bool false, .string (⟨#[]⟩ : ByteArray), .slice none 0 0]) ?_ 1 _ rfl; (with_reducible repeat (first | refine sm7_ ?_ _ | refine sm8_ ?_ | refine sm9_ ?_ _)); refine blk_put (cs := #[.int .i64 0, .bool false, .string (⟨#[]⟩ : ByteArray), .slice none 0 0]) ?_ 0 _ rfl; (with_reducible repeat (first | refine sm7_ ?_ _ | refine sm8_ ?_ | refine sm9_ ?_ _)); exact BK380.out⟩, ⟨by repeat (first | (with_reducible first | exact HB.out | apply sm4_ | apply sl9_ | apply sm5_ | refine sn3_ ?_ GE356.out | refine sn3_ ?_ GE357.out | refine sn3_ ?_ GE358.out | refine sn3_ ?_ GE369.out | refine sn3_ ?_ GE380.out) | exact HB.out)⟩⟩
            · replace c60 := Bool.eq_false_iff.mpr c60
              subst c60; (have H1 : (laws_FnTrieUndo.j2 kj14 l0 a3 true 0 a1 a2 1 a1 0) = some r := by rw [if_neg (show ¬ (false = true) by decide)] at H; exact H); clear H; have H := H1; clear H1; have H' := A0_ H; clear H; (go_wp2); (go_meet)
              case rel => exact ⟨_, (true), (by first | rfl | (simp; done) | (simp [*]; done)), H', ⟨by have := HJ4.out; have := HJ14.out; first | omega | exact Nat.le_refl _⟩, ⟨by (with_reducible repeat (first | apply sm2_ | apply sm1_ | apply sm3_)); exact Kd.R_mono (Kd.R_far (p := ⟨gb380, 3, none⟩) (Kd.R_far (p := ⟨gb380, 2, none⟩) (Kd.R_far (p := ⟨gb380, 1, none⟩) (Kd.R_far (p := ⟨gb380, 0, none⟩) (Kd.R_types HO_357003.out BK380.out (by decide)) (fun _ hk => hk.2) (.int .i64 t373)) (fun _ hk => hk.2) (.bool t374)) (fun _ hk => hk.2) (.string t375)) (fun _ hk => hk.2) (.slice Ao59 t376.length co59)) (fun _ hk => ⟨hk.1.1.2, hk.1.2⟩)⟩, ⟨by (with_reducible repeat (first | apply sm2_ | apply sm1_ | apply sm3_)); exact Kd.R_mono (Kd.R_far (p := ⟨gb380, 3, none⟩) (Kd.R_far (p := ⟨gb380, 2, none⟩) (Kd.R_far (p := ⟨gb380, 1, none⟩) (Kd.R_far (p := ⟨gb380, 0, none⟩) (Kd.R_types HO367.out BK380.out (by decide)) (fun _ hk => hk.2) (.int .i64 t373)) (fun _ hk => hk.2) (.bool t374)) (fun _ hk => hk.2) (.string t375)) (fun _ hk => hk.2) (.slice Ao59 t376.length co59)) (fun _ hk => ⟨hk.1.1.2, hk.1.2⟩)⟩, ⟨by (with_reducible repeat (first | apply sm2_ | apply sm1_ | apply sm3_)); exact Kd.R_mono (Kd.R_far (p := ⟨gb380, 3, none⟩) (Kd.R_far (p := ⟨gb380, 2, none⟩) (Kd.R_far (p := ⟨gb380, 1, none⟩) (Kd.R_far (p := ⟨gb380, 0, none⟩) (Kd.R_types HO378.out BK380.out (by decide)) (fun _ hk => hk.2) (.int .i64 t373)) (fun _ hk => hk.2) (.bool t374)) (fun _ hk => hk.2) (.string t375)) (fun _ hk => hk.2) (.slice Ao59 t376.length co59)) (fun _ hk => ⟨hk.1.1.2, hk.1.2⟩)⟩, ⟨by (with_reducible repeat (first | refine sm7_ ?_ _ | refine sm8_ ?_ | refine sm9_ ?_ _)); refine blk_far ?_ NB356_380.out _; (with_reducible repeat (first | refine sm7_ ?_ _ | refine sm8_ ?_ | refine sm9_ ?_ _)); refine blk_far ?_ NB356_380.out _; (with_reducible repeat (first | refine sm7_ ?_ _ | refine sm8_ ?_ | refine sm9_ ?_ _)); refine blk_far ?_ NB356_380.out _; (with_reducible repeat (first | refine sm7_ ?_ _ | refine sm8_ ?_ | refine sm9_ ?_ _)); refine blk_far ?_ NB356_380.out _; (with_reducible repeat (first | refine sm7_ ?_ _ | refine sm8_ ?_ | refine sm9_ ?_ _)); exact BK356.out⟩, ⟨by (with_reducible repeat (first | refine sm7_ ?_ _ | refine sm8_ ?_ | refine sm9_ ?_ _)); refine blk_far ?_ NB357_380.out _; (with_reducible repeat (first | refine sm7_ ?_ _ | refine sm8_ ?_ | refine sm9_ ?_ _)); refine blk_far ?_ NB357_380.out _; (with_reducible repeat (first | refine sm7_ ?_ _ | refine sm8_ ?_ | refine sm9_ ?_ _)); refine blk_far ?_ NB357_380.out _; (with_reducible repeat (first | refine sm7_ ?_ _ | refine sm8_ ?_ | refine sm9_ ?_ _)); refine blk_far ?_ NB357_380.out _; (with_reducible repeat (first | refine sm7_ ?_ _ | refine sm8_ ?_ | refine sm9_ ?_ _)); exact BK357.out⟩, ⟨by (with_reducible repeat (first | refine sm7_ ?_ _ | refine sm8_ ?_ | refine sm9_ ?_ _)); refine blk_far ?_ NB358_380.out _; (with_reducible repeat (first | refine sm7_ ?_ _ | refine sm8_ ?_ | refine sm9_ ?_ _)); refine blk_far ?_ NB358_380.out _; (with_reducible repeat (first | refine sm7_ ?_ _ | refine sm8_ ?_ | refine sm9_ ?_ _)); refine blk_far ?_ NB358_380.out _; (with_reducible repeat (first | refine sm7_ ?_ _ | refine sm8_ ?_ | refine sm9_ ?_ _)); refine blk_far ?_ NB358_380.out _; (with_reducible repeat (first | refine sm7_ ?_ _ | refine sm8_ ?_ | refine sm9_ ?_ _)); exact BK358.out⟩, ⟨by (with_reducible repeat (first | refine sm7_ ?_ _ | refine sm8_ ?_ | refine sm9_ ?_ _)); refine blk_far ?_ NB369_380.out _; (with_reducible repeat (first | refine sm7_ ?_ _ | refine sm8_ ?_ | refine sm9_ ?_ _)); refine blk_far ?_ NB369_380.out _; (with_reducible repeat (first | refine sm7_ ?_ _ | refine sm8_ ?_ | refine sm9_ ?_ _)); refine blk_far ?_ NB369_380.out _; (with_reducible repeat (first | refine sm7_ ?_ _ | refine sm8_ ?_ | refine sm9_ ?_ _)); refine blk_far ?_ NB369_380.out _; (with_reducible repeat (first | refine sm7_ ?_ _ | refine sm8_ ?_ | refine sm9_ ?_ _)); exact BK369.out⟩, ⟨by (with_reducible repeat (first | refine sm7_ ?_ _ | refine sm8_ ?_ | refine sm9_ ?_ _)); refine blk_put (cs := #[.int .i64 t373, .bool t374, .string t375, .slice none 0 0]) ?_ 3 _ rfl; (with_reducible repeat (first | refine sm7_ ?_ _ | refine sm8_ ?_ | refine sm9_ ?_ _)); refine blk_put (cs := #[.int .i64 t373, .bool t374, .string (⟨#[]⟩ : ByteArray), .slice none 0 0]) ?_ 2 _ rfl; (with_reducible repeat (first | refine sm7_ ?_ _ | refine sm8_ ?_ | refine sm9_ ?_ _)); refine blk_put (cs := #[.int .i64 t373, .bool false, .string (⟨#[]⟩ : ByteArray), .slice none 0 0]) ?_ 1 _ rfl; (with_reducible repeat (first | refine sm7_ ?_ _ | refine sm8_ ?_ | refine sm9_ ?_ _)); refine blk_put (cs := #[.int .i64 0, .bool false, .string (⟨#[]⟩ : ByteArray), .slice none 0 0]) ?_ 0 _ rfl; (with_reducible repeat (first | refine sm7_ ?_ _ | refine sm8_ ?_ | refine sm9_ ?_ _)); exact BK380.out⟩, ⟨by repeat (first | (with_reducible first | exact HB.out | apply sm4_ | apply sl9_ | apply sm5_ | refine sn3_ ?_ GE356.out | refine sn3_ ?_ GE357.out | refine sn3_ ?_ GE358.out | refine sn3_ ?_ GE369.out | refine sn3_ ?_ GE380.out) | exact HB.out)⟩⟩
           case rest =>
            clear HC29; (try clear c1); (try clear c2); (try clear p2); (try clear c3); (try clear c4); (try clear c5); (try clear c6); (try clear c7); (try clear c8); (try clear c8b0); (try clear c8b1); (try clear c9); (try clear c10); (try clear c12); (try clear c14); (try clear c23); (try clear c26); (try clear c32); (try clear c33); (try clear c35); (try clear c42); (try clear c43); (try clear c44); (try clear c54); (try clear c55); (try clear c56); (try clear c57); (try clear c60); (try clear c61); (try clear c62); (try clear c63); (try clear c63b0); (try clear c63b1); (try clear c64); (try clear c65); (try clear c66); (try clear c67); (try clear c69); (try clear c70); (try clear c71); (try clear c73); (try clear c74); (try clear c75); (try clear c76); (try clear c78); (try clear c79); (try clear c80); (try clear c81); (try clear hcz21_0); (try clear hcz21_1); (try clear hcz21_2); (try clear hcz21_3); (try clear hcz24_0); (try clear hcz24_1); (try clear hcz24_2); (try clear hcz24_3); (try clear hcz25_0); (try clear hcz25_1); (try clear hcz25_2); (try clear hcz25_3); (try clear hcz34_0); (try clear hcz34_1); (try clear hcz34_2); (try clear hcz36_0); (try clear hcz36_1); (try clear hcz36_2); (try clear hcz45_0); (try clear hcz45_1); (try clear hcz45_2); (try clear hcz45_3); (try clear hcz47_0); (try clear hcz47_1); (try clear hcz47_2); (try clear hcz48_0); (try clear hcz48_1); (try clear hcz48_2); (try clear hcz58_0); (try clear hcz58_1); (try clear hcz58_2); (try clear hcz58_3); (try clear hcz68_0); (try clear hcz68_1); (try clear hcz68_2); (try clear hcz68_3); (try clear hcz72_0); (try clear hcz72_1); (try clear hcz72_2); (try clear hcz72_3); (try clear hcz77_0); (try clear hcz77_1); (try clear hcz77_2); (try clear hcz77_3); (try clear hcz82_0); (try clear hcz82_1); (try clear hcz82_2); (try clear hcz82_3); (try clear hfz21_0); (try clear hfz21_1); (try clear hfz21_2); (try clear hfz21_3); (try clear hfz24_0); (try clear hfz24_1); (try clear hfz24_2); (try clear hfz24_3); (try clear hfz25_0); (try clear hfz25_1); (try clear hfz25_2); (try clear hfz25_3); (try clear hfz34_0); (try clear hfz34_1); (try clear hfz34_2); (try clear hfz36_0); (try clear hfz36_1); (try clear hfz36_2); (try clear hfz45_0); (try clear hfz45_1); (try clear hfz45_2); (try clear hfz45_3); (try clear hfz47_0); (try clear hfz47_1); (try clear hfz47_2); (try clear hfz48_0); (try clear hfz48_1); (try clear hfz48_2); (try clear hfz58_0); (try clear hfz58_1); (try clear hfz58_2); (try clear hfz58_3); (try clear hfz68_0); (try clear hfz68_1); (try clear hfz68_2); (try clear hfz68_3); (try clear hfz72_0); (try clear hfz72_1); (try clear hfz72_2); (try clear hfz72_3); (try clear hfz77_0); (try clear hfz77_1); (try clear hfz77_2); (try clear hfz77_3); (try clear hfz82_0); (try clear hfz82_1); (try clear hfz82_2); (try clear hfz82_3); (try clear p2); obtain ⟨kq, x95_28, rfl, HA, HJ28, HO_357003, HO_370003, HO_381003, BK356, BK357, BK358, BK369, BK380, HB⟩ := hcut
            cases kq with
            | zero => exact absurd HA.out (by simp [laws_FnTrieUndo.j2])
            | succ kj28 =>
             have H := HA.out; clear HA; (simp only [laws_FnTrieUndo.j2] at H); (by_cases c83 : x95_28 = true)
             · subst c83
               (have H1 : (none) = some r := by rw [if_pos rfl] at H; exact H); exact absurd H1 (by simp)
             · replace c83 := Bool.eq_false_iff.mpr c83
               subst c83; (have H1 : (laws_FnTrieUndo.l0 kj28 l0 a3 2 0 a1 a2 1 a1 0) = some r := by rw [if_neg (show ¬ (false = true) by decide)] at H; exact H); clear H; have H := H1; clear H1; have H' := A0_ H; clear H; (go_wp2); (go_loopg [17] kj28 (fun kq v17 w' => ∃ (x17_4 : Int), v17 = .int .i64 x17_4 ∧ Aside0 (laws_FnTrieUndo.l0 kq l0 a3 x17_4 0 a1 a2 1 a1 0 = some r) ∧ Aside0 (kq ≤ kj28) ∧ Aside0 (Kd.R Kd.string 9 w' w.heap.size (fun k_ => some k_ ≠ ((.slice Ao46 t365.length co46) : Value).ownBlock ∧ some k_ ≠ ((.slice Ao59 t376.length co59) : Value).ownBlock) (.slice Ao22 t352.length co22) t352) ∧ Aside0 (Kd.R Kd.string 9 w' w.heap.size (fun k_ => some k_ ≠ ((.slice Ao22 t352.length co22) : Value).ownBlock ∧ some k_ ≠ ((.slice Ao59 t376.length co59) : Value).ownBlock) (.slice Ao46 t365.length co46) t365) ∧ Aside0 (Kd.R Kd.string 9 w' w.heap.size (fun k_ => some k_ ≠ ((.slice Ao22 t352.length co22) : Value).ownBlock ∧ some k_ ≠ ((.slice Ao46 t365.length co46) : Value).ownBlock) (.slice Ao59 t376.length co59) t376) ∧ Aside0 (w'.heap[gb356]? = some (.cells #[.int .i64 t349, .bool t350, .string t351, (.slice Ao22 t352.length co22)] 26 (0, 0))) ∧ Aside0 (w'.heap[gb357]? = some (.cells #[.int .i64 0, .string a1, .int .i64 a2] 30 (0, 0))) ∧ Aside0 (w'.heap[gb358]? = some (.cells #[.int .i64 1, .string a1, .int .i64 0] 30 (0, 0))) ∧ Aside0 (w'.heap[gb369]? = some (.cells #[.int .i64 t362, .bool t363, .string t364, (.slice Ao46 t365.length co46)] 26 (0, 0))) ∧ Aside0 (w'.heap[gb380]? = some (.cells #[.int .i64 t373, .bool t374, .string t375, (.slice Ao59 t376.length co59)] 26 (0, 0))) ∧ Aside0 (Below w.heap.size w w')))
               case atStart => exact ⟨(2), (by first | rfl | (simp; done) | (simp [*]; done)), H', ⟨Nat.le_refl _⟩, ⟨by (with_reducible repeat (first | apply sm2_ | apply sm1_ | apply sm3_)); exact HO_357003.out⟩, ⟨by (with_reducible repeat (first | apply sm2_ | apply sm1_ | apply sm3_)); exact HO_370003.out⟩, ⟨by (with_reducible repeat (first | apply sm2_ | apply sm1_ | apply sm3_)); exact HO_381003.out⟩, ⟨by (with_reducible repeat (first | refine sm7_ ?_ _ | refine sm8_ ?_ | refine sm9_ ?_ _)); exact BK356.out⟩, ⟨by (with_reducible repeat (first | refine sm7_ ?_ _ | refine sm8_ ?_ | refine sm9_ ?_ _)); exact BK357.out⟩, ⟨by (with_reducible repeat (first | refine sm7_ ?_ _ | refine sm8_ ?_ | refine sm9_ ?_ _)); exact BK358.out⟩, ⟨by (with_reducible repeat (first | refine sm7_ ?_ _ | refine sm8_ ?_ | refine sm9_ ?_ _)); exact BK369.out⟩, ⟨by (with_reducible repeat (first | refine sm7_ ?_ _ | refine sm8_ ?_ | refine sm9_ ?_ _)); exact BK380.out⟩, ⟨by repeat (first | (with_reducible first | exact HB.out | apply sm4_ | apply sl9_ | apply sm5_ | refine sn3_ ?_ GE356.out | refine sn3_ ?_ GE357.out | refine sn3_ ?_ GE358.out | refine sn3_ ?_ GE369.out | refine sn3_ ?_ GE380.out) | exact HB.out)⟩⟩
               case round =>
                clear H'; (try clear c1); (try clear c2); (try clear p2); (try clear c3); (try clear c4); (try clear c5); (try clear c6); (try clear c7); (try clear c8); (try clear c8b0); (try clear c8b1); (try clear c9); (try clear c10); (try clear c12); (try clear c14); (try clear c23); (try clear c26); (try clear c32); (try clear c33); (try clear c35); (try clear c42); (try clear c43); (try clear c44); (try clear c54); (try clear c55); (try clear c56); (try clear c57); (try clear c60); (try clear c61); (try clear c62); (try clear c63); (try clear c63b0); (try clear c63b1); (try clear c64); (try clear c65); (try clear c66); (try clear c67); (try clear c69); (try clear c70); (try clear c71); (try clear c73); (try clear c74); (try clear c75); (try clear c76); (try clear c78); (try clear c79); (try clear c80); (try clear c81); (try clear c83); (try clear hcz21_0); (try clear hcz21_1); (try clear hcz21_2); (try clear hcz21_3); (try clear hcz24_0); (try clear hcz24_1); (try clear hcz24_2); (try clear hcz24_3); (try clear hcz25_0); (try clear hcz25_1); (try clear hcz25_2); (try clear hcz25_3); (try clear hcz34_0); (try clear hcz34_1); (try clear hcz34_2); (try clear hcz36_0); (try clear hcz36_1); (try clear hcz36_2); (try clear hcz45_0); (try clear hcz45_1); (try clear hcz45_2); (try clear hcz45_3); (try clear hcz47_0); (try clear hcz47_1); (try clear hcz47_2); (try clear hcz48_0); (try clear hcz48_1); (try clear hcz48_2); (try clear hcz58_0); (try clear hcz58_1); (try clear hcz58_2); (try clear hcz58_3); (try clear hcz68_0); (try clear hcz68_1); (try clear hcz68_2); (try clear hcz68_3); (try clear hcz72_0); (try clear hcz72_1); (try clear hcz72_2); (try clear hcz72_3); (try clear hcz77_0); (try clear hcz77_1); (try clear hcz77_2); (try clear hcz77_3); (try clear hcz82_0); (try clear hcz82_1); (try clear hcz82_2); (try clear hcz82_3); (try clear hfz21_0); (try clear hfz21_1); (try clear hfz21_2); (try clear hfz21_3); (try clear hfz24_0); (try clear hfz24_1); (try clear hfz24_2); (try clear hfz24_3); (try clear hfz25_0); (try clear hfz25_1); (try clear hfz25_2); (try clear hfz25_3); (try clear hfz34_0); (try clear hfz34_1); (try clear hfz34_2); (try clear hfz36_0); (try clear hfz36_1); (try clear hfz36_2); (try clear hfz45_0); (try clear hfz45_1); (try clear hfz45_2); (try clear hfz45_3); (try clear hfz47_0); (try clear hfz47_1); (try clear hfz47_2); (try clear hfz48_0); (try clear hfz48_1); (try clear hfz48_2); (try clear hfz58_0); (try clear hfz58_1); (try clear hfz58_2); (try clear hfz58_3); (try clear hfz68_0); (try clear hfz68_1); (try clear hfz68_2); (try clear hfz68_3); (try clear hfz72_0); (try clear hfz72_1); (try clear hfz72_2); (try clear hfz72_3); (try clear hfz77_0); (try clear hfz77_1); (try clear hfz77_2); (try clear hfz77_3); (try clear hfz82_0); (try clear hfz82_1); (try clear hfz82_2); (try clear hfz82_3); (try clear p2); obtain ⟨x17_4, rfl, HA, HK4, HO_357003, HO_370003, HO_381003, BK356, BK357, BK358, BK369, BK380, HB⟩ := hrel
                cases gk with
                | zero => exact absurd HA.out (by simp [laws_FnTrieUndo.l0])
                | succ k4 =>
                 have H := HA.out; clear HA; (simp only [laws_FnTrieUndo.l0] at H); (by_cases c84 : x17_4 ≤ 7)
                 · rw [if_pos c84] at H
                   have c84b0 : decide (x17_4 ≤ 7) = true := decide_eq_true c84; clear c84; obtain ⟨y381, hy381⟩ : ∃ y_ : List (S30), y_ = (([(⟨x17_4, a3, 0⟩ : S30)] : List (S30))) := ⟨_, rfl⟩; (replace H : ((laws_wordLast.f l0 y381).bind fun bt384 => ((laws_wordLast.f l0 (([(⟨0, a1, a2⟩ : S30), (⟨1, a1, 0⟩ : S30), (⟨x17_4, a3, 0⟩ : S30)] : List (S30)))).bind fun bt395 => (if bt384.2.2.2.2 = true then (if bt395.2.2.2.2 = true then ((spec_Removed.f k4 l0).bind fun t403 => ((laws_wordSame.f k4 x17_4 bt384.1 bt384.2.1 bt384.2.2.1 bt384.2.2.2.1 bt395.1 bt395.2.1 bt395.2.2.1 bt395.2.2.2.1 t403).bind fun t404 => (if t404 = true then (laws_FnTrieUndo.l0 k4 l0 a3 (wrap64 (x17_4 + 1)) 0 a1 a2 1 a1 0) else (none)))) else (none)) else (none)))) = some r := by first | (rw [hy381]; with_reducible exact H) | (have H2_ := (obs_).symm.trans H; rw [hy381]; with_reducible exact H2_) | (have H2_ := (obs_).symm.trans H; with_reducible exact H2_) | with_reducible exact H | (rw [hy381]; exact H) | exact H); have Ny381 := A0_ hy381; clear hy381; replace H := Option.bind_eq_some_iff.mp H; obtain ⟨⟨t384, t385, t386, t387, t390⟩, A850, H⟩ := H; replace H : ((laws_wordLast.f l0 (([(⟨0, a1, a2⟩ : S30), (⟨1, a1, 0⟩ : S30), (⟨x17_4, a3, 0⟩ : S30)] : List (S30)))).bind fun bt395 => (if t390 = true then (if bt395.2.2.2.2 = true then ((spec_Removed.f k4 l0).bind fun t403 => ((laws_wordSame.f k4 x17_4 t384 t385 t386 t387 bt395.1 bt395.2.1 bt395.2.2.1 bt395.2.2.2.1 t403).bind fun t404 => (if t404 = true then (laws_FnTrieUndo.l0 k4 l0 a3 (wrap64 (x17_4 + 1)) 0 a1 a2 1 a1 0) else (none)))) else (none)) else (none))) = some r := H; have A85 := A0_ A850; clear A850; obtain ⟨y392, hy392⟩ : ∃ y_ : List (S30), y_ = (([(⟨0, a1, a2⟩ : S30), (⟨1, a1, 0⟩ : S30), (⟨x17_4, a3, 0⟩ : S30)] : List (S30))) := ⟨_, rfl⟩; (replace H : ((laws_wordLast.f l0 y392).bind fun bt395 => (if t390 = true then (if bt395.2.2.2.2 = true then ((spec_Removed.f k4 l0).bind fun t403 => ((laws_wordSame.f k4 x17_4 t384 t385 t386 t387 bt395.1 bt395.2.1 bt395.2.2.1 bt395.2.2.2.1 t403).bind fun t404 => (if t404 = true then (laws_FnTrieUndo.l0 k4 l0 a3 (wrap64 (x17_4 + 1)) 0 a1 a2 1 a1 0) else (none)))) else (none)) else (none))) = some r := by first | (rw [hy392]; with_reducible exact H) | (have H2_ := (obs_).symm.trans H; rw [hy392]; with_reducible exact H2_) | (have H2_ := (obs_).symm.trans H; with_reducible exact H2_) | with_reducible exact H | (rw [hy392]; exact H) | exact H); have Ny392 := A0_ hy392; clear hy392; replace H := Option.bind_eq_some_iff.mp H; obtain ⟨⟨t395, t396, t397, t398, t401⟩, A860, H⟩ := H; replace H : (if t390 = true then (if t401 = true then ((spec_Removed.f k4 l0).bind fun t403 => ((laws_wordSame.f k4 x17_4 t384 t385 t386 t387 t395 t396 t397 t398 t403).bind fun t404 => (if t404 = true then (laws_FnTrieUndo.l0 k4 l0 a3 (wrap64 (x17_4 + 1)) 0 a1 a2 1 a1 0) else (none)))) else (none)) else (none)) = some r := H; have A86 := A0_ A860; clear A860; (by_cases c87 : t390 = true)
                   · subst c87
                     (have H1 : (if t401 = true then ((spec_Removed.f k4 l0).bind fun t403 => ((laws_wordSame.f k4 x17_4 t384 t385 t386 t387 t395 t396 t397 t398 t403).bind fun t404 => (if t404 = true then (laws_FnTrieUndo.l0 k4 l0 a3 (wrap64 (x17_4 + 1)) 0 a1 a2 1 a1 0) else (none)))) else (none)) = some r := by rw [if_pos rfl] at H; exact H); clear H; have H := H1; clear H1; (by_cases c88 : t401 = true)
                     · subst c88
                       (have H1 : ((spec_Removed.f k4 l0).bind fun t403 => ((laws_wordSame.f k4 x17_4 t384 t385 t386 t387 t395 t396 t397 t398 t403).bind fun t404 => (if t404 = true then (laws_FnTrieUndo.l0 k4 l0 a3 (wrap64 (x17_4 + 1)) 0 a1 a2 1 a1 0) else (none)))) = some r := by rw [if_pos rfl] at H; exact H); clear H; have H := H1; clear H1; replace H := Option.bind_eq_some_iff.mp H; obtain ⟨t403, A890, H⟩ := H; replace H : ((laws_wordSame.f k4 x17_4 t384 t385 t386 t387 t395 t396 t397 t398 t403).bind fun t404 => (if t404 = true then (laws_FnTrieUndo.l0 k4 l0 a3 (wrap64 (x17_4 + 1)) 0 a1 a2 1 a1 0) else (none))) = some r := H; have A89 := A0_ A890; clear A890; replace H := Option.bind_eq_some_iff.mp H; obtain ⟨t404, A900, H⟩ := H; replace H : (if t404 = true then (laws_FnTrieUndo.l0 k4 l0 a3 (wrap64 (x17_4 + 1)) 0 a1 a2 1 a1 0) else (none)) = some r := H; have A90 := A0_ A900; clear A900; (by_cases c91 : t404 = true)
                       · subst c91
                         (have H1 : (laws_FnTrieUndo.l0 k4 l0 a3 (wrap64 (x17_4 + 1)) 0 a1 a2 1 a1 0) = some r := by rw [if_pos rfl] at H; exact H); clear H; have H := H1; clear H1; have H' := A0_ H; clear H; (try go_wp2_with (first | ((with_reducible refine sp1_ (N := 105) rfl ?_); (try (refine gate_guard (by rfl) ?_; dsimp only)); refine Kd.R_lit k30 _ 30 ?hg (N := 105) ?hd (xs := ([(⟨x17_4, a3, 0⟩ : S30)] : List (S30))) (inner := [.int .i64 x17_4, .string a3, .int .i64 0]) (ok := fun _ => True) (okp := fun _ => True) ?hr ?hp (fun _ hk => hk) trivial (Below.refl _ _) (Nat.le_refl _) (by simp) ?_; (case hd => rfl); (case hg => rfl); (case hr => first | (go_simp; done) | (go_simp; rfl)); (case hp => exact (Reps.c3 (show Kd.M k30 _ _ _ (⟨x17_4, a3, 0⟩ : S30) [.int .i64 x17_4, .string a3, .int .i64 0] from (k30_mkM _ _ _ (⟨x17_4, a3, 0⟩ : S30) )) (Reps.none _ _))); intro v382 w92 ho93 hb hg_ hnew_; clear hg_ hnew_; (first | rw [← Ny381.out] at ho93 | (simp only [Int.reduceToNat] at ho93; rw [← Ny381.out] at ho93)); have n0_ := A0_ (Kd.R_below (kr_ HO_357003.out) hb); have n1_ := A0_ (Kd.R_below (kr_ HO_370003.out) hb); have n2_ := A0_ (Kd.R_below (kr_ HO_381003.out) hb); have n3_ := A0_ (Kd.R_lower (Kd.R_newB (Kd.R_newB ho93 (g := gb357) (o := .cells #[.int .i64 0, .string a1, .int .i64 a2] 30 (0, 0)) (kb_ BK357.out)) (g := gb358) (o := .cells #[.int .i64 1, .string a1, .int .i64 0] 30 (0, 0)) (kb_ BK358.out)) (sn1_ (kw5_ HB.out GE356.out GE357.out GE358.out GE369.out GE380.out))); have n4_ := A0_ (sn4_ (g := gb356) (o := .cells #[.int .i64 t349, .bool t350, .string t351, .slice Ao22 t352.length co22] 26 (0, 0)) (kb_ BK356.out) hb); have n5_ := A0_ (sn4_ (g := gb357) (o := .cells #[.int .i64 0, .string a1, .int .i64 a2] 30 (0, 0)) (kb_ BK357.out) hb); have n6_ := A0_ (sn4_ (g := gb358) (o := .cells #[.int .i64 1, .string a1, .int .i64 0] 30 (0, 0)) (kb_ BK358.out) hb); have n7_ := A0_ (sn4_ (g := gb369) (o := .cells #[.int .i64 t362, .bool t363, .string t364, .slice Ao46 t365.length co46] 26 (0, 0)) (kb_ BK369.out) hb); have n8_ := A0_ (sn4_ (g := gb380) (o := .cells #[.int .i64 t373, .bool t374, .string t375, .slice Ao59 t376.length co59] 26 (0, 0)) (kb_ BK380.out) hb); have n9_ := A0_ (sn2_ (kw5_ HB.out GE356.out GE357.out GE358.out GE369.out GE380.out) hb); clear HO_357003; clear HO_370003; clear HO_381003; clear BK356; clear BK357; clear BK358; clear BK369; clear BK380; clear HB; have HO_357003 := n0_; have HO_370003 := n1_; have HO_381003 := n2_; have HO383 := n3_; have BK356 := n4_; have BK357 := n5_; have BK358 := n6_; have BK369 := n7_; have BK380 := n8_; have HB := n9_; clear n0_ n1_ n2_ n3_ n4_ n5_ n6_ n7_ n8_ n9_; clear hb ho93; obtain ⟨Ao94, co94, eo94⟩ := Kd.R_slice HO383.out; subst eo94) | ((with_reducible refine gate_callee (f := 10) rfl ?_); refine goesL_ (some 106) rfl rfl Try.func10 (by kernel_rfl) rfl #[.slice A0 l0.length c0, .slice Ao94 y381.length co94] rfl (by (try simp only [List.map_toArray, List.map_cons, List.map_nil]); first | done | rfl | (simp only [List.length_drop, sp2_]; rfl)) ?_; (with_reducible refine (laws_wordLast.calls _ _ l0 _ _ y381 t384 t385 t386 t387 true _ ?side1 ?side2 ?side3 ?side4 A85.out).mono ?_); (case side1 => repeat (first | exact (Kd.C_below HR0.out HB.out) | (with_reducible refine sp8_ ?_ _) | (with_reducible refine sp9_ ?_ _) | (with_reducible refine sq1_ ?_))); (case side2 => exact HC0.out); (case side3 => repeat (first | exact (Kd.R_reads' HO383.out).2.2 | (with_reducible refine sp8_ ?_ _) | (with_reducible refine sp9_ ?_ _) | (with_reducible refine sq1_ ?_))); (case side4 => exact (Kd.R_reads' HO383.out).2.1); rintro e w95 ⟨v388, rfl, ho0, hb⟩; refine ⟨_, rfl, ?_⟩; have n0_ := A0_ (Kd.R_elder' (kr_ HO_357003.out) (Kd.R_base ho0) hb); have n1_ := A0_ (Kd.R_elder' (kr_ HO_370003.out) (Kd.R_base ho0) hb); have n2_ := A0_ (Kd.R_elder' (kr_ HO_381003.out) (Kd.R_base ho0) hb); have n3_ := A0_ (Kd.R_below (kr_ HO383.out) hb); have n4_ := A0_ (Kd.R_lower (Kd.R_new' (Kd.R_new' (Kd.R_new' ho0 (Kd.R_lt (kr_ HO_357003.out))) (Kd.R_lt (kr_ HO_370003.out))) (Kd.R_lt (kr_ HO_381003.out))) (sn1_ (kw5_ HB.out GE356.out GE357.out GE358.out GE369.out GE380.out))); have n5_ := A0_ (sn4_ (g := gb356) (o := .cells #[.int .i64 t349, .bool t350, .string t351, .slice Ao22 t352.length co22] 26 (0, 0)) (kb_ BK356.out) hb); have n6_ := A0_ (sn4_ (g := gb357) (o := .cells #[.int .i64 0, .string a1, .int .i64 a2] 30 (0, 0)) (kb_ BK357.out) hb); have n7_ := A0_ (sn4_ (g := gb358) (o := .cells #[.int .i64 1, .string a1, .int .i64 0] 30 (0, 0)) (kb_ BK358.out) hb); have n8_ := A0_ (sn4_ (g := gb369) (o := .cells #[.int .i64 t362, .bool t363, .string t364, .slice Ao46 t365.length co46] 26 (0, 0)) (kb_ BK369.out) hb); have n9_ := A0_ (sn4_ (g := gb380) (o := .cells #[.int .i64 t373, .bool t374, .string t375, .slice Ao59 t376.length co59] 26 (0, 0)) (kb_ BK380.out) hb); have n10_ := A0_ (sn2_ (kw5_ HB.out GE356.out GE357.out GE358.out GE369.out GE380.out) hb); clear HO_357003; clear HO_370003; clear HO_381003; clear HO383; clear BK356; clear BK357; clear BK358; clear BK369; clear BK380; clear HB; have HO_357003 := n0_; have HO_370003 := n1_; have HO_381003 := n2_; have HO383 := n3_; have HO389 := n4_; have BK356 := n5_; have BK357 := n6_; have BK358 := n7_; have BK369 := n8_; have BK380 := n9_; have HB := n10_; clear n0_ n1_ n2_ n3_ n4_ n5_ n6_ n7_ n8_ n9_ n10_; (try clear hb); (try clear hb2); (try clear hk); (try clear hi); (try clear ho0)) | ((with_reducible refine sp1_ (N := 18) rfl ?_); (try (refine gate_guard (by rfl) ?_; dsimp only)); refine sn9_ ?hg (N := 18) ?hd (cs := #[.int .i64 0, .bool false, .string (⟨#[]⟩ : ByteArray), .slice none 0 0]) (t := 26) ?hr ?_; (case hd => rfl); (case hg => rfl); (case hr => first | (go_simp; done) | (go_simp; rfl)); intro gb391 hg w96 hbox hb; have n0_ := A0_ (Kd.R_below (kr_ HO_357003.out) hb); have n1_ := A0_ (Kd.R_below (kr_ HO_370003.out) hb); have n2_ := A0_ (Kd.R_below (kr_ HO_381003.out) hb); have n3_ := A0_ (Kd.R_below (kr_ HO383.out) hb); have n4_ := A0_ (Kd.R_below (kr_ HO389.out) hb); have n5_ := A0_ (sn4_ (g := gb356) (o := .cells #[.int .i64 t349, .bool t350, .string t351, .slice Ao22 t352.length co22] 26 (0, 0)) (kb_ BK356.out) hb); have n6_ := A0_ (sn4_ (g := gb357) (o := .cells #[.int .i64 0, .string a1, .int .i64 a2] 30 (0, 0)) (kb_ BK357.out) hb); have n7_ := A0_ (sn4_ (g := gb358) (o := .cells #[.int .i64 1, .string a1, .int .i64 0] 30 (0, 0)) (kb_ BK358.out) hb); have n8_ := A0_ (sn4_ (g := gb369) (o := .cells #[.int .i64 t362, .bool t363, .string t364, .slice Ao46 t365.length co46] 26 (0, 0)) (kb_ BK369.out) hb); have n9_ := A0_ (sn4_ (g := gb380) (o := .cells #[.int .i64 t373, .bool t374, .string t375, .slice Ao59 t376.length co59] 26 (0, 0)) (kb_ BK380.out) hb); have n10_ := A0_ (sn2_ (kw5_ HB.out GE356.out GE357.out GE358.out GE369.out GE380.out) hb); have n11_ := A0_ (hbox); have n12_ := A0_ ((by rw [hg]; exact (sn1_ (kw5_ HB.out GE356.out GE357.out GE358.out GE369.out GE380.out)) : w.heap.size ≤ gb391)); have n13_ := A0_ ((by rw [hg]; exact (sn1_ (kw5_ HB.out GE356.out GE357.out GE358.out GE369.out GE380.out)) : w.heap.size ≤ gb391)); have n14_ := A0_ ((by rw [hg]; exact sl5_ (blk_lt (g := gb356) (o := .cells #[.int .i64 t349, .bool t350, .string t351, .slice Ao22 t352.length co22] 26 (0, 0)) (kb_ BK356.out)) : gb356 ≠ gb391)); have n15_ := A0_ ((by rw [hg]; exact sn8_ (blk_lt (g := gb356) (o := .cells #[.int .i64 t349, .bool t350, .string t351, .slice Ao22 t352.length co22] 26 (0, 0)) (kb_ BK356.out)) : gb391 ≠ gb356)); have n16_ := A0_ ((by rw [hg]; exact sl5_ (blk_lt (g := gb357) (o := .cells #[.int .i64 0, .string a1, .int .i64 a2] 30 (0, 0)) (kb_ BK357.out)) : gb357 ≠ gb391)); have n17_ := A0_ ((by rw [hg]; exact sn8_ (blk_lt (g := gb357) (o := .cells #[.int .i64 0, .string a1, .int .i64 a2] 30 (0, 0)) (kb_ BK357.out)) : gb391 ≠ gb357)); have n18_ := A0_ ((by rw [hg]; exact sl5_ (blk_lt (g := gb358) (o := .cells #[.int .i64 1, .string a1, .int .i64 0] 30 (0, 0)) (kb_ BK358.out)) : gb358 ≠ gb391)); have n19_ := A0_ ((by rw [hg]; exact sn8_ (blk_lt (g := gb358) (o := .cells #[.int .i64 1, .string a1, .int .i64 0] 30 (0, 0)) (kb_ BK358.out)) : gb391 ≠ gb358)); have n20_ := A0_ ((by rw [hg]; exact sl5_ (blk_lt (g := gb369) (o := .cells #[.int .i64 t362, .bool t363, .string t364, .slice Ao46 t365.length co46] 26 (0, 0)) (kb_ BK369.out)) : gb369 ≠ gb391)); have n21_ := A0_ ((by rw [hg]; exact sn8_ (blk_lt (g := gb369) (o := .cells #[.int .i64 t362, .bool t363, .string t364, .slice Ao46 t365.length co46] 26 (0, 0)) (kb_ BK369.out)) : gb391 ≠ gb369)); have n22_ := A0_ ((by rw [hg]; exact sl5_ (blk_lt (g := gb380) (o := .cells #[.int .i64 t373, .bool t374, .string t375, .slice Ao59 t376.length co59] 26 (0, 0)) (kb_ BK380.out)) : gb380 ≠ gb391)); have n23_ := A0_ ((by rw [hg]; exact sn8_ (blk_lt (g := gb380) (o := .cells #[.int .i64 t373, .bool t374, .string t375, .slice Ao59 t376.length co59] 26 (0, 0)) (kb_ BK380.out)) : gb391 ≠ gb380)); clear HO_357003; clear HO_370003; clear HO_381003; clear HO383; clear HO389; clear BK356; clear BK357; clear BK358; clear BK369; clear BK380; clear HB; have HO_357003 := n0_; have HO_370003 := n1_; have HO_381003 := n2_; have HO383 := n3_; have HO389 := n4_; have BK356 := n5_; have BK357 := n6_; have BK358 := n7_; have BK369 := n8_; have BK380 := n9_; have HB := n10_; have BK391 := n11_; have GW391 := n12_; have GE391 := n13_; have NB356_391 := n14_; have NB391_356 := n15_; have NB357_391 := n16_; have NB391_357 := n17_; have NB358_391 := n18_; have NB391_358 := n19_; have NB369_391 := n20_; have NB391_369 := n21_; have NB380_391 := n22_; have NB391_380 := n23_; clear n0_ n1_ n2_ n3_ n4_ n5_ n6_ n7_ n8_ n9_ n10_ n11_ n12_ n13_ n14_ n15_ n16_ n17_ n18_ n19_ n20_ n21_ n22_ n23_; clear hb hbox hg; have hnb97 := NB391_356.out; have hnc97 := NB356_391.out; have hnb98 := NB391_357.out; have hnc98 := NB357_391.out; have hnb99 := NB391_358.out; have hnc99 := NB358_391.out; have hnb100 := NB391_369.out; have hnc100 := NB369_391.out; have hnb101 := NB391_380.out; have hnc101 := NB380_391.out; have hcz102_0 : w96.cell? ⟨gb391, 0, none⟩ = some (.int .i64 0) := (blk_cell BK391.out 0).trans rfl; have hcz102_1 : w96.cell? ⟨gb391, 1, none⟩ = some (.bool false) := (blk_cell BK391.out 1).trans rfl; have hcz102_2 : w96.cell? ⟨gb391, 2, none⟩ = some (.string (⟨#[]⟩ : ByteArray)) := (blk_cell BK391.out 2).trans rfl; have hcz102_3 : w96.cell? ⟨gb391, 3, none⟩ = some (.slice none 0 0) := (blk_cell BK391.out 3).trans rfl; have hfz102_0 := blk_frozen BK391.out 0; have hfz102_1 := blk_frozen BK391.out 1; have hfz102_2 := blk_frozen BK391.out 2; have hfz102_3 := blk_frozen BK391.out 3; obtain ⟨Ao103, co103, eo103⟩ := Kd.R_slice HO389.out; subst eo103; have hnb104 := NB357_356.out; have hnc104 := NB356_357.out; have hnb105 := NB357_358.out; have hnc105 := NB358_357.out; have hnb106 := NB357_369.out; have hnc106 := NB369_357.out; have hnb107 := NB357_380.out; have hnc107 := NB380_357.out; have hcz108_0 : w96.cell? ⟨gb357, 0, none⟩ = some (.int .i64 0) := (blk_cell BK357.out 0).trans rfl; have hcz108_1 : w96.cell? ⟨gb357, 1, none⟩ = some (.string a1) := (blk_cell BK357.out 1).trans rfl; have hcz108_2 : w96.cell? ⟨gb357, 2, none⟩ = some (.int .i64 a2) := (blk_cell BK357.out 2).trans rfl; have hfz108_0 := blk_frozen BK357.out 0; have hfz108_1 := blk_frozen BK357.out 1; have hfz108_2 := blk_frozen BK357.out 2; have hnb109 := NB358_356.out; have hnc109 := NB356_358.out; have hnb110 := NB358_369.out; have hnc110 := NB369_358.out; have hnb111 := NB358_380.out; have hnc111 := NB380_358.out; have hcz112_0 : w96.cell? ⟨gb358, 0, none⟩ = some (.int .i64 1) := (blk_cell BK358.out 0).trans rfl; have hcz112_1 : w96.cell? ⟨gb358, 1, none⟩ = some (.string a1) := (blk_cell BK358.out 1).trans rfl; have hcz112_2 : w96.cell? ⟨gb358, 2, none⟩ = some (.int .i64 0) := (blk_cell BK358.out 2).trans rfl; have hfz112_0 := blk_frozen BK358.out 0; have hfz112_1 := blk_frozen BK358.out 1; have hfz112_2 := blk_frozen BK358.out 2) | ((with_reducible refine sp1_ (N := 116) rfl ?_); (try (refine gate_guard (by rfl) ?_; dsimp only)); refine Kd.R_lit k30 _ 30 ?hg (N := 116) ?hd (xs := ([(⟨0, a1, a2⟩ : S30), (⟨1, a1, 0⟩ : S30), (⟨x17_4, a3, 0⟩ : S30)] : List (S30))) (inner := [.int .i64 0, .string a1, .int .i64 a2, .int .i64 1, .string a1, .int .i64 0, .int .i64 x17_4, .string a3, .int .i64 0]) (ok := fun _ => True) (okp := fun _ => True) ?hr ?hp (fun _ hk => hk) trivial (Below.refl _ _) (Nat.le_refl _) (by simp) ?_; (case hd => rfl); (case hg => rfl); (case hr => first | (go_simp; done) | (go_simp; rfl)); (case hp => exact (Reps.c3 (show Kd.M k30 _ _ _ (⟨0, a1, a2⟩ : S30) [.int .i64 0, .string a1, .int .i64 a2] from (k30_mkM _ _ _ (⟨0, a1, a2⟩ : S30) )) (Reps.c3 (show Kd.M k30 _ _ _ (⟨1, a1, 0⟩ : S30) [.int .i64 1, .string a1, .int .i64 0] from (k30_mkM _ _ _ (⟨1, a1, 0⟩ : S30) )) (Reps.c3 (show Kd.M k30 _ _ _ (⟨x17_4, a3, 0⟩ : S30) [.int .i64 x17_4, .string a3, .int .i64 0] from (k30_mkM _ _ _ (⟨x17_4, a3, 0⟩ : S30) )) (Reps.none _ _))))); intro v393 w113 ho114 hb hg_ hnew_; clear hg_ hnew_; (first | rw [← Ny392.out] at ho114 | (simp only [Int.reduceToNat] at ho114; rw [← Ny392.out] at ho114)); have n0_ := A0_ (Kd.R_below (by (with_reducible repeat (first | apply sm2_ | apply sm1_ | apply sm3_)); exact (Kd.R_mono (Kd.R_far (p := ⟨gb391, 3, none⟩) (Kd.R_far (p := ⟨gb391, 2, none⟩) (Kd.R_far (p := ⟨gb391, 1, none⟩) (Kd.R_far (p := ⟨gb391, 0, none⟩) (Kd.R_types HO_357003.out BK391.out (by decide)) (fun _ hk => hk.2) (.int .i64 t384)) (fun _ hk => hk.2) (.bool t385)) (fun _ hk => hk.2) (.string t386)) (fun _ hk => hk.2) (.slice Ao103 t387.length co103)) (fun _ h_ => h_.1))) hb); have n1_ := A0_ (Kd.R_below (by (with_reducible repeat (first | apply sm2_ | apply sm1_ | apply sm3_)); exact (Kd.R_mono (Kd.R_far (p := ⟨gb391, 3, none⟩) (Kd.R_far (p := ⟨gb391, 2, none⟩) (Kd.R_far (p := ⟨gb391, 1, none⟩) (Kd.R_far (p := ⟨gb391, 0, none⟩) (Kd.R_types HO_370003.out BK391.out (by decide)) (fun _ hk => hk.2) (.int .i64 t384)) (fun _ hk => hk.2) (.bool t385)) (fun _ hk => hk.2) (.string t386)) (fun _ hk => hk.2) (.slice Ao103 t387.length co103)) (fun _ h_ => h_.1))) hb); have n2_ := A0_ (Kd.R_below (by (with_reducible repeat (first | apply sm2_ | apply sm1_ | apply sm3_)); exact (Kd.R_mono (Kd.R_far (p := ⟨gb391, 3, none⟩) (Kd.R_far (p := ⟨gb391, 2, none⟩) (Kd.R_far (p := ⟨gb391, 1, none⟩) (Kd.R_far (p := ⟨gb391, 0, none⟩) (Kd.R_types HO_381003.out BK391.out (by decide)) (fun _ hk => hk.2) (.int .i64 t384)) (fun _ hk => hk.2) (.bool t385)) (fun _ hk => hk.2) (.string t386)) (fun _ hk => hk.2) (.slice Ao103 t387.length co103)) (fun _ h_ => h_.1))) hb); have n3_ := A0_ (Kd.R_elder' (by (with_reducible repeat (first | apply sm2_ | apply sm1_ | apply sm3_)); exact (Kd.R_mono (Kd.R_far (p := ⟨gb391, 3, none⟩) (Kd.R_far (p := ⟨gb391, 2, none⟩) (Kd.R_far (p := ⟨gb391, 1, none⟩) (Kd.R_far (p := ⟨gb391, 0, none⟩) (Kd.R_types HO383.out BK391.out (by decide)) (fun _ hk => hk.2) (.int .i64 t384)) (fun _ hk => hk.2) (.bool t385)) (fun _ hk => hk.2) (.string t386)) (fun _ hk => hk.2) (.slice Ao103 t387.length co103)) (fun _ h_ => h_.1))) (Kd.R_base ho114) hb); have n4_ := A0_ (Kd.R_below (by (with_reducible repeat (first | apply sm2_ | apply sm1_ | apply sm3_)); exact (Kd.R_mono (Kd.R_far (p := ⟨gb391, 3, none⟩) (Kd.R_far (p := ⟨gb391, 2, none⟩) (Kd.R_far (p := ⟨gb391, 1, none⟩) (Kd.R_far (p := ⟨gb391, 0, none⟩) (Kd.R_types HO389.out BK391.out (by decide)) (fun _ hk => hk.2) (.int .i64 t384)) (fun _ hk => hk.2) (.bool t385)) (fun _ hk => hk.2) (.string t386)) (fun _ hk => hk.2) (.slice Ao103 t387.length co103)) (fun _ h_ => h_.1))) hb); have n5_ := A0_ (Kd.R_lower (Kd.R_newB (Kd.R_newB (Kd.R_new' ho114 (Kd.R_lt (by (with_reducible repeat (first | apply sm2_ | apply sm1_ | apply sm3_)); exact (Kd.R_mono (Kd.R_far (p := ⟨gb391, 3, none⟩) (Kd.R_far (p := ⟨gb391, 2, none⟩) (Kd.R_far (p := ⟨gb391, 1, none⟩) (Kd.R_far (p := ⟨gb391, 0, none⟩) (Kd.R_types HO383.out BK391.out (by decide)) (fun _ hk => hk.2) (.int .i64 t384)) (fun _ hk => hk.2) (.bool t385)) (fun _ hk => hk.2) (.string t386)) (fun _ hk => hk.2) (.slice Ao103 t387.length co103)) (fun _ h_ => h_.1))))) (g := gb357) (o := .cells #[.int .i64 0, .string a1, .int .i64 a2] 30 (0, 0)) (by (with_reducible repeat (first | refine sm7_ ?_ _ | refine sm8_ ?_ | refine sm9_ ?_ _)); refine blk_far ?_ NB357_391.out _; (with_reducible repeat (first | refine sm7_ ?_ _ | refine sm8_ ?_ | refine sm9_ ?_ _)); refine blk_far ?_ NB357_391.out _; (with_reducible repeat (first | refine sm7_ ?_ _ | refine sm8_ ?_ | refine sm9_ ?_ _)); refine blk_far ?_ NB357_391.out _; (with_reducible repeat (first | refine sm7_ ?_ _ | refine sm8_ ?_ | refine sm9_ ?_ _)); refine blk_far ?_ NB357_391.out _; (with_reducible repeat (first | refine sm7_ ?_ _ | refine sm8_ ?_ | refine sm9_ ?_ _)); exact BK357.out)) (g := gb358) (o := .cells #[.int .i64 1, .string a1, .int .i64 0] 30 (0, 0)) (by (with_reducible repeat (first | refine sm7_ ?_ _ | refine sm8_ ?_ | refine sm9_ ?_ _)); refine blk_far ?_ NB358_391.out _; (with_reducible repeat (first | refine sm7_ ?_ _ | refine sm8_ ?_ | refine sm9_ ?_ _)); refine blk_far ?_ NB358_391.out _; (with_reducible repeat (first | refine sm7_ ?_ _ | refine sm8_ ?_ | refine sm9_ ?_ _)); refine blk_far ?_ NB358_391.out _; (with_reducible repeat (first | refine sm7_ ?_ _ | refine sm8_ ?_ | refine sm9_ ?_ _)); refine blk_far ?_ NB358_391.out _; (with_reducible repeat (first | refine sm7_ ?_ _ | refine sm8_ ?_ | refine sm9_ ?_ _)); exact BK358.out)) (sn1_ (by repeat (first | (with_reducible first | exact HB.out | apply sm4_ | apply sl9_ | apply sm5_ | refine sn3_ ?_ GE356.out | refine sn3_ ?_ GE357.out | refine sn3_ ?_ GE358.out | refine sn3_ ?_ GE369.out | refine sn3_ ?_ GE380.out | refine sn3_ ?_ GE391.out) | exact HB.out)))); have n6_ := A0_ (sn4_ (g := gb356) (o := .cells #[.int .i64 t349, .bool t350, .string t351, .slice Ao22 t352.length co22] 26 (0, 0)) (by (with_reducible repeat (first | refine sm7_ ?_ _ | refine sm8_ ?_ | refine sm9_ ?_ _)); refine blk_far ?_ NB356_391.out _; (with_reducible repeat (first | refine sm7_ ?_ _ | refine sm8_ ?_ | refine sm9_ ?_ _)); refine blk_far ?_ NB356_391.out _; (with_reducible repeat (first | refine sm7_ ?_ _ | refine sm8_ ?_ | refine sm9_ ?_ _)); refine blk_far ?_ NB356_391.out _; (with_reducible repeat (first | refine sm7_ ?_ _ | refine sm8_ ?_ | refine sm9_ ?_ _)); refine blk_far ?_ NB356_391.out _; (with_reducible repeat (first | refine sm7_ ?_ _ | refine sm8_ ?_ | refine sm9_ ?_ _)); exact BK356.out) hb); have n7_ := A0_ (sn4_ (g := gb357) (o := .cells #[.int .i64 0, .string a1, .int .i64 a2] 30 (0, 0)) (by (with_reducible repeat (first | refine sm7_ ?_ _ | refine sm8_ ?_ | refine sm9_ ?_ _)); refine blk_far ?_ NB357_391.out _; (with_reducible repeat (first | refine sm7_ ?_ _ | refine sm8_ ?_ | refine sm9_ ?_ _)); refine blk_far ?_ NB357_391.out _; (with_reducible repeat (first | refine sm7_ ?_ _ | refine sm8_ ?_ | refine sm9_ ?_ _)); refine blk_far ?_ NB357_391.out _; (with_reducible repeat (first | refine sm7_ ?_ _ | refine sm8_ ?_ | refine sm9_ ?_ _)); refine blk_far ?_ NB357_391.out _; (with_reducible repeat (first | refine sm7_ ?_ _ | refine sm8_ ?_ | refine sm9_ ?_ _)); exact BK357.out) hb); have n8_ := A0_ (sn4_ (g := gb358) (o := .cells #[.int .i64 1, .string a1, .int .i64 0] 30 (0, 0)) (by (with_reducible repeat (first | refine sm7_ ?_ _ | refine sm8_ ?_ | refine sm9_ ?_ _)); refine blk_far ?_ NB358_391.out _; (with_reducible repeat (first | refine sm7_ ?_ _ | refine sm8_ ?_ | refine sm9_ ?_ _)); refine blk_far ?_ NB358_391.out _; (with_reducible repeat (first | refine sm7_ ?_ _ | refine sm8_ ?_ | refine sm9_ ?_ _)); refine blk_far ?_ NB358_391.out _; (with_reducible repeat (first | refine sm7_ ?_ _ | refine sm8_ ?_ | refine sm9_ ?_ _)); refine blk_far ?_ NB358_391.out _; (with_reducible repeat (first | refine sm7_ ?_ _ | refine sm8_ ?_ | refine sm9_ ?_ _)); exact BK358.out) hb); have n9_ := A0_ (sn4_ (g := gb369) (o := .cells #[.int .i64 t362, .bool t363, .string t364, .slice Ao46 t365.length co46] 26 (0, 0)) (by (with_reducible repeat (first | refine sm7_ ?_ _ | refine sm8_ ?_ | refine sm9_ ?_ _)); refine blk_far ?_ NB369_391.out _; (with_reducible repeat (first | refine sm7_ ?_ _ | refine sm8_ ?_ | refine sm9_ ?_ _)); refine blk_far ?_ NB369_391.out _; (with_reducible repeat (first | refine sm7_ ?_ _ | refine sm8_ ?_ | refine sm9_ ?_ _)); refine blk_far ?_ NB369_391.out _; (with_reducible repeat (first | refine sm7_ ?_ _ | refine sm8_ ?_ | refine sm9_ ?_ _)); refine blk_far ?_ NB369_391.out _; (with_reducible repeat (first | refine sm7_ ?_ _ | refine sm8_ ?_ | refine sm9_ ?_ _)); exact BK369.out) hb); have n10_ := A0_ (sn4_ (g := gb380) (o := .cells #[.int .i64 t373, .bool t374, .string t375, .slice Ao59 t376.length co59] 26 (0, 0)) (by (with_reducible repeat (first | refine sm7_ ?_ _ | refine sm8_ ?_ | refine sm9_ ?_ _)); refine blk_far ?_ NB380_391.out _; (with_reducible repeat (first | refine sm7_ ?_ _ | refine sm8_ ?_ | refine sm9_ ?_ _)); refine blk_far ?_ NB380_391.out _; (with_reducible repeat (first | refine sm7_ ?_ _ | refine sm8_ ?_ | refine sm9_ ?_ _)); refine blk_far ?_ NB380_391.out _; (with_reducible repeat (first | refine sm7_ ?_ _ | refine sm8_ ?_ | refine sm9_ ?_ _)); refine blk_far ?_ NB380_391.out _; (with_reducible repeat (first | refine sm7_ ?_ _ | refine sm8_ ?_ | refine sm9_ ?_ _)); exact BK380.out) hb); have n11_ := A0_ (sn4_ (g := gb391) (o := .cells #[.int .i64 t384, .bool t385, .string t386, .slice Ao103 t387.length co103] 26 (0, 0)) (by (with_reducible repeat (first | refine sm7_ ?_ _ | refine sm8_ ?_ | refine sm9_ ?_ _)); refine blk_put (cs := #[.int .i64 t384, .bool t385, .string t386, .slice none 0 0]) ?_ 3 _ rfl; (with_reducible repeat (first | refine sm7_ ?_ _ | refine sm8_ ?_ | refine sm9_ ?_ _)); refine blk_put (cs := #[.int .i64 t384, .bool t385, .string (⟨#[]⟩ : ByteArray), .slice none 0 0]) ?_ 2 _ rfl; (with_reducible repeat (first | refine sm7_ ?_ _ | refine sm8_ ?_ | refine sm9_ ?_ _)); refine blk_put (cs := #[.int .i64 t384, .bool false, .string (⟨#[]⟩ : ByteArray), .slice none 0 0]) ?_ 1 _ rfl; (with_reducible repeat (first | refine sm7_ ?_ _ | refine sm8_ ?_ | refine sm9_ ?_ _)); refine blk_put (cs := #[.int .i64 0, .bool false, .string (⟨#[]⟩ : ByteArray), .slice none 0 0]) ?_ 0 _ rfl; (with_reducible repeat (first | refine sm7_ ?_ _ | refine sm8_ ?_ | refine sm9_ ?_ _)); exact BK391.out) hb); have n12_ := A0_ (sn2_ (by repeat (first | (with_reducible first | exact HB.out | apply sm4_ | apply sl9_ | apply sm5_ | refine sn3_ ?_ GE356.out | refine sn3_ ?_ GE357.out | refine sn3_ ?_ GE358.out | refine sn3_ ?_ GE369.out | refine sn3_ ?_ GE380.out | refine sn3_ ?_ GE391.out) | exact HB.out)) hb); clear HO_357003; clear HO_370003; clear HO_381003; clear HO383; clear HO389; clear BK356; clear BK357; clear BK358; clear BK369; clear BK380; clear BK391; clear HB; have HO_357003 := n0_; have HO_370003 := n1_; have HO_381003 := n2_; have HO383 := n3_; have HO389 := n4_; have HO394 := n5_; have BK356 := n6_; have BK357 := n7_; have BK358 := n8_; have BK369 := n9_; have BK380 := n10_; have BK391 := n11_; have HB := n12_; clear n0_ n1_ n2_ n3_ n4_ n5_ n6_ n7_ n8_ n9_ n10_ n11_ n12_; clear hb ho114; obtain ⟨Ao115, co115, eo115⟩ := Kd.R_slice HO394.out; subst eo115) | ((with_reducible refine gate_callee (f := 10) rfl ?_); refine goesL_ (some 117) rfl rfl Try.func10 (by kernel_rfl) rfl #[.slice A0 l0.length c0, .slice Ao115 y392.length co115] rfl (by (try simp only [List.map_toArray, List.map_cons, List.map_nil]); first | done | rfl | (simp only [List.length_drop, sp2_]; rfl)) ?_; (with_reducible refine (laws_wordLast.calls _ _ l0 _ _ y392 t395 t396 t397 t398 true _ ?side1 ?side2 ?side3 ?side4 A86.out).mono ?_); (case side1 => repeat (first | exact (Kd.C_below HR0.out HB.out) | (with_reducible refine sp8_ ?_ _) | (with_reducible refine sp9_ ?_ _) | (with_reducible refine sq1_ ?_))); (case side2 => exact HC0.out); (case side3 => repeat (first | exact (Kd.R_reads' HO394.out).2.2 | (with_reducible refine sp8_ ?_ _) | (with_reducible refine sp9_ ?_ _) | (with_reducible refine sq1_ ?_))); (case side4 => exact (Kd.R_reads' HO394.out).2.1); rintro e w116 ⟨v399, rfl, ho0, hb⟩; refine ⟨_, rfl, ?_⟩; have n0_ := A0_ (Kd.R_elder' (kr_ HO_357003.out) (Kd.R_base ho0) hb); have n1_ := A0_ (Kd.R_elder' (kr_ HO_370003.out) (Kd.R_base ho0) hb); have n2_ := A0_ (Kd.R_elder' (kr_ HO_381003.out) (Kd.R_base ho0) hb); have n3_ := A0_ (Kd.R_below (kr_ HO383.out) hb); have n4_ := A0_ (Kd.R_elder' (kr_ HO389.out) (Kd.R_base ho0) hb); have n5_ := A0_ (Kd.R_below (kr_ HO394.out) hb); have n6_ := A0_ (Kd.R_lower (Kd.R_new' (Kd.R_new' (Kd.R_new' (Kd.R_new' ho0 (Kd.R_lt (kr_ HO_357003.out))) (Kd.R_lt (kr_ HO_370003.out))) (Kd.R_lt (kr_ HO_381003.out))) (Kd.R_lt (kr_ HO389.out))) (sn1_ (by repeat (first | (with_reducible first | exact HB.out | apply sm4_ | apply sl9_ | apply sm5_ | refine sn3_ ?_ GE356.out | refine sn3_ ?_ GE357.out | refine sn3_ ?_ GE358.out | refine sn3_ ?_ GE369.out | refine sn3_ ?_ GE380.out | refine sn3_ ?_ GE391.out) | exact HB.out)))); have n7_ := A0_ (sn4_ (g := gb356) (o := .cells #[.int .i64 t349, .bool t350, .string t351, .slice Ao22 t352.length co22] 26 (0, 0)) (kb_ BK356.out) hb); have n8_ := A0_ (sn4_ (g := gb357) (o := .cells #[.int .i64 0, .string a1, .int .i64 a2] 30 (0, 0)) (kb_ BK357.out) hb); have n9_ := A0_ (sn4_ (g := gb358) (o := .cells #[.int .i64 1, .string a1, .int .i64 0] 30 (0, 0)) (kb_ BK358.out) hb); have n10_ := A0_ (sn4_ (g := gb369) (o := .cells #[.int .i64 t362, .bool t363, .string t364, .slice Ao46 t365.length co46] 26 (0, 0)) (kb_ BK369.out) hb); have n11_ := A0_ (sn4_ (g := gb380) (o := .cells #[.int .i64 t373, .bool t374, .string t375, .slice Ao59 t376.length co59] 26 (0, 0)) (kb_ BK380.out) hb); have n12_ := A0_ (sn4_ (g := gb391) (o := .cells #[.int .i64 t384, .bool t385, .string t386, .slice Ao103 t387.length co103] 26 (0, 0)) (kb_ BK391.out) hb); have n13_ := A0_ (sn2_ (by repeat (first | (with_reducible first | exact HB.out | apply sm4_ | apply sl9_ | apply sm5_ | refine sn3_ ?_ GE356.out | refine sn3_ ?_ GE357.out | refine sn3_ ?_ GE358.out | refine sn3_ ?_ GE369.out | refine sn3_ ?_ GE380.out | refine sn3_ ?_ GE391.out) | exact HB.out)) hb); clear HO_357003; clear HO_370003; clear HO_381003; clear HO383; clear HO389; clear HO394; clear BK356; clear BK357; clear BK358; clear BK369; clear BK380; clear BK391; clear HB; have HO_357003 := n0_; have HO_370003 := n1_; have HO_381003 := n2_; have HO383 := n3_; have HO389 := n4_; have HO394 := n5_; have HO400 := n6_; have BK356 := n7_; have BK357 := n8_; have BK358 := n9_; have BK369 := n10_; have BK380 := n11_; have BK391 := n12_; have HB := n13_; clear n0_ n1_ n2_ n3_ n4_ n5_ n6_ n7_ n8_ n9_ n10_ n11_ n12_ n13_; (try clear hb); (try clear hb2); (try clear hk); (try clear hi); (try clear ho0)) | ((with_reducible refine sp1_ (N := 20) rfl ?_); (try (refine gate_guard (by rfl) ?_; dsimp only)); refine sn9_ ?hg (N := 20) ?hd (cs := #[.int .i64 0, .bool false, .string (⟨#[]⟩ : ByteArray), .slice none 0 0]) (t := 26) ?hr ?_; (case hd => rfl); (case hg => rfl); (case hr => first | (go_simp; done) | (go_simp; rfl)); intro gb402 hg w117 hbox hb; have n0_ := A0_ (Kd.R_below (kr_ HO_357003.out) hb); have n1_ := A0_ (Kd.R_below (kr_ HO_370003.out) hb); have n2_ := A0_ (Kd.R_below (kr_ HO_381003.out) hb); have n3_ := A0_ (Kd.R_below (kr_ HO383.out) hb); have n4_ := A0_ (Kd.R_below (kr_ HO389.out) hb); have n5_ := A0_ (Kd.R_below (kr_ HO394.out) hb); have n6_ := A0_ (Kd.R_below (kr_ HO400.out) hb); have n7_ := A0_ (sn4_ (g := gb356) (o := .cells #[.int .i64 t349, .bool t350, .string t351, .slice Ao22 t352.length co22] 26 (0, 0)) (kb_ BK356.out) hb); have n8_ := A0_ (sn4_ (g := gb357) (o := .cells #[.int .i64 0, .string a1, .int .i64 a2] 30 (0, 0)) (kb_ BK357.out) hb); have n9_ := A0_ (sn4_ (g := gb358) (o := .cells #[.int .i64 1, .string a1, .int .i64 0] 30 (0, 0)) (kb_ BK358.out) hb); have n10_ := A0_ (sn4_ (g := gb369) (o := .cells #[.int .i64 t362, .bool t363, .string t364, .slice Ao46 t365.length co46] 26 (0, 0)) (kb_ BK369.out) hb); have n11_ := A0_ (sn4_ (g := gb380) (o := .cells #[.int .i64 t373, .bool t374, .string t375, .slice Ao59 t376.length co59] 26 (0, 0)) (kb_ BK380.out) hb); have n12_ := A0_ (sn4_ (g := gb391) (o := .cells #[.int .i64 t384, .bool t385, .string t386, .slice Ao103 t387.length co103] 26 (0, 0)) (kb_ BK391.out) hb); have n13_ := A0_ (sn2_ (by repeat (first | (with_reducible first | exact HB.out | apply sm4_ | apply sl9_ | apply sm5_ | refine sn3_ ?_ GE356.out | refine sn3_ ?_ GE357.out | refine sn3_ ?_ GE358.out | refine sn3_ ?_ GE369.out | refine sn3_ ?_ GE380.out | refine sn3_ ?_ GE391.out) | exact HB.out)) hb); have n14_ := A0_ (hbox); have n15_ := A0_ ((by rw [hg]; exact (sn1_ (by repeat (first | (with_reducible first | exact HB.out | apply sm4_ | apply sl9_ | apply sm5_ | refine sn3_ ?_ GE356.out | refine sn3_ ?_ GE357.out | refine sn3_ ?_ GE358.out | refine sn3_ ?_ GE369.out | refine sn3_ ?_ GE380.out | refine sn3_ ?_ GE391.out) | exact HB.out))) : w.heap.size ≤ gb402)); have n16_ := A0_ ((by rw [hg]; exact (sn1_ (by repeat (first | (with_reducible first | exact HB.out | apply sm4_ | apply sl9_ | apply sm5_ | refine sn3_ ?_ GE356.out | refine sn3_ ?_ GE357.out | refine sn3_ ?_ GE358.out | refine sn3_ ?_ GE369.out | refine sn3_ ?_ GE380.out | refine sn3_ ?_ GE391.out) | exact HB.out))) : w.heap.size ≤ gb402)); have n17_ := A0_ ((by rw [hg]; exact sl5_ (blk_lt (g := gb356) (o := .cells #[.int .i64 t349, .bool t350, .string t351, .slice Ao22 t352.length co22] 26 (0, 0)) (kb_ BK356.out)) : gb356 ≠ gb402)); have n18_ := A0_ ((by rw [hg]; exact sn8_ (blk_lt (g := gb356) (o := .cells #[.int .i64 t349, .bool t350, .string t351, .slice Ao22 t352.length co22] 26 (0, 0)) (kb_ BK356.out)) : gb402 ≠ gb356)); have n19_ := A0_ ((by rw [hg]; exact sl5_ (blk_lt (g := gb357) (o := .cells #[.int .i64 0, .string a1, .int .i64 a2] 30 (0, 0)) (kb_ BK357.out)) : gb357 ≠ gb402)); have n20_ := A0_ ((by rw [hg]; exact sn8_ (blk_lt (g := gb357) (o := .cells #[.int .i64 0, .string a1, .int .i64 a2] 30 (0, 0)) (kb_ BK357.out)) : gb402 ≠ gb357)); have n21_ := A0_ ((by rw [hg]; exact sl5_ (blk_lt (g := gb358) (o := .cells #[.int .i64 1, .string a1, .int .i64 0] 30 (0, 0)) (kb_ BK358.out)) : gb358 ≠ gb402)); have n22_ := A0_ ((by rw [hg]; exact sn8_ (blk_lt (g := gb358) (o := .cells #[.int .i64 1, .string a1, .int .i64 0] 30 (0, 0)) (kb_ BK358.out)) : gb402 ≠ gb358)); have n23_ := A0_ ((by rw [hg]; exact sl5_ (blk_lt (g := gb369) (o := .cells #[.int .i64 t362, .bool t363, .string t364, .slice Ao46 t365.length co46] 26 (0, 0)) (kb_ BK369.out)) : gb369 ≠ gb402)); have n24_ := A0_ ((by rw [hg]; exact sn8_ (blk_lt (g := gb369) (o := .cells #[.int .i64 t362, .bool t363, .string t364, .slice Ao46 t365.length co46] 26 (0, 0)) (kb_ BK369.out)) : gb402 ≠ gb369)); have n25_ := A0_ ((by rw [hg]; exact sl5_ (blk_lt (g := gb380) (o := .cells #[.int .i64 t373, .bool t374, .string t375, .slice Ao59 t376.length co59] 26 (0, 0)) (kb_ BK380.out)) : gb380 ≠ gb402)); have n26_ := A0_ ((by rw [hg]; exact sn8_ (blk_lt (g := gb380) (o := .cells #[.int .i64 t373, .bool t374, .string t375, .slice Ao59 t376.length co59] 26 (0, 0)) (kb_ BK380.out)) : gb402 ≠ gb380)); have n27_ := A0_ ((by rw [hg]; exact sl5_ (blk_lt (g := gb391) (o := .cells #[.int .i64 t384, .bool t385, .string t386, .slice Ao103 t387.length co103] 26 (0, 0)) (kb_ BK391.out)) : gb391 ≠ gb402)); have n28_ := A0_ ((by rw [hg]; exact sn8_ (blk_lt (g := gb391) (o := .cells #[.int .i64 t384, .bool t385, .string t386, .slice Ao103 t387.length co103] 26 (0, 0)) (kb_ BK391.out)) : gb402 ≠ gb391)); clear HO_357003; clear HO_370003; clear HO_381003; clear HO383; clear HO389; clear HO394; clear HO400; clear BK356; clear BK357; clear BK358; clear BK369; clear BK380; clear BK391; clear HB; have HO_357003 := n0_; have HO_370003 := n1_; have HO_381003 := n2_; have HO383 := n3_; have HO389 := n4_; have HO394 := n5_; have HO400 := n6_; have BK356 := n7_; have BK357 := n8_; have BK358 := n9_; have BK369 := n10_; have BK380 := n11_; have BK391 := n12_; have HB := n13_; have BK402 := n14_; have GW402 := n15_; have GE402 := n16_; have NB356_402 := n17_; have NB402_356 := n18_; have NB357_402 := n19_; have NB402_357 := n20_; have NB358_402 := n21_; have NB402_358 := n22_; have NB369_402 := n23_; have NB402_369 := n24_; have NB380_402 := n25_; have NB402_380 := n26_; have NB391_402 := n27_; have NB402_391 := n28_; clear n0_ n1_ n2_ n3_ n4_ n5_ n6_ n7_ n8_ n9_ n10_ n11_ n12_ n13_ n14_ n15_ n16_ n17_ n18_ n19_ n20_ n21_ n22_ n23_ n24_ n25_ n26_ n27_ n28_; clear hb hbox hg; have hnb118 := NB402_356.out; have hnc118 := NB356_402.out; have hnb119 := NB402_357.out; have hnc119 := NB357_402.out; have hnb120 := NB402_358.out; have hnc120 := NB358_402.out; have hnb121 := NB402_369.out; have hnc121 := NB369_402.out; have hnb122 := NB402_380.out; have hnc122 := NB380_402.out; have hnb123 := NB402_391.out; have hnc123 := NB391_402.out; have hcz124_0 : w117.cell? ⟨gb402, 0, none⟩ = some (.int .i64 0) := (blk_cell BK402.out 0).trans rfl; have hcz124_1 : w117.cell? ⟨gb402, 1, none⟩ = some (.bool false) := (blk_cell BK402.out 1).trans rfl; have hcz124_2 : w117.cell? ⟨gb402, 2, none⟩ = some (.string (⟨#[]⟩ : ByteArray)) := (blk_cell BK402.out 2).trans rfl; have hcz124_3 : w117.cell? ⟨gb402, 3, none⟩ = some (.slice none 0 0) := (blk_cell BK402.out 3).trans rfl; have hfz124_0 := blk_frozen BK402.out 0; have hfz124_1 := blk_frozen BK402.out 1; have hfz124_2 := blk_frozen BK402.out 2; have hfz124_3 := blk_frozen BK402.out 3; obtain ⟨Ao125, co125, eo125⟩ := Kd.R_slice HO400.out; subst eo125))); (have n0_ : Aside0 (Kd.R Kd.string 9 ((((w117.setCell ⟨gb402, 0, none⟩ (.int .i64 t395)).setCell ⟨gb402, 1, none⟩ (.bool t396)).setCell ⟨gb402, 2, none⟩ (.string t397)).setCell ⟨gb402, 3, none⟩ (.slice Ao125 t398.length co125)) w.heap.size (fun k_ => some k_ ≠ (.slice Ao46 t365.length co46 : Value).ownBlock ∧ some k_ ≠ (.slice Ao59 t376.length co59 : Value).ownBlock ∧ some k_ ≠ (.slice Ao103 t387.length co103 : Value).ownBlock ∧ some k_ ≠ (.slice Ao125 t398.length co125 : Value).ownBlock) (.slice Ao22 t352.length co22) t352) := ⟨by (with_reducible repeat (first | apply sm2_ | apply sm1_ | apply sm3_)); exact Kd.R_mono (Kd.R_far (p := ⟨gb402, 3, none⟩) (Kd.R_far (p := ⟨gb402, 2, none⟩) (Kd.R_far (p := ⟨gb402, 1, none⟩) (Kd.R_far (p := ⟨gb402, 0, none⟩) (Kd.R_types HO_357003.out BK402.out (by decide)) (fun _ hk => hk.2) (.int .i64 t395)) (fun _ hk => hk.2) (.bool t396)) (fun _ hk => hk.2) (.string t397)) (fun _ hk => hk.2) (.slice Ao125 t398.length co125)) (fun _ hk => ⟨hk.1.1.1.1, ⟨hk.1.1.1.2, ⟨hk.1.1.2, hk.1.2⟩⟩⟩)⟩); (have n1_ : Aside0 (Kd.R Kd.string 9 ((((w117.setCell ⟨gb402, 0, none⟩ (.int .i64 t395)).setCell ⟨gb402, 1, none⟩ (.bool t396)).setCell ⟨gb402, 2, none⟩ (.string t397)).setCell ⟨gb402, 3, none⟩ (.slice Ao125 t398.length co125)) w.heap.size (fun k_ => some k_ ≠ (.slice Ao22 t352.length co22 : Value).ownBlock ∧ some k_ ≠ (.slice Ao59 t376.length co59 : Value).ownBlock ∧ some k_ ≠ (.slice Ao103 t387.length co103 : Value).ownBlock ∧ some k_ ≠ (.slice Ao125 t398.length co125 : Value).ownBlock) (.slice Ao46 t365.length co46) t365) := ⟨by (with_reducible repeat (first | apply sm2_ | apply sm1_ | apply sm3_)); exact Kd.R_mono (Kd.R_far (p := ⟨gb402, 3, none⟩) (Kd.R_far (p := ⟨gb402, 2, none⟩) (Kd.R_far (p := ⟨gb402, 1, none⟩) (Kd.R_far (p := ⟨gb402, 0, none⟩) (Kd.R_types HO_370003.out BK402.out (by decide)) (fun _ hk => hk.2) (.int .i64 t395)) (fun _ hk => hk.2) (.bool t396)) (fun _ hk => hk.2) (.string t397)) (fun _ hk => hk.2) (.slice Ao125 t398.length co125)) (fun _ hk => ⟨hk.1.1.1.1, ⟨hk.1.1.1.2, ⟨hk.1.1.2, hk.1.2⟩⟩⟩)⟩); (have n2_ : Aside0 (Kd.R Kd.string 9 ((((w117.setCell ⟨gb402, 0, none⟩ (.int .i64 t395)).setCell ⟨gb402, 1, none⟩ (.bool t396)).setCell ⟨gb402, 2, none⟩ (.string t397)).setCell ⟨gb402, 3, none⟩ (.slice Ao125 t398.length co125)) w.heap.size (fun k_ => some k_ ≠ (.slice Ao22 t352.length co22 : Value).ownBlock ∧ some k_ ≠ (.slice Ao46 t365.length co46 : Value).ownBlock ∧ some k_ ≠ (.slice Ao103 t387.length co103 : Value).ownBlock ∧ some k_ ≠ (.slice Ao125 t398.length co125 : Value).ownBlock) (.slice Ao59 t376.length co59) t376) := ⟨by (with_reducible repeat (first | apply sm2_ | apply sm1_ | apply sm3_)); exact Kd.R_mono (Kd.R_far (p := ⟨gb402, 3, none⟩) (Kd.R_far (p := ⟨gb402, 2, none⟩) (Kd.R_far (p := ⟨gb402, 1, none⟩) (Kd.R_far (p := ⟨gb402, 0, none⟩) (Kd.R_types HO_381003.out BK402.out (by decide)) (fun _ hk => hk.2) (.int .i64 t395)) (fun _ hk => hk.2) (.bool t396)) (fun _ hk => hk.2) (.string t397)) (fun _ hk => hk.2) (.slice Ao125 t398.length co125)) (fun _ hk => ⟨hk.1.1.1.1, ⟨hk.1.1.1.2, ⟨hk.1.1.2, hk.1.2⟩⟩⟩)⟩); (have n3_ : Aside0 (Kd.R k30 30 ((((w117.setCell ⟨gb402, 0, none⟩ (.int .i64 t395)).setCell ⟨gb402, 1, none⟩ (.bool t396)).setCell ⟨gb402, 2, none⟩ (.string t397)).setCell ⟨gb402, 3, none⟩ (.slice Ao125 t398.length co125)) w.heap.size (fun k_ => some k_ ≠ (.slice Ao115 y392.length co115 : Value).ownBlock ∧ k_ ≠ gb357 ∧ k_ ≠ gb358) (.slice Ao94 y381.length co94) y381) := ⟨by (with_reducible repeat (first | apply sm2_ | apply sm1_ | apply sm3_)); exact Kd.R_mono (Kd.R_far (p := ⟨gb402, 3, none⟩) (Kd.R_far (p := ⟨gb402, 2, none⟩) (Kd.R_far (p := ⟨gb402, 1, none⟩) (Kd.R_far (p := ⟨gb402, 0, none⟩) (Kd.R_types HO383.out BK402.out (by decide)) (fun _ hk => hk.2) (.int .i64 t395)) (fun _ hk => hk.2) (.bool t396)) (fun _ hk => hk.2) (.string t397)) (fun _ hk => hk.2) (.slice Ao125 t398.length co125)) (fun _ hk => ⟨hk.1.2, ⟨hk.1.1.1.2, hk.1.1.2⟩⟩)⟩); (have n4_ : Aside0 (Kd.R Kd.string 9 ((((w117.setCell ⟨gb402, 0, none⟩ (.int .i64 t395)).setCell ⟨gb402, 1, none⟩ (.bool t396)).setCell ⟨gb402, 2, none⟩ (.string t397)).setCell ⟨gb402, 3, none⟩ (.slice Ao125 t398.length co125)) w.heap.size (fun k_ => some k_ ≠ (.slice Ao22 t352.length co22 : Value).ownBlock ∧ some k_ ≠ (.slice Ao46 t365.length co46 : Value).ownBlock ∧ some k_ ≠ (.slice Ao59 t376.length co59 : Value).ownBlock ∧ some k_ ≠ (.slice Ao125 t398.length co125 : Value).ownBlock) (.slice Ao103 t387.length co103) t387) := ⟨by (with_reducible repeat (first | apply sm2_ | apply sm1_ | apply sm3_)); exact Kd.R_mono (Kd.R_far (p := ⟨gb402, 3, none⟩) (Kd.R_far (p := ⟨gb402, 2, none⟩) (Kd.R_far (p := ⟨gb402, 1, none⟩) (Kd.R_far (p := ⟨gb402, 0, none⟩) (Kd.R_types HO389.out BK402.out (by decide)) (fun _ hk => hk.2) (.int .i64 t395)) (fun _ hk => hk.2) (.bool t396)) (fun _ hk => hk.2) (.string t397)) (fun _ hk => hk.2) (.slice Ao125 t398.length co125)) (fun _ hk => ⟨hk.1.1.1.1.2, ⟨hk.1.1.1.2, ⟨hk.1.1.2, hk.1.2⟩⟩⟩)⟩); (have n5_ : Aside0 (Kd.R k30 30 ((((w117.setCell ⟨gb402, 0, none⟩ (.int .i64 t395)).setCell ⟨gb402, 1, none⟩ (.bool t396)).setCell ⟨gb402, 2, none⟩ (.string t397)).setCell ⟨gb402, 3, none⟩ (.slice Ao125 t398.length co125)) w.heap.size (fun k_ => some k_ ≠ (.slice Ao94 y381.length co94 : Value).ownBlock ∧ k_ ≠ gb357 ∧ k_ ≠ gb358) (.slice Ao115 y392.length co115) y392) := ⟨by (with_reducible repeat (first | apply sm2_ | apply sm1_ | apply sm3_)); exact Kd.R_mono (Kd.R_far (p := ⟨gb402, 3, none⟩) (Kd.R_far (p := ⟨gb402, 2, none⟩) (Kd.R_far (p := ⟨gb402, 1, none⟩) (Kd.R_far (p := ⟨gb402, 0, none⟩) (Kd.R_types HO394.out BK402.out (by decide)) (fun _ hk => hk.2) (.int .i64 t395)) (fun _ hk => hk.2) (.bool t396)) (fun _ hk => hk.2) (.string t397)) (fun _ hk => hk.2) (.slice Ao125 t398.length co125)) (fun _ hk => ⟨hk.1.1.1.2, ⟨hk.1.1.2, hk.1.2⟩⟩)⟩); (have n6_ : Aside0 (Kd.R Kd.string 9 ((((w117.setCell ⟨gb402, 0, none⟩ (.int .i64 t395)).setCell ⟨gb402, 1, none⟩ (.bool t396)).setCell ⟨gb402, 2, none⟩ (.string t397)).setCell ⟨gb402, 3, none⟩ (.slice Ao125 t398.length co125)) w.heap.size (fun k_ => some k_ ≠ (.slice Ao22 t352.length co22 : Value).ownBlock ∧ some k_ ≠ (.slice Ao46 t365.length co46 : Value).ownBlock ∧ some k_ ≠ (.slice Ao59 t376.length co59 : Value).ownBlock ∧ some k_ ≠ (.slice Ao103 t387.length co103 : Value).ownBlock) (.slice Ao125 t398.length co125) t398) := ⟨by (with_reducible repeat (first | apply sm2_ | apply sm1_ | apply sm3_)); exact Kd.R_mono (Kd.R_far (p := ⟨gb402, 3, none⟩) (Kd.R_far (p := ⟨gb402, 2, none⟩) (Kd.R_far (p := ⟨gb402, 1, none⟩) (Kd.R_far (p := ⟨gb402, 0, none⟩) (Kd.R_types HO400.out BK402.out (by decide)) (fun _ hk => hk.2) (.int .i64 t395)) (fun _ hk => hk.2) (.bool t396)) (fun _ hk => hk.2) (.string t397)) (fun _ hk => hk.2) (.slice Ao125 t398.length co125)) (fun _ hk => ⟨hk.1.1.1.1.2, ⟨hk.1.1.1.2, ⟨hk.1.1.2, hk.1.2⟩⟩⟩)⟩); (have n7_ : Aside0 (((((w117.setCell ⟨gb402, 0, none⟩ (.int .i64 t395)).setCell ⟨gb402, 1, none⟩ (.bool t396)).setCell ⟨gb402, 2, none⟩ (.string t397)).setCell ⟨gb402, 3, none⟩ (.slice Ao125 t398.length co125)).heap[gb356]? = some (.cells #[.int .i64 t349, .bool t350, .string t351, .slice Ao22 t352.length co22] 26 (0, 0))) := ⟨by (with_reducible repeat (first | refine sm7_ ?_ _ | refine sm8_ ?_ | refine sm9_ ?_ _)); refine blk_far ?_ NB356_402.out _; (with_reducible repeat (first | refine sm7_ ?_ _ | refine sm8_ ?_ | refine sm9_ ?_ _)); refine blk_far ?_ NB356_402.out _; (with_reducible repeat (first | refine sm7_ ?_ _ | refine sm8_ ?_ | refine sm9_ ?_ _)); refine blk_far ?_ NB356_402.out _; (with_reducible repeat (first | refine sm7_ ?_ _ | refine sm8_ ?_ | refine sm9_ ?_ _)); refine blk_far ?_ NB356_402.out _; (with_reducible repeat (first | refine sm7_ ?_ _ | refine sm8_ ?_ | refine sm9_ ?_ _)); exact BK356.out⟩); (have n8_ : Aside0 (((((w117.setCell ⟨gb402, 0, none⟩ (.int .i64 t395)).setCell ⟨gb402, 1, none⟩ (.bool t396)).setCell ⟨gb402, 2, none⟩ (.string t397)).setCell ⟨gb402, 3, none⟩ (.slice Ao125 t398.length co125)).heap[gb357]? = some (.cells #[.int .i64 0, .string a1, .int .i64 a2] 30 (0, 0))) := ⟨by (with_reducible repeat (first | refine sm7_ ?_ _ | refine sm8_ ?_ | refine sm9_ ?_ _)); refine blk_far ?_ NB357_402.out _; (with_reducible repeat (first | refine sm7_ ?_ _ | refine sm8_ ?_ | refine sm9_ ?_ _)); refine blk_far ?_ NB357_402.out _; (with_reducible repeat (first | refine sm7_ ?_ _ | refine sm8_ ?_ | refine sm9_ ?_ _)); refine blk_far ?_ NB357_402.out _; (with_reducible repeat (first | refine sm7_ ?_ _ | refine sm8_ ?_ | refine sm9_ ?_ _)); refine blk_far ?_ NB357_402.out _; (with_reducible repeat (first | refine sm7_ ?_ _ | refine sm8_ ?_ | refine sm9_ ?_ _)); exact BK357.out⟩); (have n9_ : Aside0 (((((w117.setCell ⟨gb402, 0, none⟩ (.int .i64 t395)).setCell ⟨gb402, 1, none⟩ (.bool t396)).setCell ⟨gb402, 2, none⟩ (.string t397)).setCell ⟨gb402, 3, none⟩ (.slice Ao125 t398.length co125)).heap[gb358]? = some (.cells #[.int .i64 1, .string a1, .int .i64 0] 30 (0, 0))) := ⟨by (with_reducible repeat (first | refine sm7_ ?_ _ | refine sm8_ ?_ | refine sm9_ ?_ _)); refine blk_far ?_ NB358_402.out _; (with_reducible repeat (first | refine sm7_ ?_ _ | refine sm8_ ?_ | refine sm9_ ?_ _)); refine blk_far ?_ NB358_402.out _; (with_reducible repeat (first | refine sm7_ ?_ _ | refine sm8_ ?_ | refine sm9_ ?_ _)); refine blk_far ?_ NB358_402.out _; (with_reducible repeat (first | refine sm7_ ?_ _ | refine sm8_ ?_ | refine sm9_ ?_ _)); refine blk_far ?_ NB358_402.out _; (with_reducible repeat (first | refine sm7_ ?_ _ | refine sm8_ ?_ | refine sm9_ ?_ _)); exact BK358.out⟩); (have n10_ : Aside0 (((((w117.setCell ⟨gb402, 0, none⟩ (.int .i64 t395)).setCell ⟨gb402, 1, none⟩ (.bool t396)).setCell ⟨gb402, 2, none⟩ (.string t397)).setCell ⟨gb402, 3, none⟩ (.slice Ao125 t398.length co125)).heap[gb369]? = some (.cells #[.int .i64 t362, .bool t363, .string t364, .slice Ao46 t365.length co46] 26 (0, 0))) := ⟨by (with_reducible repeat (first | refine sm7_ ?_ _ | refine sm8_ ?_ | refine sm9_ ?_ _)); refine blk_far ?_ NB369_402.out _; (with_reducible repeat (first | refine sm7_ ?_ _ | refine sm8_ ?_ | refine sm9_ ?_ _)); refine blk_far ?_ NB369_402.out _; (with_reducible repeat (first | refine sm7_ ?_ _ | refine sm8_ ?_ | refine sm9_ ?_ _)); refine blk_far ?_ NB369_402.out _; (with_reducible repeat (first | refine sm7_ ?_ _ | refine sm8_ ?_ | refine sm9_ ?_ _)); refine blk_far ?_ NB369_402.out _; (with_reducible repeat (first | refine sm7_ ?_ _ | refine sm8_ ?_ | refine sm9_ ?_ _)); exact BK369.out⟩); (have n11_ : Aside0 (((((w117.setCell ⟨gb402, 0, none⟩ (.int .i64 t395)).setCell ⟨gb402, 1, none⟩ (.bool t396)).setCell ⟨gb402, 2, none⟩ (.string t397)).setCell ⟨gb402, 3, none⟩ (.slice Ao125 t398.length co125)).heap[gb380]? = some (.cells #[.int .i64 t373, .bool t374, .string t375, .slice Ao59 t376.length co59] 26 (0, 0))) := ⟨by (with_reducible repeat (first | refine sm7_ ?_ _ | refine sm8_ ?_ | refine sm9_ ?_ _)); refine blk_far ?_ NB380_402.out _; (with_reducible repeat (first | refine sm7_ ?_ _ | refine sm8_ ?_ | refine sm9_ ?_ _)); refine blk_far ?_ NB380_402.out _; (with_reducible repeat (first | refine sm7_ ?_ _ | refine sm8_ ?_ | refine sm9_ ?_ _)); refine blk_far ?_ NB380_402.out _; (with_reducible repeat (first | refine sm7_ ?_ _ | refine sm8_ ?_ | refine sm9_ ?_ _)); refine blk_far ?_ NB380_402.out _; (with_reducible repeat (first | refine sm7_ ?_ _ | refine sm8_ ?_ | refine sm9_ ?_ _)); exact BK380.out⟩); (have n12_ : Aside0 (((((w117.setCell ⟨gb402, 0, none⟩ (.int .i64 t395)).setCell ⟨gb402, 1, none⟩ (.bool t396)).setCell ⟨gb402, 2, none⟩ (.string t397)).setCell ⟨gb402, 3, none⟩ (.slice Ao125 t398.length co125)).heap[gb391]? = some (.cells #[.int .i64 t384, .bool t385, .string t386, .slice Ao103 t387.length co103] 26 (0, 0))) := ⟨by (with_reducible repeat (first | refine sm7_ ?_ _ | refine sm8_ ?_ | refine sm9_ ?_ _)); refine blk_far ?_ NB391_402.out _; (with_reducible repeat (first | refine sm7_ ?_ _ | refine sm8_ ?_ | refine sm9_ ?_ _)); refine blk_far ?_ NB391_402.out _; (with_reducible repeat (first | refine sm7_ ?_ _ | refine sm8_ ?_ | refine sm9_ ?_ _)); refine blk_far ?_ NB391_402.out _; (with_reducible repeat (first | refine sm7_ ?_ _ | refine sm8_ ?_ | refine sm9_ ?_ _)); refine blk_far ?_ NB391_402.out _; (with_reducible repeat (first | refine sm7_ ?_ _ | refine sm8_ ?_ | refine sm9_ ?_ _)); exact BK391.out⟩); (have n13_ : Aside0 (((((w117.setCell ⟨gb402, 0, none⟩ (.int .i64 t395)).setCell ⟨gb402, 1, none⟩ (.bool t396)).setCell ⟨gb402, 2, none⟩ (.string t397)).setCell ⟨gb402, 3, none⟩ (.slice Ao125 t398.length co125)).heap[gb402]? = some (.cells #[.int .i64 t395, .bool t396, .string t397, .slice Ao125 t398.length co125] 26 (0, 0))) := ⟨by (with_reducible repeat (first | refine sm7_ ?_ _ | refine sm8_ ?_ | refine sm9_ ?_ _)); refine blk_put (cs := #[.int .i64 t395, .bool t396, .string t397, .slice none 0 0]) ?_ 3 _ rfl; (with_reducible repeat (first | refine sm7_ ?_ _ | refine sm8_ ?_ | refine sm9_ ?_ _)); refine blk_put (cs := #[.int .i64 t395, .bool t396, .string (⟨#[]⟩ : ByteArray), .slice none 0 0]) ?_ 2 _ rfl; (with_reducible repeat (first | refine sm7_ ?_ _ | refine sm8_ ?_ | refine sm9_ ?_ _)); refine blk_put (cs := #[.int .i64 t395, .bool false, .string (⟨#[]⟩ : ByteArray), .slice none 0 0]) ?_ 1 _ rfl; (with_reducible repeat (first | refine sm7_ ?_ _ | refine sm8_ ?_ | refine sm9_ ?_ _)); refine blk_put (cs := #[.int .i64 0, .bool false, .string (⟨#[]⟩ : ByteArray), .slice none 0 0]) ?_ 0 _ rfl; (with_reducible repeat (first | refine sm7_ ?_ _ | refine sm8_ ?_ | refine sm9_ ?_ _)); exact BK402.out⟩); (have n14_ : Aside0 (Below w.heap.size w ((((w117.setCell ⟨gb402, 0, none⟩ (.int .i64 t395)).setCell ⟨gb402, 1, none⟩ (.bool t396)).setCell ⟨gb402, 2, none⟩ (.string t397)).setCell ⟨gb402, 3, none⟩ (.slice Ao125 t398.length co125))) := ⟨by repeat (first | (with_reducible first | exact HB.out | apply sm4_ | apply sl9_ | apply sm5_ | refine sn3_ ?_ GE356.out | refine sn3_ ?_ GE357.out | refine sn3_ ?_ GE358.out | refine sn3_ ?_ GE369.out | refine sn3_ ?_ GE380.out | refine sn3_ ?_ GE391.out | refine sn3_ ?_ GE402.out) | exact HB.out)⟩); ((try clear HO_357003)); ((try clear HO_370003)); ((try clear HO_381003)); ((try clear HO383)); ((try clear HO389)); ((try clear HO394)); ((try clear HO400)); ((try clear BK356)); ((try clear BK357)); ((try clear BK358)); ((try clear BK369)); ((try clear BK380)); ((try clear BK391)); ((try clear BK402)); ((try clear HB)); (generalize ((((w117.setCell ⟨gb402, 0, none⟩ (.int .i64 t395)).setCell ⟨gb402, 1, none⟩ (.bool t396)).setCell ⟨gb402, 2, none⟩ (.string t397)).setCell ⟨gb402, 3, none⟩ (.slice Ao125 t398.length co125)) = w126 at n0_ n1_ n2_ n3_ n4_ n5_ n6_ n7_ n8_ n9_ n10_ n11_ n12_ n13_ n14_ ⊢); have HO_357003 := n0_; have HO_370003 := n1_; have HO_381003 := n2_; have HO383 := n3_; have HO389 := n4_; have HO394 := n5_; have HO400 := n6_; have BK356 := n7_; have BK357 := n8_; have BK358 := n9_; have BK369 := n10_; have BK380 := n11_; have BK391 := n12_; have BK402 := n13_; have HB := n14_; clear n0_ n1_ n2_ n3_ n4_ n5_ n6_ n7_ n8_ n9_ n10_ n11_ n12_ n13_ n14_; have n0_ := A0_ (sm3_ HO_357003.out); have n1_ := A0_ (sm3_ HO_370003.out); have n2_ := A0_ (sm3_ HO_381003.out); have n3_ := A0_ (sm3_ HO383.out); have n4_ := A0_ (sm3_ HO389.out); have n5_ := A0_ (sm3_ HO394.out); have n6_ := A0_ (sm3_ HO400.out); have n7_ := A0_ (sm8_ BK356.out); have n8_ := A0_ (sm8_ BK357.out); have n9_ := A0_ (sm8_ BK358.out); have n10_ := A0_ (sm8_ BK369.out); have n11_ := A0_ (sm8_ BK380.out); have n12_ := A0_ (sm8_ BK391.out); have n13_ := A0_ (sm8_ BK402.out); have n14_ := A0_ (sm5_ HB.out); clear HO_357003 HO_370003 HO_381003 HO383 HO389 HO394 HO400 BK356 BK357 BK358 BK369 BK380 BK391 BK402 HB; have HO_357003 := n0_; have HO_370003 := n1_; have HO_381003 := n2_; have HO383 := n3_; have HO389 := n4_; have HO394 := n5_; have HO400 := n6_; have BK356 := n7_; have BK357 := n8_; have BK358 := n9_; have BK369 := n10_; have BK380 := n11_; have BK391 := n12_; have BK402 := n13_; have HB := n14_; clear n0_ n1_ n2_ n3_ n4_ n5_ n6_ n7_ n8_ n9_ n10_ n11_ n12_ n13_ n14_; (refine start_ (n := 15) (S := fun w' => w'.cell? ⟨gb391, 0, none⟩ = some (.int .i64 t384) ∧ w'.cell? ⟨gb391, 1, none⟩ = some (.bool t385) ∧ w'.cell? ⟨gb391, 2, none⟩ = some (.string t386) ∧ w'.cell? ⟨gb391, 3, none⟩ = some (.slice Ao103 t387.length co103) ∧ w'.cell? ⟨gb402, 0, none⟩ = some (.int .i64 t395) ∧ w'.cell? ⟨gb402, 1, none⟩ = some (.bool t396) ∧ w'.cell? ⟨gb402, 2, none⟩ = some (.string t397) ∧ w'.cell? ⟨gb402, 3, none⟩ = some (.slice Ao125 t398.length co125)) (ds := []) #[f_, f_, f_, f_, f_, f_, f_, f_, f_, f_, f_, f_, f_, f_, f_] (by kernel_rfl) rfl rfl ⟨(blk_cell BK391.out 0).trans rfl, (blk_cell BK391.out 1).trans rfl, (blk_cell BK391.out 2).trans rfl, (blk_cell BK391.out 3).trans rfl, (blk_cell BK402.out 0).trans rfl, (blk_cell BK402.out 1).trans rfl, (blk_cell BK402.out 2).trans rfl, (blk_cell BK402.out 3).trans rfl⟩ (fun hHeld => ?_); refine with_tabW laws_FnTrieUndo.tab18 laws_FnTrieUndo.bits18 (fun HT_ HW_ => ?_)); (generalize w126.drew = w127 at HO_357003 HO_370003 HO_381003 HO383 HO389 HO394 HO400 BK356 BK357 BK358 BK369 BK380 BK391 BK402 HB hHeld ⊢); refine pure_ (i := 0) (N := some 120) (v := ?_) (a' := ?_) #[t_, f_, f_, f_, f_, f_, f_, f_, f_, f_, f_, f_, f_, f_, f_] rfl rfl (any_of HT_.out (by kernel_rfl)) (fun _ _ _ h => h) (Or.inl ⟨by rfl, ?_⟩) ?_ ?_; rotate_left
                         · intro w'
                           (go_simp); (with_reducible rfl)
                         rotate_left
                         · simp only [Act.put, sl1_, sl2_, sl3_, i64_w, i32_w]
                           rfl
                         refine pure_ (i := 1) (N := some 121) (v := ?_) (a' := ?_) #[t_, t_, f_, f_, f_, f_, f_, f_, f_, f_, f_, f_, f_, f_, f_] rfl rfl (any_of HT_.out (by kernel_rfl)) (fun _ _ _ h => h) (Or.inl ⟨by rfl, ?_⟩) ?_ ?_; rotate_left
                         · intro w'
                           (go_simp); (with_reducible rfl)
                         rotate_left
                         · simp only [Act.put, sl1_, sl2_, sl3_, i64_w, i32_w]
                           rfl
                         refine pure_ (i := 2) (N := some 122) (v := ?_) (a' := ?_) #[t_, t_, t_, f_, f_, f_, f_, f_, f_, f_, f_, f_, f_, f_, f_] rfl rfl (any_of HT_.out (by kernel_rfl)) (fun _ _ _ h => h) (Or.inl ⟨by rfl, ?_⟩) ?_ ?_; rotate_left
                         · intro w'
                           (go_simp); (with_reducible rfl)
                         rotate_left
                         · simp only [Act.put, sl1_, sl2_, sl3_, i64_w, i32_w]
                           rfl
                         refine pure_ (i := 3) (N := some 123) (v := ?_) (a' := ?_) #[t_, t_, t_, t_, f_, f_, f_, f_, f_, f_, f_, f_, f_, f_, f_] rfl rfl (any_of HT_.out (by kernel_rfl)) (fun _ _ _ h => h) (Or.inl ⟨by rfl, ?_⟩) ?_ ?_; rotate_left
                         · intro w'
                           (go_simp); (with_reducible rfl)
                         rotate_left
                         · simp only [Act.put, sl1_, sl2_, sl3_, i64_w, i32_w]
                           rfl
                         refine pure_ (i := 4) (N := some 124) (v := ?_) (a' := ?_) #[t_, t_, t_, t_, t_, f_, f_, f_, f_, f_, f_, f_, f_, f_, f_] rfl rfl (any_of HT_.out (by kernel_rfl)) (fun _ _ _ h => h) (Or.inl ⟨by rfl, ?_⟩) ?_ ?_; rotate_left
                         · intro w'
                           (go_simp); (with_reducible rfl)
                         rotate_left
                         · simp only [Act.put, sl1_, sl2_, sl3_, i64_w, i32_w]
                           rfl
                         refine pure_ (i := 5) (N := some 125) (v := ?_) (a' := ?_) #[t_, t_, t_, t_, t_, t_, f_, f_, f_, f_, f_, f_, f_, f_, f_] rfl rfl (any_of HT_.out (by kernel_rfl)) (fun _ _ _ h => h) (Or.inl ⟨by rfl, ?_⟩) ?_ ?_; rotate_left
                         · intro w'
                           (go_simp); (with_reducible rfl)
                         rotate_left
                         · simp only [Act.put, sl1_, sl2_, sl3_, i64_w, i32_w]
                           rfl
                         refine pure_ (i := 6) (N := some 126) (v := ?_) (a' := ?_) #[t_, t_, t_, t_, t_, t_, t_, f_, f_, f_, f_, f_, f_, f_, f_] rfl rfl (any_of HT_.out (by kernel_rfl)) (fun _ _ _ h => h) (Or.inl ⟨by rfl, ?_⟩) ?_ ?_; rotate_left
                         · intro w'
                           (go_simp); (with_reducible rfl)
                         rotate_left
                         · simp only [Act.put, sl1_, sl2_, sl3_, i64_w, i32_w]
                           rfl
                         refine pure_ (i := 7) (N := some 127) (v := ?_) (a' := ?_) #[t_, t_, t_, t_, t_, t_, t_, t_, f_, f_, f_, f_, f_, f_, f_] rfl rfl (any_of HT_.out (by kernel_rfl)) (fun _ _ _ h => h) (Or.inl ⟨by rfl, ?_⟩) ?_ ?_; rotate_left
                         · intro w'
                           (go_simp); (with_reducible rfl)
                         rotate_left
                         · simp only [Act.put, sl1_, sl2_, sl3_, i64_w, i32_w]
                           rfl
                         refine pure_ (i := 10) (N := some 130) (v := ?_) (a' := ?_) #[t_, t_, t_, t_, t_, t_, t_, t_, f_, f_, t_, f_, f_, f_, f_] rfl rfl (any_of HT_.out (by kernel_rfl)) (fun _ _ _ h => h) (Or.inl ⟨by rfl, ?_⟩) ?_ ?_; rotate_left
                         · intro w'
                           (go_simp); (with_reducible rfl)
                         rotate_left
                         · simp only [Act.put, sl1_, sl2_, sl3_, i64_w, i32_w]
                           rfl
                         refine take_ (i := 8) (N := some 128) (v := ?_) (a' := ?_) #[t_, t_, t_, t_, t_, t_, t_, t_, t_, f_, t_, f_, f_, f_, f_] rfl rfl (take_ofW HT_.out HW_.out (by kernel_rfl)) (fun _ _ _ h => h) (Or.inl ⟨by rfl, ?_⟩) hHeld ?_ ?_; rotate_left
                         · rintro w' ⟨s0, s1, s2, s3, s4, s5, s6, s7⟩
                           (go_simp); (with_reducible rfl)
                         rotate_left
                         · simp only [Act.put, sl1_, sl2_, sl3_, i64_w, i32_w]
                           rfl
                         refine take_ (i := 9) (N := some 129) (v := ?_) (a' := ?_) #[t_, t_, t_, t_, t_, t_, t_, t_, t_, t_, t_, f_, f_, f_, f_] rfl rfl (take_ofW HT_.out HW_.out (by kernel_rfl)) (fun _ _ _ h => h) (Or.inl ⟨by rfl, ?_⟩) hHeld ?_ ?_; rotate_left
                         · rintro w' ⟨s0, s1, s2, s3, s4, s5, s6, s7⟩
                           (go_simp); (with_reducible rfl)
                         rotate_left
                         · simp only [Act.put, sl1_, sl2_, sl3_, i64_w, i32_w]
                           rfl
                         refine one_ (i := 11) (N := some 131) #[t_, t_, t_, t_, t_, t_, t_, t_, t_, t_, t_, t_, f_, f_, f_] rfl rfl (one_of HT_.out (by kernel_rfl)) (by decide) (fun K hK => ?_); (refine goes_ Try.func11 (by kernel_rfl) rfl #[.slice A0 l0.length c0] (by rfl) rfl rfl (by (try simp only [List.map_toArray, List.map_cons, List.map_nil]); first | done | rfl | (simp only [List.length_drop, sp2_]; rfl)) ?_); (with_reducible refine (spec_Removed.calls k4 _ _ l0 t403 _ ?side1 ?side2 A89.out).mono ?_); ((case side1 => repeat (first | exact (Kd.C_below HR0.out HB.out) | (with_reducible refine sp8_ ?_ _) | (with_reducible refine sp9_ ?_ _) | (with_reducible refine sq1_ ?_)))); ((case side2 => exact HC0.out)); (rintro e w128 ⟨rfl, hb⟩); refine ⟨_, rfl, ?_⟩; have n0_ := A0_ (Kd.R_below (kr_ HO_357003.out) hb); have n1_ := A0_ (Kd.R_below (kr_ HO_370003.out) hb); have n2_ := A0_ (Kd.R_below (kr_ HO_381003.out) hb); have n3_ := A0_ (Kd.R_below (kr_ HO383.out) hb); have n4_ := A0_ (Kd.R_below (kr_ HO389.out) hb); have n5_ := A0_ (Kd.R_below (kr_ HO394.out) hb); have n6_ := A0_ (Kd.R_below (kr_ HO400.out) hb); have n7_ := A0_ (sn4_ (g := gb356) (o := .cells #[.int .i64 t349, .bool t350, .string t351, .slice Ao22 t352.length co22] 26 (0, 0)) (kb_ BK356.out) hb); have n8_ := A0_ (sn4_ (g := gb357) (o := .cells #[.int .i64 0, .string a1, .int .i64 a2] 30 (0, 0)) (kb_ BK357.out) hb); have n9_ := A0_ (sn4_ (g := gb358) (o := .cells #[.int .i64 1, .string a1, .int .i64 0] 30 (0, 0)) (kb_ BK358.out) hb); have n10_ := A0_ (sn4_ (g := gb369) (o := .cells #[.int .i64 t362, .bool t363, .string t364, .slice Ao46 t365.length co46] 26 (0, 0)) (kb_ BK369.out) hb); have n11_ := A0_ (sn4_ (g := gb380) (o := .cells #[.int .i64 t373, .bool t374, .string t375, .slice Ao59 t376.length co59] 26 (0, 0)) (kb_ BK380.out) hb); have n12_ := A0_ (sn4_ (g := gb391) (o := .cells #[.int .i64 t384, .bool t385, .string t386, .slice Ao103 t387.length co103] 26 (0, 0)) (kb_ BK391.out) hb); have n13_ := A0_ (sn4_ (g := gb402) (o := .cells #[.int .i64 t395, .bool t396, .string t397, .slice Ao125 t398.length co125] 26 (0, 0)) (kb_ BK402.out) hb); (have n14_ := A0_ (sn2_ (by repeat (first | (with_reducible first | exact HB.out | apply sm4_ | apply sl9_ | apply sm5_ | refine sn3_ ?_ GE356.out | refine sn3_ ?_ GE357.out | refine sn3_ ?_ GE358.out | refine sn3_ ?_ GE369.out | refine sn3_ ?_ GE380.out | refine sn3_ ?_ GE391.out | refine sn3_ ?_ GE402.out) | exact HB.out)) hb)); clear HO_357003 HO_370003 HO_381003 HO383 HO389 HO394 HO400 BK356 BK357 BK358 BK369 BK380 BK391 BK402 HB; have HO_357003 := n0_; have HO_370003 := n1_; have HO_381003 := n2_; have HO383 := n3_; have HO389 := n4_; have HO394 := n5_; have HO400 := n6_; have BK356 := n7_; have BK357 := n8_; have BK358 := n9_; have BK369 := n10_; have BK380 := n11_; have BK391 := n12_; have BK402 := n13_; have HB := n14_; clear n0_ n1_ n2_ n3_ n4_ n5_ n6_ n7_ n8_ n9_ n10_ n11_ n12_ n13_ n14_; ((try clear hb)); ((try clear hb2)); ((try clear hk)); ((try clear hi)); refine hK.out _ _ ⟨(blk_cell BK391.out 0).trans rfl, (blk_cell BK391.out 1).trans rfl, (blk_cell BK391.out 2).trans rfl, (blk_cell BK391.out 3).trans rfl, (blk_cell BK402.out 0).trans rfl, (blk_cell BK402.out 1).trans rfl, (blk_cell BK402.out 2).trans rfl, (blk_cell BK402.out 3).trans rfl⟩ (fun hHeld => ?_); clear hK K; refine norm_ (a' := ?_) ?_ ?_; rotate_left
                         · show Act.put _ (some 131) _ = _
                           (simp only [Act.put, sl1_, sl2_, sl3_, i64_w, i32_w]); (rfl)
                         refine one_ (i := 12) (N := some 132) #[t_, t_, t_, t_, t_, t_, t_, t_, t_, t_, t_, t_, t_, f_, f_] rfl rfl (one_of HT_.out (by kernel_rfl)) (by decide) (fun K hK => ?_); (refine goes_ Try.func16 (by kernel_rfl) rfl #[.int .i64 x17_4, .agg #[.int .i64 t384, .bool t385, .string t386, .slice Ao103 t387.length co103], .agg #[.int .i64 t395, .bool t396, .string t397, .slice Ao125 t398.length co125], .bool t403] (by rfl) rfl rfl (by (try simp only [List.map_toArray, List.map_cons, List.map_nil]); first | done | rfl | (simp only [List.length_drop, sp2_]; rfl)) ?_); (with_reducible refine (laws_wordSame.calls k4 x17_4 t384 t385 t386 _ _ t387 t395 t396 t397 _ _ t398 t403 true _ ?side1 ?side2 ?side3 ?side4 A90.out).mono ?_); ((case side1 => repeat (first | exact (Kd.R_reads' HO389.out).2.2 | (with_reducible refine sp8_ ?_ _) | (with_reducible refine sp9_ ?_ _) | (with_reducible refine sq1_ ?_)))); ((case side2 => exact (Kd.R_reads' HO389.out).2.1)); ((case side3 => repeat (first | exact (Kd.R_reads' HO400.out).2.2 | (with_reducible refine sp8_ ?_ _) | (with_reducible refine sp9_ ?_ _) | (with_reducible refine sq1_ ?_)))); ((case side4 => exact (Kd.R_reads' HO400.out).2.1)); (rintro e w129 ⟨rfl, hb⟩); refine ⟨_, rfl, ?_⟩; have n0_ := A0_ (Kd.R_below (kr_ HO_357003.out) hb); have n1_ := A0_ (Kd.R_below (kr_ HO_370003.out) hb); have n2_ := A0_ (Kd.R_below (kr_ HO_381003.out) hb); have n3_ := A0_ (Kd.R_below (kr_ HO383.out) hb); have n4_ := A0_ (Kd.R_below (kr_ HO389.out) hb); have n5_ := A0_ (Kd.R_below (kr_ HO394.out) hb); have n6_ := A0_ (Kd.R_below (kr_ HO400.out) hb); have n7_ := A0_ (sn4_ (g := gb356) (o := .cells #[.int .i64 t349, .bool t350, .string t351, .slice Ao22 t352.length co22] 26 (0, 0)) (kb_ BK356.out) hb); have n8_ := A0_ (sn4_ (g := gb357) (o := .cells #[.int .i64 0, .string a1, .int .i64 a2] 30 (0, 0)) (kb_ BK357.out) hb); have n9_ := A0_ (sn4_ (g := gb358) (o := .cells #[.int .i64 1, .string a1, .int .i64 0] 30 (0, 0)) (kb_ BK358.out) hb); have n10_ := A0_ (sn4_ (g := gb369) (o := .cells #[.int .i64 t362, .bool t363, .string t364, .slice Ao46 t365.length co46] 26 (0, 0)) (kb_ BK369.out) hb); have n11_ := A0_ (sn4_ (g := gb380) (o := .cells #[.int .i64 t373, .bool t374, .string t375, .slice Ao59 t376.length co59] 26 (0, 0)) (kb_ BK380.out) hb); have n12_ := A0_ (sn4_ (g := gb391) (o := .cells #[.int .i64 t384, .bool t385, .string t386, .slice Ao103 t387.length co103] 26 (0, 0)) (kb_ BK391.out) hb); have n13_ := A0_ (sn4_ (g := gb402) (o := .cells #[.int .i64 t395, .bool t396, .string t397, .slice Ao125 t398.length co125] 26 (0, 0)) (kb_ BK402.out) hb); (have n14_ := A0_ (sn2_ (by repeat (first | (with_reducible first | exact HB.out | apply sm4_ | apply sl9_ | apply sm5_ | refine sn3_ ?_ GE356.out | refine sn3_ ?_ GE357.out | refine sn3_ ?_ GE358.out | refine sn3_ ?_ GE369.out | refine sn3_ ?_ GE380.out | refine sn3_ ?_ GE391.out | refine sn3_ ?_ GE402.out) | exact HB.out)) hb)); clear HO_357003 HO_370003 HO_381003 HO383 HO389 HO394 HO400 BK356 BK357 BK358 BK369 BK380 BK391 BK402 HB; have HO_357003 := n0_; have HO_370003 := n1_; have HO_381003 := n2_; have HO383 := n3_; have HO389 := n4_; have HO394 := n5_; have HO400 := n6_; have BK356 := n7_; have BK357 := n8_; have BK358 := n9_; have BK369 := n10_; have BK380 := n11_; have BK391 := n12_; have BK402 := n13_; have HB := n14_; clear n0_ n1_ n2_ n3_ n4_ n5_ n6_ n7_ n8_ n9_ n10_ n11_ n12_ n13_ n14_; ((try clear hb)); ((try clear hb2)); ((try clear hk)); ((try clear hi)); refine hK.out _ _ ⟨(blk_cell BK391.out 0).trans rfl, (blk_cell BK391.out 1).trans rfl, (blk_cell BK391.out 2).trans rfl, (blk_cell BK391.out 3).trans rfl, (blk_cell BK402.out 0).trans rfl, (blk_cell BK402.out 1).trans rfl, (blk_cell BK402.out 2).trans rfl, (blk_cell BK402.out 3).trans rfl⟩ (fun hHeld => ?_); clear hK K; refine norm_ (a' := ?_) ?_ ?_; rotate_left
                         · show Act.put _ (some 132) _ = _
                           (simp only [Act.put, sl1_, sl2_, sl3_, i64_w, i32_w]); (rfl)
                         refine pure_ (i := 13) (N := some 133) (v := ?_) (a' := ?_) #[t_, t_, t_, t_, t_, t_, t_, t_, t_, t_, t_, t_, t_, t_, f_] rfl rfl (any_of HT_.out (by kernel_rfl)) (fun _ _ _ h => h) (Or.inl ⟨by rfl, ?_⟩) ?_ ?_; rotate_left
                         · intro w'
                           (go_simp); (with_reducible rfl)
                         rotate_left
                         · simp only [Act.put, sl1_, sl2_, sl3_, i64_w, i32_w]
                           rfl
                         refine pure_ (i := 14) (N := some 134) (v := ?_) (a' := ?_) #[t_, t_, t_, t_, t_, t_, t_, t_, t_, t_, t_, t_, t_, t_, t_] rfl rfl (any_of HT_.out (by kernel_rfl)) (fun _ _ _ h => h) (Or.inl ⟨by rfl, ?_⟩) ?_ ?_; rotate_left
                         · intro w'
                           (go_simp); (with_reducible rfl)
                         rotate_left
                         · simp only [Act.put, sl1_, sl2_, sl3_, i64_w, i32_w]
                           rfl
                         refine done_ (done_of HT_.out (by kernel_rfl)) ?_; (try go_wp2); (go_roundg k4)
                         case measure => have := HJ4.out; have := HJ14.out; have := HJ28.out; have := HK4.out; omega
                         case rel => exact ⟨(wrap64 (x17_4 + 1)), (by first | rfl | (simp; done) | (simp [*]; done)), H', ⟨by have := HJ4.out; have := HJ14.out; have := HJ28.out; have := HK4.out; omega⟩, ⟨by (with_reducible repeat (first | apply sm2_ | apply sm1_ | apply sm3_)); exact Kd.R_mono HO_357003.out (fun _ hk => ⟨hk.1, hk.2.1⟩)⟩, ⟨by (with_reducible repeat (first | apply sm2_ | apply sm1_ | apply sm3_)); exact Kd.R_mono HO_370003.out (fun _ hk => ⟨hk.1, hk.2.1⟩)⟩, ⟨by (with_reducible repeat (first | apply sm2_ | apply sm1_ | apply sm3_)); exact Kd.R_mono HO_381003.out (fun _ hk => ⟨hk.1, hk.2.1⟩)⟩, ⟨by (with_reducible repeat (first | refine sm7_ ?_ _ | refine sm8_ ?_ | refine sm9_ ?_ _)); exact BK356.out⟩, ⟨by (with_reducible repeat (first | refine sm7_ ?_ _ | refine sm8_ ?_ | refine sm9_ ?_ _)); exact BK357.out⟩, ⟨by (with_reducible repeat (first | refine sm7_ ?_ _ | refine sm8_ ?_ | refine sm9_ ?_ _)); exact BK358.out⟩, ⟨by (with_reducible repeat (first | refine sm7_ ?_ _ | refine sm8_ ?_ | refine sm9_ ?_ _)); exact BK369.out⟩, ⟨by (with_reducible repeat (first | refine sm7_ ?_ _ | refine sm8_ ?_ | refine sm9_ ?_ _)); exact BK380.out⟩, ⟨by repeat (first | (with_reducible first | exact HB.out | apply sm4_ | apply sl9_ | apply sm5_ | refine sn3_ ?_ GE356.out | refine sn3_ ?_ GE357.out | refine sn3_ ?_ GE358.out | refine sn3_ ?_ GE369.out | refine sn3_ ?_ GE380.out | refine sn3_ ?_ GE391.out | refine sn3_ ?_ GE402.out) | exact HB.out)⟩⟩
                       · replace c91 := Bool.eq_false_iff.mpr c91
                         subst c91; (have H1 : (none) = some r := by rw [if_neg (show ¬ (false = true) by decide)] at H; exact H); exact absurd H1 (by simp)
                     · replace c88 := Bool.eq_false_iff.mpr c88
                       subst c88; (have H1 : (none) = some r := by rw [if_neg (show ¬ (false = true) by decide)] at H; exact H); exact absurd H1 (by simp)
                   · replace c87 := Bool.eq_false_iff.mpr c87
                     subst c87; (have H1 : (none) = some r := by rw [if_neg (show ¬ (false = true) by decide)] at H; exact H); exact absurd H1 (by simp)
                 · rw [if_neg c84] at H
                   have c84b0 : decide (x17_4 ≤ 7) = false := decide_eq_false c84; clear c84; obtain rfl := Option.some.inj H; (go_wp2); (go_ret); (exact ⟨by first | rfl | (simp [errW_none, errW_some] <;> rfl) | (simp [*, errW_none, errW_some] <;> rfl), by repeat (first | (with_reducible first | exact HB.out | apply sm4_ | apply sl9_ | apply sm5_ | refine sn3_ ?_ GE356.out | refine sn3_ ?_ GE357.out | refine sn3_ ?_ GE358.out | refine sn3_ ?_ GE369.out | refine sn3_ ?_ GE380.out) | exact HB.out)⟩)
     · replace c14 := Bool.eq_false_iff.mpr c14
       subst c14; (have H1 : (none) = some r := by rw [if_neg (show ¬ (false = true) by decide)] at H; exact H); exact absurd H1 (by simp)
end Go.Proofs.Ytkgbflcbeeghoaa.QFnTrieUndo

namespace Go.Proofs.Ytkgbflcbeeghoaa.Pure
open Go Go.RowKit Go.IntWalk Go.Proofs.Ytkgbflcbeeghoaa.QFnTrieUndo Go.Proofs.YtkgbflcbeeghoaaW.PrintWords Go.Proofs.YtkgbflcbeeghoaaW.PrintLast
theorem w1 (q : Nat) (h : q ≤ 1099511627776) : wrap64 ((q : Int) + 1) = ((q + 1 : Nat) : Int) := by rw [wrap64_in _ (by omega)]; rfl
theorem wm (q : Nat) (h : q ≤ 1099511627776) : wrap64 (((q + 1 : Nat) : Int) - 1) = (q : Int) := by rw [wrap64_in _ (by omega)]; omega
theorem rd_word {l : List S30} {i : Nat} {x : S30} (h : l[i]? = some x) : rd_T30 l (i : Int) = x := by simp [rd_T30, List.getD_eq_getElem?_getD, h]
theorem rd_str {l : List ByteArray} {i : Nat} (h : i < l.length) : rdOf ByteArray.empty l (i : Int) = l[i] := by simp [rdOf, List.getD_eq_getElem?_getD, h]
/-- All texts of a script are short. -/
def short (l : List S30) : Bool := l.all fun x => decide (x.f1.size ≤ 2147483647)
theorem fits6_row (l : List S30) (hl : l.length ≤ 2147483647) (d : Nat) : ∀ j : Nat, j + d = l.length → Ev (fun k => laws_zzFits6.l0 k l (l.length : Int) (j : Int)) (short (l.drop j)) := by
  induction d with
  | zero =>
    intro j hj
    refine Ev.step (f := fun _ => some (short (l.drop j))) (fun k => ?_) (Ev.now _)
    simp only [laws_zzFits6.l0]
    rw [if_neg (by omega), List.drop_eq_nil_of_le (by omega)]
    rfl
  | succ d ih =>
    intro j hj
    have hjl : j < l.length := by omega
    have hx : l[j]? = some l[j] := List.getElem?_eq_getElem hjl
    have hd : l.drop j = l[j] :: l.drop (j + 1) := List.drop_eq_getElem_cons hjl
    generalize l[j] = x at hx hd
    by_cases q : x.f1.size ≤ 2147483647
    · have e : short (l.drop j) = short (l.drop (j + 1)) := by rw [hd]; simp [short, q]
      rw [e]
      refine Ev.step (fun k => ?_) (ih (j + 1) (by omega))
      simp only [laws_zzFits6.l0]
      rw [if_pos (by omega), if_pos (by omega), if_pos (by omega), rd_word hx]
      unfold laws_zzFits7.f
      rw [if_neg (by omega), Option.bind_some, if_pos rfl, w1 j (by omega)]
    · have e : short (l.drop j) = false := by rw [hd]; simp [short, q]
      rw [e]
      refine Ev.step (f := fun _ => some false) (fun k => ?_) (Ev.now _)
      simp only [laws_zzFits6.l0]
      rw [if_pos (by omega), if_pos (by omega), if_pos (by omega), rd_word hx]
      unfold laws_zzFits7.f
      rw [if_pos (by omega), Option.bind_some, if_neg (by simp)]
theorem fits6_ev (l : List S30) (hl : l.length ≤ 2147483647) : Ev (fun k => laws_zzFits6.f k l) (short l) := by
  refine Ev.congr (fun k => ?_) (fits6_row l hl l.length 0 (Nat.zero_add _))
  unfold laws_zzFits6.f
  rw [if_neg (by omega)]
  rfl
theorem fits6_long (l : List S30) (hl : ¬ l.length ≤ 2147483647) (k : Nat) : laws_zzFits6.f k l = some false := by
  unfold laws_zzFits6.f
  rw [if_pos (by omega)]
theorem toList_wd (s : ByteArray) : s.toList = Trie.wd s := ByteArray.toList_eq s
theorem pre_take : ∀ (h t : TriePure.W), TriePure.T.pre h t = decide (t.take h.length = h)
  | [], t => by simp [TriePure.T.pre]
  | a :: h, [] => by simp [TriePure.T.pre]
  | a :: h, b :: t => by
    have := pre_take h t
    simp only [TriePure.T.pre, List.length_cons, List.take_succ_cons, List.cons.injEq]
    rw [this]
    by_cases q : a = b
    · subst q; simp
    · simp [q, Ne.symm q]
theorem begins_ev (a b : ByteArray) : spec_Begins.f a b = some (TriePure.T.pre (Trie.wd b) (Trie.wd a)) := by
  unfold spec_Begins.f
  by_cases q : b.size ≤ a.size
  · rw [if_pos (by omega), if_pos (by omega), if_pos (by omega), pre_take]
    have h1 : (a.extract 0 ((b.size : Int)).toNat).toList = (Trie.wd a).take (Trie.wd b).length := by
      rw [toList_wd]
      simp [Trie.wd]
    rw [h1, toList_wd]
    congr 1
    rw [Bool.eq_iff_iff, beq_iff_eq, decide_eq_true_iff]
  · rw [if_neg (by omega), pre_take]
    congr 1
    symm
    rw [decide_eq_false_iff_not]
    intro e
    have := congrArg List.length e
    simp [Trie.wd] at this
    omega
theorem with_row (l : List ByteArray) (h : ByteArray) (hl : l.length ≤ 1099511627776) (d : Nat) : ∀ (j : Nat) (o : List ByteArray), j + d = l.length → o.length ≤ j → Ev (fun k => spec_With.l0 k l h o (j : Int)) (o ++ (l.drop j).filter (fun t => TriePure.T.pre (Trie.wd h) (Trie.wd t))) := by
  induction d with
  | zero =>
    intro j o hj _
    refine Ev.step (f := fun _ => some (o ++ (l.drop j).filter (fun t => TriePure.T.pre (Trie.wd h) (Trie.wd t)))) (fun k => ?_) (Ev.now _)
    simp only [spec_With.l0]
    rw [if_neg (by omega), List.drop_eq_nil_of_le (by omega)]
    simp
  | succ d ih =>
    intro j o hj ho
    have hjl : j < l.length := by omega
    have hd : l.drop j = l[j] :: l.drop (j + 1) := List.drop_eq_getElem_cons hjl
    cases q : TriePure.T.pre (Trie.wd h) (Trie.wd l[j]) with
    | true =>
      have e : o ++ (l.drop j).filter (fun t => TriePure.T.pre (Trie.wd h) (Trie.wd t)) = (o ++ [l[j]]) ++ (l.drop (j + 1)).filter (fun t => TriePure.T.pre (Trie.wd h) (Trie.wd t)) := by rw [hd, List.filter_cons_of_pos (p := fun t => TriePure.T.pre (Trie.wd h) (Trie.wd t)) q, List.append_assoc]; rfl
      rw [e]
      refine Ev.step (fun k => ?_) (ih (j + 1) (o ++ [l[j]]) (by omega) (by simp; omega))
      simp only [spec_With.l0]
      rw [if_pos (by omega), if_pos (by omega), rd_str hjl, begins_ev, Option.bind_some, q, if_pos rfl, if_pos (by omega), w1 j (by omega)]
    | false =>
      have e : o ++ (l.drop j).filter (fun t => TriePure.T.pre (Trie.wd h) (Trie.wd t)) = o ++ (l.drop (j + 1)).filter (fun t => TriePure.T.pre (Trie.wd h) (Trie.wd t)) := by rw [hd, List.filter_cons_of_neg (by rw [q]; simp)]
      rw [e]
      refine Ev.step (fun k => ?_) (ih (j + 1) o (by omega) (by omega))
      simp only [spec_With.l0]
      rw [if_pos (by omega), if_pos (by omega), rd_str hjl, begins_ev, Option.bind_some, q, if_neg (by simp), w1 j (by omega)]
theorem with_ev (l : List ByteArray) (h : ByteArray) (hl : l.length ≤ 1099511627776) : Ev (fun k => spec_With.f k l h) (l.filter (fun t => TriePure.T.pre (Trie.wd h) (Trie.wd t))) := with_row l h hl l.length 0 [] (Nat.zero_add _) (Nat.zero_le _)
/-- What KeysWithPrefix tells, of any head. -/
theorem keysOf_eq {i : Nat} {t : TriePure.T} (h : Trie.Okt i t) (s : ByteArray) : Trie.keysOf t s = ((TriePure.heads (TriePure.T.words t)).filter (TriePure.T.pre (Trie.wd s))).map Trie.st := by
  unfold Trie.keysOf
  split
  · rename_i h0
    rw [Trie.wd_nil h0]
    unfold Trie.keysT Trie.texts TriePure.heads
    rw [List.filter_eq_self.2 (fun p _ => by simp [TriePure.T.pre]), List.map_map]
    rfl
  · rename_i h0
    obtain ⟨k, ks, e⟩ := Trie.wd_cons h0
    rw [e, TriePure.T.from_words t k ks h.ord]
theorem wd_st (p : TriePure.W) : Trie.wd (Trie.st p) = p := by simp [Trie.wd, Trie.st]
/-- Texts are sorted, somehow. -/
theorem rise_row (l : List ByteArray) (hl : l.length ≤ 1099511627776) (d : Nat) : ∀ (j : Nat) (o : List ByteArray), j + d = l.length → o.length = j → ∃ r, r.length = l.length ∧ Ev (fun k => spec_Rising.l0 k l o (j : Int)) r := by
  induction d with
  | zero =>
    intro j o hj ho
    refine ⟨o, by omega, Ev.step (f := fun _ => some o) (fun k => ?_) (Ev.now _)⟩
    simp only [spec_Rising.l0]
    rw [if_neg (by omega)]
  | succ d ih =>
    intro j o hj ho
    have hjl : j < l.length := by omega
    have inner : ∀ i : Nat, i ≤ o.length → ∃ r, r.length = l.length ∧ Ev (fun k => spec_Rising.l1 k l o (j : Int) (i : Int)) r := by
      intro i
      induction i with
      | zero =>
        intro _
        obtain ⟨r, hr, hE⟩ := ih (j + 1) (([] ++ o.take 0) ++ [l[j]] ++ o.drop 0) (by omega) (by simp; omega)
        refine ⟨r, hr, Ev.step (fun k => ?_) hE⟩
        simp only [spec_Rising.l1]
        rw [if_neg (by omega), Option.bind_some, if_pos (by omega), if_pos (by omega), Option.bind_some, if_pos (by simp), Option.bind_some, if_pos (by omega), if_pos (by omega), if_pos (by simp), Option.bind_some, Option.bind_some, if_pos (by simp; omega), rd_str hjl, w1 j (by omega)]
        rfl
      | succ i ih2 =>
        intro hi
        have hio : i < o.length := by omega
        by_cases q : (Op.bytesLess ((l[j]).toList) ((o[i]).toList)) = true
        · obtain ⟨r, hr, hE⟩ := ih2 (by omega)
          refine ⟨r, hr, Ev.step (fun k => ?_) hE⟩
          simp only [spec_Rising.l1]
          rw [if_pos (by omega), wm i (by omega), if_pos (by omega), if_pos (by omega), if_pos (by omega), if_pos (by omega), rd_str hjl, rd_str hio, if_pos q]
        · obtain ⟨r, hr, hE⟩ := ih (j + 1) (([] ++ o.take (i + 1)) ++ [l[j]] ++ o.drop (i + 1)) (by omega) (by simp; omega)
          refine ⟨r, hr, Ev.step (fun k => ?_) hE⟩
          simp only [spec_Rising.l1]
          rw [if_pos (by omega), wm i (by omega), if_pos (by omega), if_pos (by omega), if_pos (by omega), if_pos (by omega), rd_str hjl, rd_str hio, if_neg q, Option.bind_some, if_pos (by omega), if_pos (by omega), Option.bind_some, Int.toNat_natCast, if_pos (by simp; omega), Option.bind_some, if_pos (by simp; omega), Option.bind_some, Option.bind_some, if_pos (by simp; omega), w1 j (by omega)]
    obtain ⟨r, hr, hE⟩ := inner o.length (Nat.le_refl _)
    refine ⟨r, hr, Ev.step (fun k => ?_) hE⟩
    simp only [spec_Rising.l0]
    rw [if_pos (by omega)]
theorem rise_ev (l : List ByteArray) (hl : l.length ≤ 1099511627776) : ∃ r, r.length = l.length ∧ Ev (fun k => spec_Rising.f k l) r := rise_row l hl l.length 0 [] (Nat.zero_add _) rfl
theorem same_words_row (xs : List ByteArray) (hl : xs.length ≤ 1099511627776) (d : Nat) : ∀ j : Nat, j + d = xs.length → Ev (fun k => spec_SameWords.l0 k xs xs j) true := by
  induction d with
  | zero =>
    intro j hj
    refine Ev.step (f := fun _ => some true) (fun k => ?_) (Ev.now _)
    simp only [spec_SameWords.l0]
    rw [if_neg (by omega)]
  | succ d ih =>
    intro j hj
    refine Ev.step (fun k => ?_) (ih (j + 1) (by omega))
    simp only [spec_SameWords.l0]
    rw [if_pos (by omega), if_pos (by omega), if_pos (by omega), if_pos (by first | rfl | trivial), w1 j (by omega)]
theorem same_words (l : List ByteArray) (hl : l.length ≤ 1099511627776) : Ev (fun k => spec_SameWords.f k l l) true := by
  obtain ⟨r, hr, K1, h1⟩ := rise_ev l hl
  obtain ⟨K2, h2⟩ := same_words_row r (by omega) r.length 0 (Nat.zero_add _)
  refine ⟨K1 + K2, fun k hk => ?_⟩
  have h1' : spec_Rising.f k l = some r := h1 k (by omega)
  have h2' : spec_SameWords.l0 k r r ((0 : Nat) : Int) = some true := h2 k (by omega)
  show spec_SameWords.f k l l = some true
  unfold spec_SameWords.f
  rw [h1', Option.bind_some, Option.bind_some, if_pos rfl]
  exact h2'
abbrev ks (l : TriePure.R) : List ByteArray := l.map (fun p => Trie.st p.1)
abbrev vs (l : TriePure.R) : List Int := l.map (fun p => p.2)
theorem less_lt : ∀ x y : List UInt8, Op.bytesLess x y = TriePure.lt x y
  | [], [] => rfl
  | _ :: _, [] => rfl
  | [], _ :: _ => rfl
  | a :: x, b :: y => by
    simp only [Op.bytesLess, TriePure.lt]
    rw [less_lt x y]
    by_cases h : a < b
    · simp [h]
    · by_cases k : b < a
      · have e : (a == b) = false := beq_eq_false_iff_ne.2 (TriePure.u_ne k).symm
        simp [h, k, e]
      · have e := TriePure.u_same h k
        subst e
        simp [h]
theorem less_st (p : TriePure.W) (s : ByteArray) : Op.bytesLess (Trie.st p).toList s.toList = TriePure.lt p (Trie.wd s) := by rw [toList_wd, toList_wd, wd_st, less_lt]
theorem same_st (p : TriePure.W) (s : ByteArray) : ((Trie.st p).toList == s.toList) = decide (p = Trie.wd s) := by
  rw [toList_wd, toList_wd, wd_st, Bool.eq_iff_iff, beq_iff_eq, decide_eq_true_iff]
/-- How many words stand ahead of one, and whether it stands there. -/
def rank (w : TriePure.W) : TriePure.R → Nat
  | [] => 0
  | p :: l => if TriePure.lt p.1 w = true then rank w l + 1 else 0
def here (w : TriePure.W) : TriePure.R → Bool
  | [] => false
  | p :: l => if TriePure.lt p.1 w = true then here w l else decide (p.1 = w)
theorem rank_le (w : TriePure.W) : ∀ l : TriePure.R, rank w l ≤ l.length
  | [] => Nat.le_refl _
  | p :: l => by
    have := rank_le w l
    simp only [rank, List.length_cons]
    split <;> omega
theorem rank_lt (w : TriePure.W) : ∀ l : TriePure.R, here w l = true → rank w l < l.length
  | [], h => by simp [here] at h
  | p :: l, h => by
    simp only [rank, here, List.length_cons] at h ⊢
    split
    · rename_i q
      rw [if_pos q] at h
      have := rank_lt w l h
      omega
    · omega
theorem ins_here (w : TriePure.W) (v : Int) : ∀ l : TriePure.R, here w l = true → ks (TriePure.ins w v l) = ks l ∧ vs (TriePure.ins w v l) = (vs l).take (rank w l) ++ v :: (vs l).drop (rank w l + 1)
  | [], h => by simp [here] at h
  | p :: l, h => by
    simp only [here, rank, TriePure.ins] at h ⊢
    split
    · rename_i q
      rw [if_pos q] at h
      obtain ⟨a, b⟩ := ins_here w v l h
      simp only [ks, vs, List.map_cons, List.take_succ_cons, List.drop_succ_cons, List.cons_append] at a b ⊢
      exact ⟨by rw [a], by rw [b]⟩
    · rename_i q
      rw [if_neg q] at h
      rw [if_pos (of_decide_eq_true h)]
      exact ⟨rfl, rfl⟩
theorem ins_new (w : TriePure.W) (v : Int) : ∀ l : TriePure.R, here w l = false → ks (TriePure.ins w v l) = (ks l).take (rank w l) ++ Trie.st w :: (ks l).drop (rank w l) ∧ vs (TriePure.ins w v l) = (vs l).take (rank w l) ++ v :: (vs l).drop (rank w l)
  | [], _ => ⟨rfl, rfl⟩
  | p :: l, h => by
    simp only [here, rank, TriePure.ins] at h ⊢
    split
    · rename_i q
      rw [if_pos q] at h
      obtain ⟨a, b⟩ := ins_new w v l h
      simp only [ks, vs, List.map_cons, List.take_succ_cons, List.drop_succ_cons, List.cons_append] at a b ⊢
      exact ⟨by rw [a], by rw [b]⟩
    · rename_i q
      rw [if_neg q] at h
      rw [if_neg (of_decide_eq_false h)]
      exact ⟨rfl, rfl⟩
theorem rest_ne {w : TriePure.W} {p : TriePure.W × Int} {l : TriePure.R} (hu : TriePure.Up (p :: l)) (q : ¬ TriePure.lt p.1 w = true) : ∀ x ∈ l, x.1 ≠ w := fun x hx e => by
  have h := (List.pairwise_cons.1 hu).1 x hx
  rw [e] at h
  exact q h
theorem out_here (w : TriePure.W) : ∀ l : TriePure.R, TriePure.Up l → here w l = true → TriePure.out w l = l.take (rank w l) ++ l.drop (rank w l + 1)
  | [], _, h => by simp [here] at h
  | p :: l, hu, h => by
    simp only [here, rank] at h ⊢
    split
    · rename_i q
      rw [if_pos q] at h
      have e : TriePure.out w (p :: l) = p :: TriePure.out w l := List.filter_cons_of_pos (by simpa using TriePure.lt_ne q)
      rw [e, out_here w l (List.pairwise_cons.1 hu).2 h]
      rfl
    · rename_i q
      rw [if_neg q] at h
      have e : TriePure.out w (p :: l) = TriePure.out w l := List.filter_cons_of_neg (by simpa using of_decide_eq_true h)
      rw [e, TriePure.out_none (rest_ne hu q)]
      rfl
theorem out_not (w : TriePure.W) : ∀ l : TriePure.R, TriePure.Up l → here w l = false → TriePure.out w l = l
  | [], _, _ => rfl
  | p :: l, hu, h => by
    simp only [here] at h
    split at h
    · rename_i q
      have e : TriePure.out w (p :: l) = p :: TriePure.out w l := List.filter_cons_of_pos (by simpa using TriePure.lt_ne q)
      rw [e, out_not w l (List.pairwise_cons.1 hu).2 h]
    · rename_i q
      refine TriePure.out_none (fun x hx => ?_)
      rcases List.mem_cons.1 hx with e | hx
      · rw [e]; exact of_decide_eq_false h
      · exact rest_ne hu q x hx
theorem look_rank (w : TriePure.W) : ∀ l : TriePure.R, TriePure.Up l → TriePure.look w l = if here w l = true then (vs l)[rank w l]? else none
  | [], _ => rfl
  | p :: l, hu => by
    by_cases q : TriePure.lt p.1 w = true
    · have e : TriePure.look w (p :: l) = TriePure.look w l := by
        unfold TriePure.look
        rw [List.find?_cons_of_neg (by simpa using TriePure.lt_ne q)]
      have e1 : here w (p :: l) = here w l := if_pos q
      have e2 : rank w (p :: l) = rank w l + 1 := if_pos q
      rw [e, look_rank w l (List.pairwise_cons.1 hu).2, e1, e2]
      rfl
    · have e1 : here w (p :: l) = decide (p.1 = w) := if_neg q
      have e2 : rank w (p :: l) = 0 := if_neg q
      rw [e1, e2]
      by_cases h : p.1 = w
      · unfold TriePure.look
        rw [List.find?_cons_of_pos (by simpa using h), decide_eq_true h, if_pos rfl]
        rfl
      · have e : TriePure.look w (p :: l) = TriePure.look w l := by
          unfold TriePure.look
          rw [List.find?_cons_of_neg (by simpa using h)]
        rw [e, decide_eq_false h, if_neg (by simp)]
        unfold TriePure.look
        rw [List.find?_eq_none.2 (fun x hx => by simpa using rest_ne hu q x hx)]
        rfl
theorem at_row (l : TriePure.R) (s : ByteArray) (hl : l.length ≤ 1099511627776) (d : Nat) : ∀ j : Nat, j + d = l.length → Ev (fun k => spec_Words_at.l0 k s (j : Int) (ks l) (vs l)) (((j + rank (Trie.wd s) (l.drop j) : Nat) : Int), here (Trie.wd s) (l.drop j)) := by
  have hk : (ks l).length = l.length := List.length_map ..
  induction d with
  | zero =>
    intro j hj
    refine Ev.step (f := fun _ => some (((j + rank (Trie.wd s) (l.drop j) : Nat) : Int), here (Trie.wd s) (l.drop j))) (fun k => ?_) (Ev.now _)
    simp only [spec_Words_at.l0]
    rw [if_neg (by omega), List.drop_eq_nil_of_le (by omega)]
    rfl
  | succ d ih =>
    intro j hj
    have hjl : j < l.length := by omega
    have hd : l.drop j = l[j] :: l.drop (j + 1) := List.drop_eq_getElem_cons hjl
    have hr : rdOf ByteArray.empty (ks l) (j : Int) = Trie.st l[j].1 := by rw [rd_str (by omega)]; exact List.getElem_map ..
    by_cases q : TriePure.lt l[j].1 (Trie.wd s) = true
    · have e : (((j + rank (Trie.wd s) (l.drop j) : Nat) : Int), here (Trie.wd s) (l.drop j)) = (((j + 1 + rank (Trie.wd s) (l.drop (j + 1)) : Nat) : Int), here (Trie.wd s) (l.drop (j + 1))) := by
        rw [hd]
        simp only [rank, here, if_pos q]
        congr 2
        omega
      rw [e]
      refine Ev.step (fun k => ?_) (ih (j + 1) (by omega))
      simp only [spec_Words_at.l0]
      rw [if_pos (by omega), if_pos (by omega), hr, less_st, if_pos q, w1 j (by omega)]
    · refine Ev.step (f := fun _ => some (((j + rank (Trie.wd s) (l.drop j) : Nat) : Int), here (Trie.wd s) (l.drop j))) (fun k => ?_) (Ev.now _)
      simp only [spec_Words_at.l0]
      rw [if_pos (by omega), if_pos (by omega), hr, less_st, if_neg q, same_st, hd]
      simp only [rank, here, if_neg q]
      rfl
theorem at_ev (l : TriePure.R) (s : ByteArray) (hl : l.length ≤ 1099511627776) : Ev (fun k => spec_Words_at.f k (ks l) (vs l) s) ((rank (Trie.wd s) l : Int), here (Trie.wd s) l) := by
  have h := at_row l s hl l.length 0 (Nat.zero_add _)
  rw [List.drop_zero, Nat.zero_add] at h
  exact h
def tell (o : Option Int) : Int × Bool := match o with
  | none => (0, false)
  | some v => (v, true)
theorem get_ev (l : TriePure.R) (s : ByteArray) (hl : l.length ≤ 1099511627776) (hu : TriePure.Up l) : Ev (fun k => spec_Words_Get.f k (ks l) (vs l) s) (tell (TriePure.look (Trie.wd s) l)) := by
  obtain ⟨K, h⟩ := at_ev l s hl
  refine ⟨K, fun k hk => ?_⟩
  have h' : spec_Words_at.f k (ks l) (vs l) s = some ((rank (Trie.wd s) l : Int), here (Trie.wd s) l) := h k hk
  show spec_Words_Get.f k (ks l) (vs l) s = _
  unfold spec_Words_Get.f
  rw [h', Option.bind_some, look_rank _ l hu]
  have hv : (vs l).length = l.length := List.length_map ..
  cases q : here (Trie.wd s) l with
  | false =>
    rw [if_neg (by simp), if_neg (by simp)]
    rfl
  | true =>
    have hr := rank_lt _ l q
    rw [if_pos rfl, if_pos rfl, if_pos (by omega), if_pos (by omega), List.getElem?_eq_getElem (by omega)]
    simp [tell, rd, List.getD_eq_getElem?_getD, hr]
theorem cut_ev (l : List Int) (i : Nat) (hi : i < l.length) (hl : l.length ≤ 1099511627776) : spec_cut.f l (i : Int) = some (l.take i ++ l.drop (i + 1)) := by
  unfold spec_cut.f
  rw [Option.bind_some, if_pos (by omega), if_pos (by omega), if_pos (by simp; omega), Option.bind_some, w1 i (by omega), if_pos (by omega), if_pos (by omega), if_pos (by simp; omega)]
  rfl
theorem put_ev (l : List Int) (i : Nat) (v : Int) (hi : i ≤ l.length) (hl : l.length ≤ 1099511627776) : spec_put.f l (i : Int) v = some (l.take i ++ v :: l.drop i) := by
  unfold spec_put.f
  rw [Option.bind_some, if_pos (by omega), if_pos (by omega), if_pos (by simp; omega), Option.bind_some, if_pos (by simp; omega), Option.bind_some, if_pos (by simp; omega)]
  simp
/-- What Put makes of words by definition. -/
def putW (s : ByteArray) (v : Int) (l : TriePure.R) : TriePure.R := if s.size = 0 then l else TriePure.ins (Trie.wd s) v l
theorem toList_nil (s : ByteArray) : s.toList = [] ↔ s.size = 0 := by
  rw [toList_wd]
  constructor
  · intro h
    simpa [Trie.wd] using congrArg List.length h
  · exact fun h => Trie.wd_nil h
theorem putW_ev (l : TriePure.R) (s : ByteArray) (v : Int) (hl : l.length ≤ 1099511627776) : Ev (fun k => spec_Words_Put.f k (ks l) (vs l) s v) (ks (putW s v l), vs (putW s v l)) := by
  obtain ⟨K, h⟩ := at_ev l s hl
  refine ⟨K, fun k hk => ?_⟩
  have h' : spec_Words_at.f k (ks l) (vs l) s = some ((rank (Trie.wd s) l : Int), here (Trie.wd s) l) := h k hk
  show spec_Words_Put.f k (ks l) (vs l) s v = _
  unfold spec_Words_Put.f putW
  rw [h', Option.bind_some]
  have hv : (vs l).length = l.length := List.length_map ..
  have hkl : (ks l).length = l.length := List.length_map ..
  by_cases z : s.size = 0
  · rw [if_pos ((toList_nil s).2 z), if_pos z]
  · rw [if_neg (fun e => z ((toList_nil s).1 e)), if_neg z]
    cases q : here (Trie.wd s) l with
    | true =>
      have hr := rank_lt _ l q
      obtain ⟨e1, e2⟩ := ins_here (Trie.wd s) v l q
      dsimp only
      rw [if_pos rfl, cut_ev _ _ (by omega) (by omega), Option.bind_some, put_ev _ _ _ (by simp; omega) (by simp; omega), Option.bind_some, e1, e2]
      have hm : min (rank (Trie.wd s) l) (vs l).length = rank (Trie.wd s) l := by omega
      rw [List.take_append_of_le_length (by simp; omega), List.take_take, Nat.min_self, List.drop_append_of_le_length (by simp; omega), List.drop_eq_nil_of_le (by simp; omega), List.nil_append]
    | false =>
      have hr := rank_le (Trie.wd s) l
      obtain ⟨e1, e2⟩ := ins_new (Trie.wd s) v l q
      dsimp only
      rw [if_neg (by simp), Option.bind_some, if_pos (by omega), if_pos (by omega), Option.bind_some, Int.toNat_natCast, if_pos (by simp; omega), Option.bind_some, if_pos (by simp; omega), Option.bind_some, Option.bind_some, if_pos (by simp; omega), put_ev _ _ _ (by omega) (by omega), Option.bind_some, e1, e2]
      simp [Trie.st, Trie.wd]
theorem remW_ev (l : TriePure.R) (s : ByteArray) (hl : l.length ≤ 1099511627776) (hu : TriePure.Up l) : Ev (fun k => spec_Words_Remove.f k (ks l) (vs l) s) (ks (TriePure.out (Trie.wd s) l), vs (TriePure.out (Trie.wd s) l)) := by
  obtain ⟨K, h⟩ := at_ev l s hl
  refine ⟨K, fun k hk => ?_⟩
  have h' : spec_Words_at.f k (ks l) (vs l) s = some ((rank (Trie.wd s) l : Int), here (Trie.wd s) l) := h k hk
  show spec_Words_Remove.f k (ks l) (vs l) s = _
  unfold spec_Words_Remove.f
  rw [h', Option.bind_some]
  have hv : (vs l).length = l.length := List.length_map ..
  have hkl : (ks l).length = l.length := List.length_map ..
  cases q : here (Trie.wd s) l with
  | true =>
    have hr := rank_lt _ l q
    dsimp only
    rw [if_pos rfl, Option.bind_some, if_pos (by omega), if_pos (by omega), Option.bind_some, Int.toNat_natCast, if_pos (by simp; omega), Option.bind_some, w1 _ (by omega), if_pos (by omega), if_pos (by omega), Option.bind_some, Int.toNat_natCast, if_pos (by simp; omega), cut_ev _ _ (by omega) (by omega), Option.bind_some, out_here _ l hu q]
    simp [ks, vs, List.map_take, List.map_drop]
  | false =>
    dsimp only
    rw [if_neg (by simp), out_not _ l hu q]
theorem st_size (p : TriePure.W) : (Trie.st p).size = p.length := by
  show p.toArray.size = _
  simp
theorem most_cons (q p : TriePure.W) (l : List TriePure.W) : TriePure.T.most q (p :: l) = if TriePure.T.pre p q = true then max p.length (TriePure.T.most q l) else TriePure.T.most q l := by
  unfold TriePure.T.most
  by_cases h : TriePure.T.pre p q = true
  · rw [if_pos h, List.filter_cons_of_pos (p := fun p => TriePure.T.pre p q) h]
    rfl
  · rw [if_neg h, List.filter_cons_of_neg (p := fun p => TriePure.T.pre p q) h]
theorem long_row (l : TriePure.R) (s : ByteArray) (hl : l.length ≤ 1099511627776) (d : Nat) : ∀ (j m : Nat) (b : Bool), j + d = l.length → m ≤ (Trie.wd s).length → (b = false → m = 0) →
    ∃ b', Ev (fun k => spec_Longest.l0 k (ks l) s (Trie.st ((Trie.wd s).take m)) b (j : Int)) (Trie.st ((Trie.wd s).take (max m (TriePure.T.most (Trie.wd s) (TriePure.heads (l.drop j))))), b') := by
  have hk : (ks l).length = l.length := List.length_map ..
  have hw : (Trie.wd s).length = s.size := by simp [Trie.wd]
  induction d with
  | zero =>
    intro j m b hj hm _
    refine ⟨b, Ev.step (f := fun _ => some (Trie.st ((Trie.wd s).take (max m (TriePure.T.most (Trie.wd s) (TriePure.heads (l.drop j))))), b)) (fun k => ?_) (Ev.now _)⟩
    simp only [spec_Longest.l0]
    rw [if_neg (by omega), List.drop_eq_nil_of_le (by omega)]
    simp [TriePure.heads, TriePure.T.most]
  | succ d ih =>
    intro j m b hj hm hb
    have hjl : j < l.length := by omega
    have hd : TriePure.heads (l.drop j) = l[j].1 :: TriePure.heads (l.drop (j + 1)) := congrArg TriePure.heads (List.drop_eq_getElem_cons hjl)
    have hr : rdOf ByteArray.empty (ks l) (j : Int) = Trie.st l[j].1 := by rw [rd_str (by omega)]; exact List.getElem_map ..
    rw [hd, most_cons]
    generalize l[j].1 = p at hr
    by_cases q : TriePure.T.pre p (Trie.wd s) = true
    · have hp : (Trie.wd s).take p.length = p := by rw [pre_take] at q; exact of_decide_eq_true q
      have hpl : p.length ≤ (Trie.wd s).length := by
        have := congrArg List.length hp
        rw [List.length_take] at this
        omega
      have hsz : (Trie.st p).size = p.length := st_size p
      have hsm : (Trie.st ((Trie.wd s).take m)).size = m := by rw [st_size, List.length_take]; omega
      rw [if_pos q]
      have new : m ≤ p.length → (∀ k, spec_Longest.l0 (k + 1) (ks l) s (Trie.st ((Trie.wd s).take m)) b (j : Int) = spec_Longest.l0 k (ks l) s (Trie.st p) true ((j + 1 : Nat) : Int)) → ∃ b', Ev (fun k => spec_Longest.l0 k (ks l) s (Trie.st ((Trie.wd s).take m)) b (j : Int)) (Trie.st ((Trie.wd s).take (max m (max p.length (TriePure.T.most (Trie.wd s) (TriePure.heads (l.drop (j + 1))))))), b') := fun hle hst => by
        obtain ⟨b', hE⟩ := ih (j + 1) p.length true (by omega) hpl (fun e => by cases e)
        refine ⟨b', ?_⟩
        rw [show max m (max p.length (TriePure.T.most (Trie.wd s) (TriePure.heads (l.drop (j + 1))))) = max p.length (TriePure.T.most (Trie.wd s) (TriePure.heads (l.drop (j + 1)))) by omega]
        rw [hp] at hE
        exact Ev.step hst hE
      cases b with
      | false =>
        refine new (by rw [hb rfl]; omega) (fun k => ?_)
        simp only [spec_Longest.l0]
        rw [if_pos (by omega), if_pos (by omega), hr, begins_ev, Option.bind_some, wd_st, if_pos q, if_neg (by simp), w1 j (by omega)]
      | true =>
        by_cases c : p.length > m
        · refine new (by omega) (fun k => ?_)
          simp only [spec_Longest.l0]
          rw [if_pos (by omega), if_pos (by omega), hr, begins_ev, Option.bind_some, wd_st, if_pos q, if_pos trivial, hsz, hsm, if_pos (by omega), w1 j (by omega)]
        · obtain ⟨b', hE⟩ := ih (j + 1) m true (by omega) hm hb
          refine ⟨b', ?_⟩
          rw [show max m (max p.length (TriePure.T.most (Trie.wd s) (TriePure.heads (l.drop (j + 1))))) = max m (TriePure.T.most (Trie.wd s) (TriePure.heads (l.drop (j + 1)))) by omega]
          refine Ev.step (fun k => ?_) hE
          simp only [spec_Longest.l0]
          rw [if_pos (by omega), if_pos (by omega), hr, begins_ev, Option.bind_some, wd_st, if_pos q, if_pos trivial, hsz, hsm, if_neg (by omega), w1 j (by omega)]
    · rw [if_neg q]
      obtain ⟨b', hE⟩ := ih (j + 1) m b (by omega) hm hb
      refine ⟨b', Ev.step (fun k => ?_) hE⟩
      simp only [spec_Longest.l0]
      rw [if_pos (by omega), if_pos (by omega), hr, begins_ev, Option.bind_some, wd_st, if_neg q, w1 j (by omega)]
theorem long_ev (l : TriePure.R) (s : ByteArray) (hl : l.length ≤ 1099511627776) : ∃ b, Ev (fun k => spec_Longest.f k (ks l) s) (Trie.st ((Trie.wd s).take (TriePure.T.most (Trie.wd s) (TriePure.heads l))), b) := by
  obtain ⟨b, h⟩ := long_row l s hl l.length 0 0 false (Nat.zero_add _) (Nat.zero_le _) (fun _ => rfl)
  rw [List.drop_zero, Nat.zero_max] at h
  exact ⟨b, h⟩
abbrev run (l : List S30) : Int × TriePure.T := Trie.runT (0, .nil) (l.map word_of)
theorem runT_app : ∀ (a b : List Trie.Wd3) (p : Int × TriePure.T), Trie.runT p (a ++ b) = Trie.runT (Trie.runT p a) b
  | [], _, _ => rfl
  | _ :: a, b, _ => runT_app a b _
theorem toldT_app : ∀ (a b : List Trie.Wd3) (p : Int × TriePure.T), Trie.toldT p (a ++ b) = Trie.toldT p a ++ Trie.toldT (Trie.runT p a) b
  | [], _, _ => rfl
  | x :: a, b, p => congrArg (Trie.tellT p x :: ·) (toldT_app a b _)
theorem toldT_len : ∀ (a : List Trie.Wd3) (p : Int × TriePure.T), (Trie.toldT p a).length = a.length
  | [], _ => rfl
  | _ :: a, _ => congrArg (· + 1) (toldT_len a _)
/-- What a trie is behind a script. -/
theorem okt_run : ∀ (l : List Trie.Wd3) (i : Nat) (n : Int) (t : TriePure.T), Trie.Okt i t → (-(i : Int) ≤ n ∧ n ≤ i) → (∀ a ∈ l, a.2.1.size ≤ 1099511627776) → Trie.Okt (i + l.length) (Trie.runT (n, t) l).2 ∧ -((i + l.length : Nat) : Int) ≤ (Trie.runT (n, t) l).1 ∧ (Trie.runT (n, t) l).1 ≤ ((i + l.length : Nat) : Int)
  | [], i, n, t, h, hn, _ => ⟨h, hn⟩
  | (d, s, v) :: l, i, n, t, h, hn, hs => by
    have hs0 : s.size ≤ 1099511627776 := hs _ List.mem_cons_self
    obtain ⟨n', t', e, h1, h2⟩ : ∃ n' t', Trie.stepT (n, t) (d, s, v) = (n', t') ∧ Trie.Okt (i + 1) t' ∧ (-((i + 1 : Nat) : Int) ≤ n' ∧ n' ≤ ((i + 1 : Nat) : Int)) := by
      unfold Trie.stepT
      dsimp only
      split
      · obtain ⟨a, b, c⟩ := h.put (v := v) hn hs0
        exact ⟨(Trie.putT s v (n, t)).1, (Trie.putT s v (n, t)).2, rfl, a, by omega, by omega⟩
      · split
        · obtain ⟨a, b, c⟩ := h.rem (s := s) hn
          exact ⟨(Trie.remT s (n, t)).1, (Trie.remT s (n, t)).2, rfl, a, by omega, by omega⟩
        · exact ⟨_, _, rfl, h.more, by omega, by omega⟩
    have hr := okt_run l (i + 1) n' t' h1 h2 (fun a ha => hs a (List.mem_cons_of_mem _ ha))
    rw [show i + ((d, s, v) :: l).length = i + 1 + l.length by simp only [List.length_cons]; omega]
    show Trie.Okt _ (Trie.runT (Trie.stepT (n, t) (d, s, v)) l).2 ∧ _ ≤ (Trie.runT (Trie.stepT (n, t) (d, s, v)) l).1 ∧ (Trie.runT (Trie.stepT (n, t) (d, s, v)) l).1 ≤ _
    rw [e]
    exact hr
theorem okt_nil : Trie.Okt 0 .nil := ⟨trivial, trivial, fun p hp => by simp [TriePure.T.words] at hp, Nat.le_refl _⟩
theorem run_okt (l : List S30) (hs : ∀ x ∈ l, x.f1.size ≤ 1099511627776) : Trie.Okt l.length (run l).2 := by
  have h := okt_run (l.map word_of) 0 0 .nil okt_nil (by simp) (fun a ha => by
    obtain ⟨x, hx, rfl⟩ := List.mem_map.1 ha
    exact hs x hx)
  rw [List.length_map, Nat.zero_add] at h
  exact h.1
/-- What the last step behind a script tells. -/
theorem wordLast_ev (l pre : List S30) (x : S30) (hl : l.length + pre.length + 1 ≤ 1099511627776) (hs : ∀ y ∈ l ++ pre ++ [x], y.f1.size ≤ 1099511627776) :
    laws_wordLast.f l (pre ++ [x]) = some ((Trie.tellT (run (l ++ pre)) (word_of x)).1, (Trie.tellT (run (l ++ pre)) (word_of x)).2.1, (Trie.tellT (run (l ++ pre)) (word_of x)).2.2.1, (Trie.tellT (run (l ++ pre)) (word_of x)).2.2.2, true) := by
  have e : l ++ (pre ++ [x]) = l ++ pre ++ [x] := (List.append_assoc ..).symm
  have hn : (l ++ pre ++ [x]).length = l.length + pre.length + 1 := by simp; omega
  have hf : impl_TrieRun.f (l ++ pre ++ [x]) = some ((Trie.toldT (0, .nil) ((l ++ pre ++ [x]).map word_of)).map say_of) := by
    unfold impl_TrieRun.f
    rw [if_pos ⟨by omega, List.all_eq_true.2 (fun y hy => by simpa using hs y hy)⟩]
  have hlen : ((Trie.toldT (0, .nil) ((l ++ pre ++ [x]).map word_of)).map say_of).length = l.length + pre.length + 1 := by rw [List.length_map, toldT_len, List.length_map, hn]
  have hat : rd_T26 ((Trie.toldT (0, .nil) ((l ++ pre ++ [x]).map word_of)).map say_of) ((l.length + pre.length : Nat) : Int) = say_of (Trie.tellT (run (l ++ pre)) (word_of x)) := by
    rw [List.map_append, toldT_app, List.map_append]
    unfold rd_T26
    rw [Int.toNat_natCast, List.getD_eq_getElem?_getD, List.getElem?_append_right (by rw [List.length_map, toldT_len, List.length_map, List.length_append]; exact Nat.le_refl _)]
    rw [List.length_map, toldT_len, List.length_map, List.length_append, Nat.sub_self]
    rfl
  unfold laws_wordLast.f
  rw [Option.bind_some, if_pos (by rw [List.length_nil]; omega), Option.bind_some, if_pos (by rw [List.nil_append, List.length_append, List.length_singleton]; omega), Option.bind_some, List.nil_append, e, hf, Option.bind_some]
  generalize (Trie.toldT (0, .nil) ((l ++ pre ++ [x]).map word_of)).map say_of = tt at hlen hat
  rw [if_pos (by rw [hlen, hn]), if_neg (by omega), hlen, wm _ (by omega), if_pos (by omega), if_pos (by omega), hat]
  rfl
/-- What a step makes of the words, and what it tells, by definition. -/
def newW (x : S30) (l : TriePure.R) : TriePure.R := if x.f0 = 0 then putW x.f1 x.f2 l else if x.f0 = 1 then TriePure.out (Trie.wd x.f1) l else l
def sayW (x : S30) (l : TriePure.R) : Trie.Say4 :=
  if x.f0 = 2 then ((tell (TriePure.look (Trie.wd x.f1) l)).1, (tell (TriePure.look (Trie.wd x.f1) l)).2, (⟨#[]⟩ : ByteArray), []) else if x.f0 = 3 then (0, (tell (TriePure.look (Trie.wd x.f1) l)).2, (⟨#[]⟩ : ByteArray), []) else if x.f0 = 4 then (0, false, (⟨#[]⟩ : ByteArray), ks l)
  else if x.f0 = 5 then (0, false, (⟨#[]⟩ : ByteArray), (ks l).filter (fun t => TriePure.T.pre (Trie.wd x.f1) (Trie.wd t))) else if x.f0 = 6 then (0, false, Trie.st ((Trie.wd x.f1).take (TriePure.T.most (Trie.wd x.f1) (TriePure.heads l))), []) else if x.f0 = 7 then ((l.length : Int), false, (⟨#[]⟩ : ByteArray), []) else (0, false, (⟨#[]⟩ : ByteArray), [])
theorem up_out (w : TriePure.W) {l : TriePure.R} (h : TriePure.Up l) : TriePure.Up (TriePure.out w l) := List.Pairwise.filter _ h
theorem no_empty (t : TriePure.T) : ∀ p ∈ TriePure.T.words t, p.1 ≠ [] := fun p hp e => by
  obtain ⟨k, ks, e1, _⟩ := TriePure.T.words_head t p hp
  rw [e] at e1
  cases e1
theorem words_put (n : Int) {t : TriePure.T} (ho : TriePure.T.Ord t) (s : ByteArray) (v : Int) : TriePure.T.words (Trie.putT s v (n, t)).2 = putW s v (TriePure.T.words t) := by
  unfold Trie.putT putW
  by_cases z : s.size = 0
  · rw [if_pos z, if_pos z]
  · rw [if_neg z, if_neg z]
    obtain ⟨k, ks, e⟩ := Trie.wd_cons z
    show TriePure.T.words (TriePure.T.put v t (Trie.wd s)) = _
    rw [e, TriePure.T.words_put v t k ks ho]
theorem words_rem (n : Int) {t : TriePure.T} (ho : TriePure.T.Ord t) (s : ByteArray) : TriePure.T.words (Trie.remT s (n, t)).2 = TriePure.out (Trie.wd s) (TriePure.T.words t) := by
  unfold Trie.remT
  by_cases z : s.size = 0
  · rw [if_pos z, Trie.wd_nil z, TriePure.out_none (no_empty t)]
  · rw [if_neg z]
    obtain ⟨k, ks, e⟩ := Trie.wd_cons z
    show TriePure.T.words (TriePure.T.rem t (Trie.wd s)) = _
    rw [e, (TriePure.T.rem_all t k ks ho).1]
theorem look_empty {l : TriePure.R} (h : ∀ p ∈ l, p.1 ≠ []) : TriePure.look [] l = none := by
  unfold TriePure.look
  rw [List.find?_eq_none.2 (fun x hx => by simpa using h x hx)]
  rfl
theorem got_tell {t : TriePure.T} (ho : TriePure.T.Ord t) (s : ByteArray) : Trie.got t (Trie.wd s) = tell (TriePure.look (Trie.wd s) (TriePure.T.words t)) := by
  have h : TriePure.T.find t (Trie.wd s) = TriePure.look (Trie.wd s) (TriePure.T.words t) := by
    by_cases z : s.size = 0
    · rw [Trie.wd_nil z, Trie.find_nil, look_empty (no_empty t)]
    · obtain ⟨k, ks, e⟩ := Trie.wd_cons z
      rw [e, TriePure.T.find_look t k ks ho]
  unfold Trie.got tell
  rw [h]
  cases TriePure.look (Trie.wd s) (TriePure.T.words t) <;> rfl
theorem st_take (s : ByteArray) (m : Nat) : s.extract 0 m = Trie.st ((Trie.wd s).take m) := by
  rw [← Trie.st_wd (s.extract 0 m)]
  congr 1
  simp [Trie.wd]
theorem ks_words (t : TriePure.T) : Trie.keysT t = ks (TriePure.T.words t) := by
  unfold Trie.keysT Trie.texts
  exact List.map_congr_left (fun p _ => by simp)
theorem ks_with {i : Nat} {t : TriePure.T} (h : Trie.Okt i t) (s : ByteArray) : Trie.keysOf t s = (ks (TriePure.T.words t)).filter (fun x => TriePure.T.pre (Trie.wd s) (Trie.wd x)) := by
  rw [keysOf_eq h]
  unfold ks TriePure.heads
  rw [List.filter_map, List.filter_map, List.map_map]
  congr 1
theorem long_same {t : TriePure.T} (ho : TriePure.T.Ord t) (s : ByteArray) : Trie.longS t s = Trie.st ((Trie.wd s).take (TriePure.T.most (Trie.wd s) (TriePure.heads (TriePure.T.words t)))) := by
  unfold Trie.longS
  rw [TriePure.T.long_most t _ 0 0 ho, Nat.zero_add, st_take]
  congr 2
  split
  · rename_i h; rw [h]
  · rfl
/-- All texts that are removed are there then. -/
def goneW : TriePure.R → List S30 → Bool
  | _, [] => true
  | l, x :: xs => if x.f0 = 1 ∧ (tell (TriePure.look (Trie.wd x.f1) l)).2 = false then false else goneW (newW x l) xs
theorem ins_len {w : TriePure.W} {v : Int} {l : TriePure.R} (hu : TriePure.Up l) : (TriePure.ins w v l).length = if (tell (TriePure.look w l)).2 = true then l.length else l.length + 1 := by
  have hlen : (ks (TriePure.ins w v l)).length = (TriePure.ins w v l).length := List.length_map ..
  have hk : (ks l).length = l.length := List.length_map ..
  have hv : (vs l).length = l.length := List.length_map ..
  rw [look_rank w l hu]
  cases q : here w l with
  | false =>
    have := rank_le w l
    rw [if_neg (show ¬ (false = true) by simp)]
    show _ = if false = true then _ else _
    rw [if_neg (by simp), ← hlen, (ins_new w v l q).1, List.length_append, List.length_cons, List.length_take, List.length_drop]
    omega
  | true =>
    have := rank_lt w l q
    rw [if_pos rfl, List.getElem?_eq_getElem (by omega)]
    show _ = if true = true then _ else _
    rw [if_pos rfl, ← hlen, (ins_here w v l q).1, hk]
theorem step_ev (l : TriePure.R) (x : S30) (hl : l.length ≤ 1099511627776) (hu : TriePure.Up l) : Ev (fun k => spec_Words_Step.f k (ks l) (vs l) x.f0 x.f1 x.f2) (ks (newW x l), vs (newW x l), sayW x l) := by
  have hkl : (ks l).length = l.length := List.length_map ..
  unfold newW sayW
  by_cases q0 : x.f0 = 0
  · obtain ⟨K, h⟩ := putW_ev l x.f1 x.f2 hl
    refine ⟨K, fun k hk => ?_⟩
    have h' : spec_Words_Put.f k (ks l) (vs l) x.f1 x.f2 = _ := h k hk
    show spec_Words_Step.f k (ks l) (vs l) x.f0 x.f1 x.f2 = _
    unfold spec_Words_Step.f
    rw [if_pos q0, h', Option.bind_some, if_pos q0, q0]
    rfl
  by_cases q1 : x.f0 = 1
  · obtain ⟨K, h⟩ := remW_ev l x.f1 hl hu
    refine ⟨K, fun k hk => ?_⟩
    have h' : spec_Words_Remove.f k (ks l) (vs l) x.f1 = _ := h k hk
    show spec_Words_Step.f k (ks l) (vs l) x.f0 x.f1 x.f2 = _
    unfold spec_Words_Step.f
    rw [if_neg q0, if_pos q1, h', Option.bind_some, if_neg q0, if_pos q1, q1]
    rfl
  rw [if_neg q0, if_neg q1]
  by_cases q2 : x.f0 = 2
  · obtain ⟨K, h⟩ := get_ev l x.f1 hl hu
    refine ⟨K, fun k hk => ?_⟩
    have h' : spec_Words_Get.f k (ks l) (vs l) x.f1 = _ := h k hk
    show spec_Words_Step.f k (ks l) (vs l) x.f0 x.f1 x.f2 = _
    unfold spec_Words_Step.f
    rw [if_neg q0, if_neg q1, if_pos q2, h', Option.bind_some, if_pos q2]
  by_cases q3 : x.f0 = 3
  · obtain ⟨K, h⟩ := get_ev l x.f1 hl hu
    refine ⟨K, fun k hk => ?_⟩
    have h' : spec_Words_Get.f k (ks l) (vs l) x.f1 = _ := h k hk
    show spec_Words_Step.f k (ks l) (vs l) x.f0 x.f1 x.f2 = _
    unfold spec_Words_Step.f
    rw [if_neg q0, if_neg q1, if_neg q2, if_pos q3, h', Option.bind_some, if_neg q2, if_pos q3]
  by_cases q4 : x.f0 = 4
  · refine ⟨0, fun k _ => ?_⟩
    show spec_Words_Step.f k (ks l) (vs l) x.f0 x.f1 x.f2 = _
    unfold spec_Words_Step.f
    rw [if_neg q0, if_neg q1, if_neg q2, if_neg q3, if_pos q4, if_neg q2, if_neg q3, if_pos q4]
  by_cases q5 : x.f0 = 5
  · obtain ⟨K, h⟩ := with_ev (ks l) x.f1 (by omega)
    refine ⟨K, fun k hk => ?_⟩
    have h' : spec_With.f k (ks l) x.f1 = _ := h k hk
    show spec_Words_Step.f k (ks l) (vs l) x.f0 x.f1 x.f2 = _
    unfold spec_Words_Step.f
    rw [if_neg q0, if_neg q1, if_neg q2, if_neg q3, if_neg q4, if_pos q5, h', Option.bind_some, if_neg q2, if_neg q3, if_neg q4, if_pos q5]
  by_cases q6 : x.f0 = 6
  · obtain ⟨b, K, h⟩ := long_ev l x.f1 hl
    refine ⟨K, fun k hk => ?_⟩
    have h' : spec_Longest.f k (ks l) x.f1 = _ := h k hk
    show spec_Words_Step.f k (ks l) (vs l) x.f0 x.f1 x.f2 = _
    unfold spec_Words_Step.f
    rw [if_neg q0, if_neg q1, if_neg q2, if_neg q3, if_neg q4, if_neg q5, if_pos q6, h', Option.bind_some, if_neg q2, if_neg q3, if_neg q4, if_neg q5, if_pos q6]
  refine ⟨0, fun k _ => ?_⟩
  show spec_Words_Step.f k (ks l) (vs l) x.f0 x.f1 x.f2 = _
  unfold spec_Words_Step.f
  rw [if_neg q0, if_neg q1, if_neg q2, if_neg q3, if_neg q4, if_neg q5, if_neg q6, if_neg q2, if_neg q3, if_neg q4, if_neg q5, if_neg q6]
  by_cases q7 : x.f0 = 7
  · rw [if_pos q7, if_pos q7, hkl]
  · rw [if_neg q7, if_neg q7]
theorem up_ins {w : TriePure.W} {v : Int} : ∀ {l : TriePure.R}, TriePure.Up l → TriePure.Up (TriePure.ins w v l)
  | [], _ => by simp [TriePure.ins, TriePure.Up]
  | p :: l, h => by
    obtain ⟨h1, h2⟩ := List.pairwise_cons.1 h
    simp only [TriePure.ins]
    split
    · rename_i q
      refine List.pairwise_cons.2 ⟨fun y hy => ?_, up_ins h2⟩
      rcases Trie.ins_mem w v l y hy with e | ⟨z, hz, e⟩
      · rw [e]; exact q
      · rw [← e]; exact h1 z hz
    · split
      · exact List.pairwise_cons.2 ⟨h1, h2⟩
      · rename_i q q2
        have hl : TriePure.lt w p.1 = true := TriePure.lt_tot _ _ (by simpa using q) q2
        refine List.pairwise_cons.2 ⟨fun y hy => ?_, h⟩
        rcases List.mem_cons.1 hy with e | hy
        · rw [e]; exact hl
        · exact TriePure.lt_tr _ _ _ hl (h1 y hy)
theorem up_new (x : S30) {l : TriePure.R} (h : TriePure.Up l) : TriePure.Up (newW x l) := by
  unfold newW putW
  split
  · split
    · exact h
    · exact up_ins h
  · split
    · exact up_out _ h
    · exact h
theorem len_new (x : S30) (l : TriePure.R) : (newW x l).length ≤ l.length + 1 := by
  unfold newW putW
  split
  · split
    · omega
    · exact Trie.ins_len _ _ _
  · split
    · exact Nat.le_succ_of_le (List.length_filter_le _ _)
    · omega
theorem gone_row (xs : List S30) (hl : xs.length ≤ 2147483647) (d : Nat) : ∀ (j : Nat) (l : TriePure.R), j + d = xs.length → l.length ≤ j → TriePure.Up l → Ev (fun k => spec_Removed.l0 k xs (j : Int) (ks l) (vs l)) (goneW l (xs.drop j)) := by
  induction d with
  | zero =>
    intro j l hj _ _
    refine Ev.step (f := fun _ => some (goneW l (xs.drop j))) (fun k => ?_) (Ev.now _)
    simp only [spec_Removed.l0]
    rw [if_neg (by omega), List.drop_eq_nil_of_le (by omega)]
    rfl
  | succ d ih =>
    intro j l hj hlj hu
    have hjl : j < xs.length := by omega
    have hx : xs[j]? = some xs[j] := List.getElem?_eq_getElem hjl
    have hd : xs.drop j = xs[j] :: xs.drop (j + 1) := List.drop_eq_getElem_cons hjl
    generalize xs[j] = x at hx hd
    have hn := len_new x l
    obtain ⟨K0, h0⟩ := get_ev l x.f1 (by omega) hu
    obtain ⟨K1, h1⟩ := step_ev l x (by omega) hu
    obtain ⟨K2, h2⟩ := ih (j + 1) (newW x l) (by omega) (by omega) (up_new x hu)
    refine ⟨K0 + K1 + K2 + 1, fun k hk => ?_⟩
    obtain ⟨m, rfl⟩ : ∃ m, k = m + 1 := ⟨k - 1, by omega⟩
    have h0' : spec_Words_Get.f m (ks l) (vs l) x.f1 = _ := h0 m (by omega)
    have h1' : spec_Words_Step.f m (ks l) (vs l) x.f0 x.f1 x.f2 = _ := h1 m (by omega)
    have h2' : spec_Removed.l0 m xs ((j + 1 : Nat) : Int) (ks (newW x l)) (vs (newW x l)) = _ := h2 m (by omega)
    show spec_Removed.l0 (m + 1) xs (j : Int) (ks l) (vs l) = _
    simp only [spec_Removed.l0]
    rw [if_pos (by omega), if_pos (by omega), rd_word hx, h0', Option.bind_some, hd]
    simp only [goneW]
    by_cases q : x.f0 = 1
    · rw [if_pos q]
      cases g : (tell (TriePure.look (Trie.wd x.f1) l)).2 with
      | true => rw [if_pos rfl, h1', Option.bind_some, w1 j (by omega), if_neg (by simp)]; exact h2'
      | false => rw [if_neg (by simp), if_pos ⟨q, rfl⟩]
    · rw [if_neg q, h1', Option.bind_some, w1 j (by omega), if_neg (fun e => q e.1)]; exact h2'
theorem gone_ev (xs : List S30) (hl : xs.length ≤ 2147483647) : Ev (fun k => spec_Removed.f k xs) (goneW [] xs) := gone_row xs hl xs.length 0 [] (Nat.zero_add _) (Nat.le_refl _) List.Pairwise.nil
theorem out_ins {w : TriePure.W} {v : Int} : ∀ {l : TriePure.R}, (∀ p ∈ l, p.1 ≠ w) → TriePure.out w (TriePure.ins w v l) = l
  | [], _ => by simp [TriePure.ins, TriePure.out]
  | p :: l, h => by
    have hp := h p List.mem_cons_self
    have hl : ∀ q ∈ l, q.1 ≠ w := fun q hq => h q (List.mem_cons_of_mem _ hq)
    have ih := out_ins (v := v) hl
    simp only [TriePure.ins]
    split
    · show TriePure.out w ([p] ++ TriePure.ins w v l) = _
      rw [TriePure.out_app, ih, TriePure.out_none (fun q hq => by rw [List.mem_singleton.1 hq]; exact hp)]
      rfl
    · show TriePure.out w ([(w, v)] ++ p :: l) = _
      rw [TriePure.out_app, TriePure.out_none h]
      simp [TriePure.out]
theorem not_here {w : TriePure.W} {l : TriePure.R} (h : (tell (TriePure.look w l)).2 = false) : ∀ p ∈ l, p.1 ≠ w := by
  intro p hp e
  unfold TriePure.look at h
  cases q : l.find? (fun p => decide (p.1 = w)) with
  | none => exact absurd e (by simpa using List.find?_eq_none.1 q p hp)
  | some x => rw [q] at h; cases h
theorem look_ins {w : TriePure.W} {v : Int} : ∀ {l : TriePure.R}, (∀ p ∈ l, p.1 ≠ w) → TriePure.look w (TriePure.ins w v l) = some v
  | [], _ => by simp [TriePure.ins, TriePure.look]
  | p :: l, h => by
    have hp := h p List.mem_cons_self
    have ih := look_ins (v := v) (fun q hq => h q (List.mem_cons_of_mem _ hq) : ∀ q ∈ l, q.1 ≠ w)
    simp only [TriePure.ins]
    split
    · show TriePure.look w ([p] ++ TriePure.ins w v l) = _
      rw [TriePure.look_app (fun q hq => by rw [List.mem_singleton.1 hq]; exact hp), ih]
    · simp [TriePure.look]
/-- What a step tells hangs on the words alone, and the trie's number. -/
theorem tell_words {i j : Nat} {t t' : TriePure.T} (h : Trie.Okt i t) (h' : Trie.Okt j t') (hw : TriePure.T.words t = TriePure.T.words t') (n : Int) (x : S30) : Trie.tellT (n, t) (word_of x) = Trie.tellT (n, t') (word_of x) := by
  unfold Trie.tellT word_of
  dsimp only
  rw [got_tell h.ord, ks_words, ks_with h, long_same h.ord, got_tell h'.ord, ks_words, ks_with h', long_same h'.ord, hw]
theorem same_says (d v : Int) (b : Bool) (s : ByteArray) (l : List ByteArray) (hl : l.length ≤ 1099511627776) : Ev (fun k => spec_SameSays.f k d v b s l v b s l) true := by
  obtain ⟨K, h⟩ := same_words l hl
  refine ⟨K, fun k hk => ?_⟩
  have h' : spec_SameWords.f k l l = some true := h k hk
  show spec_SameSays.f k d v b s l v b s l = some true
  unfold spec_SameSays.f
  rw [if_neg (by simp), if_pos rfl, h', Option.bind_some, if_pos rfl]
  simp
theorem word_self (d v : Int) (b : Bool) (s : ByteArray) (l : List ByteArray) (c : Bool) (hl : l.length ≤ 1099511627776) : Ev (fun k => laws_wordSame.f k d v b s l v b s l c) true := by
  obtain ⟨K, h⟩ := same_says d v b s l hl
  refine ⟨K, fun k hk => ?_⟩
  have h' : spec_SameSays.f k d v b s l v b s l = some true := h k hk
  show laws_wordSame.f k d v b s l v b s l c = some true
  unfold laws_wordSame.f
  rw [h', Option.bind_some]
  split
  · split <;> rfl
  · rfl
theorem tell_len {i : Nat} {t : TriePure.T} (h : Trie.Okt i t) (n : Int) (x : Trie.Wd3) : (Trie.tellT (n, t) x).2.2.2.length ≤ i := by
  have hk : (ks (TriePure.T.words t)).length ≤ i := by
    have := h.many
    have h1 : (ks (TriePure.T.words t)).length = (TriePure.T.words t).length := List.length_map ..
    omega
  unfold Trie.tellT
  rw [ks_words, ks_with h]
  repeat' split
  all_goals first | exact Nat.zero_le _ | exact hk | exact Nat.le_trans (List.length_filter_le _ _) hk
theorem run_app (a b : List S30) : run (a ++ b) = Trie.runT (run a) (b.map word_of) := by
  show Trie.runT _ _ = _
  rw [List.map_append, runT_app]
theorem undo_row (l : List S30) (a1 a3 : ByteArray) (a2 : Int) (hl : l.length ≤ 2147483647) (hs : ∀ x ∈ l, x.f1.size ≤ 2147483647) (h1 : a1.size ≤ 2147483647) (h3 : a3.size ≤ 2147483647)
    (hw : TriePure.T.words (run (l ++ [⟨0, a1, a2⟩, ⟨1, a1, 0⟩])).2 = TriePure.T.words (run l).2) (hn : (run (l ++ [⟨0, a1, a2⟩, ⟨1, a1, 0⟩])).1 = (run l).1) (d : Nat) :
    ∀ (j : Nat), j + d = 8 → Ev (fun k => laws_FnTrieUndo.l0 k l a3 (j : Int) 0 a1 a2 1 a1 0) true := by
  have hk := run_okt l (fun x hx => by have := hs x hx; omega)
  have hs2 : ∀ x ∈ l ++ [(⟨0, a1, a2⟩ : S30), ⟨1, a1, 0⟩], x.f1.size ≤ 1099511627776 := fun x hx => by
    rcases List.mem_append.1 hx with hx | hx
    · have := hs x hx; omega
    · simp only [List.mem_cons, List.not_mem_nil, or_false] at hx
      rcases hx with rfl | rfl <;> (show a1.size ≤ _; omega)
  have hk2 := run_okt _ hs2
  induction d with
  | zero =>
    intro j hj
    refine Ev.step (f := fun _ => some true) (fun k => ?_) (Ev.now _)
    simp only [laws_FnTrieUndo.l0]
    rw [if_neg (by omega)]
  | succ d ih =>
    intro j hj
    have e1 := wordLast_ev l [] ⟨(j : Int), a3, 0⟩ (by simp; omega) (fun y hy => by
      simp only [List.append_nil, List.mem_append, List.mem_singleton] at hy
      rcases hy with hy | rfl
      · have := hs y hy; omega
      · show a3.size ≤ _; omega)
    have e2 := wordLast_ev l [⟨0, a1, a2⟩, ⟨1, a1, 0⟩] ⟨(j : Int), a3, 0⟩ (by simp; omega) (fun y hy => by
      rcases List.mem_append.1 hy with hy | hy
      · exact hs2 y hy
      · rw [List.mem_singleton.1 hy]; show a3.size ≤ _; omega)
    have e3 : Trie.tellT (run (l ++ [⟨0, a1, a2⟩, ⟨1, a1, 0⟩])) (word_of ⟨(j : Int), a3, 0⟩) = Trie.tellT (run l) (word_of ⟨(j : Int), a3, 0⟩) := by
      have := tell_words hk2 hk hw (run l).1 ⟨(j : Int), a3, 0⟩
      rw [← this, ← hn]
    rw [e3] at e2
    rw [List.append_nil, List.nil_append] at e1
    have hlen := tell_len hk (run l).1 (word_of ⟨(j : Int), a3, 0⟩)
    have e1' : laws_wordLast.f l [⟨(j : Int), a3, 0⟩] = _ := e1
    have e2' : laws_wordLast.f l [⟨0, a1, a2⟩, ⟨1, a1, 0⟩, ⟨(j : Int), a3, 0⟩] = _ := e2
    clear e1 e2 e3
    have hlen' : (Trie.tellT (run l) (word_of ⟨(j : Int), a3, 0⟩)).2.2.2.length ≤ 1099511627776 := Nat.le_trans hlen (by omega)
    clear hlen
    generalize Trie.tellT (run l) (word_of ⟨(j : Int), a3, 0⟩) = u at e1' e2' hlen'
    obtain ⟨K0, g0⟩ := gone_ev l hl
    obtain ⟨K1, g1⟩ := word_self (j : Int) u.1 u.2.1 u.2.2.1 u.2.2.2 (goneW [] l) hlen'
    obtain ⟨K2, g2⟩ := ih (j + 1) (by omega)
    refine ⟨K0 + K1 + K2 + 1, fun k hk => ?_⟩
    obtain ⟨m, rfl⟩ : ∃ m, k = m + 1 := ⟨k - 1, by omega⟩
    have g0' := g0 m (by omega)
    have g1' := g1 m (by omega)
    have g2' := g2 m (by omega)
    dsimp only at g0' g1' g2'
    show laws_FnTrieUndo.l0 (m + 1) _ _ _ _ _ _ _ _ _ = _
    simp only [laws_FnTrieUndo.l0]
    rw [if_pos (by omega), e1', Option.bind_some, e2', Option.bind_some]
    dsimp only
    rw [if_pos rfl, if_pos rfl, g0', Option.bind_some, g1', Option.bind_some, if_pos rfl, w1 j (by omega)]
    exact g2'
theorem FnTrieUndo (l : List S30) (a1 : ByteArray) (a2 : Int) (a3 : ByteArray) : ∃ k, laws_FnTrieUndo.f k l a1 a2 a3 = some true := by
  have out : ∀ k, laws_FnTrieUndo.j0 (k + 1) l a1 a2 a3 true = some true := fun k => by simp only [laws_FnTrieUndo.j0, if_true]
  have out1 : ∀ k, laws_FnTrieUndo.j1 (k + 1) l a1 a2 a3 true = some true := fun k => by simp only [laws_FnTrieUndo.j1, if_true]
  by_cases hl : l.length ≤ 2147483647
  · obtain ⟨K0, h0⟩ := fits6_ev l hl
    cases hq : short l with
    | false =>
      refine ⟨K0 + 1, ?_⟩
      have h0' : laws_zzFits6.f (K0 + 1) l = some false := by rw [← hq]; exact h0 _ (by omega)
      unfold laws_FnTrieUndo.f
      rw [h0', Option.bind_some, if_neg (by simp), out]
    | true =>
      have hs : ∀ x ∈ l, x.f1.size ≤ 2147483647 := fun x hx => by simpa using List.all_eq_true.1 hq x hx
      by_cases ha : (a1.size : Int) > 2147483647
      · refine ⟨K0 + 1, ?_⟩
        have h0' : laws_zzFits6.f (K0 + 1) l = some true := by rw [← hq]; exact h0 _ (by omega)
        unfold laws_FnTrieUndo.f
        rw [h0', Option.bind_some, if_pos rfl, if_pos ha, out]
      by_cases hc : (a3.size : Int) > 2147483647
      · refine ⟨K0 + 1, ?_⟩
        have h0' : laws_zzFits6.f (K0 + 1) l = some true := by rw [← hq]; exact h0 _ (by omega)
        unfold laws_FnTrieUndo.f
        rw [h0', Option.bind_some, if_pos rfl, if_neg ha, decide_eq_true hc, out]
      have hk := run_okt l (fun x hx => by have := hs x hx; omega)
      have hs1 : ∀ (m : List S30), (∀ x ∈ m, x.f1 = a1) → ∀ y ∈ l ++ m, y.f1.size ≤ 1099511627776 := fun m hm y hy => by
        rcases List.mem_append.1 hy with hy | hy
        · have := hs y hy; omega
        · rw [hm y hy]; omega
      have e1 := wordLast_ev l [] ⟨2, a1, 0⟩ (by simp; omega) (fun y hy => by
        rw [List.append_nil] at hy
        exact hs1 _ (fun x hx => by rw [List.mem_singleton.1 hx]) y hy)
      rw [List.append_nil, List.nil_append] at e1
      have t2 : ∀ (r : List S30) (i : Nat), Trie.Okt i (run r).2 → (Trie.tellT (run r) (word_of ⟨2, a1, 0⟩)).1 = (tell (TriePure.look (Trie.wd a1) (TriePure.T.words (run r).2))).1 ∧ (Trie.tellT (run r) (word_of ⟨2, a1, 0⟩)).2.1 = (tell (TriePure.look (Trie.wd a1) (TriePure.T.words (run r).2))).2 := fun r i hr => by
        rw [← got_tell hr.ord]; exact ⟨rfl, rfl⟩
      have t3 : ∀ (r : List S30) (i : Nat), Trie.Okt i (run r).2 → (Trie.tellT (run r) (word_of ⟨3, a1, 0⟩)).2.1 = (tell (TriePure.look (Trie.wd a1) (TriePure.T.words (run r).2))).2 := fun r i hr => by
        rw [← got_tell hr.ord]; rfl
      have q1 := (t2 l _ hk).2
      -- what is told of a text that is there, or is empty
      cases hg : (tell (TriePure.look (Trie.wd a1) (TriePure.T.words (run l).2))).2 with
      | true =>
        refine ⟨K0 + 2, ?_⟩
        have h0' : laws_zzFits6.f (K0 + 2) l = some true := by rw [← hq]; exact h0 _ (by omega)
        unfold laws_FnTrieUndo.f
        rw [h0', Option.bind_some, if_pos rfl, if_neg ha, decide_eq_false hc]
        simp only [laws_FnTrieUndo.j0]
        rw [if_neg (by simp), e1, Option.bind_some]
        dsimp only
        rw [if_pos rfl, q1, hg, if_pos rfl]
        simp only [laws_FnTrieUndo.j1, if_true]
      | false =>
        by_cases hz : a1.size = 0
        · refine ⟨K0 + 2, ?_⟩
          have h0' : laws_zzFits6.f (K0 + 2) l = some true := by rw [← hq]; exact h0 _ (by omega)
          have hb : (a1.toList == ([] : List UInt8)) = true := by rw [toList_wd, Trie.wd_nil hz]; rfl
          unfold laws_FnTrieUndo.f
          rw [h0', Option.bind_some, if_pos rfl, if_neg ha, decide_eq_false hc]
          simp only [laws_FnTrieUndo.j0]
          rw [if_neg (by simp), e1, Option.bind_some]
          dsimp only
          rw [if_pos rfl, q1, hg, if_neg (by simp), hb]
          simp only [laws_FnTrieUndo.j1, if_true]
        -- the way itself
        have hb : (a1.toList == ([] : List UInt8)) = false := by
          obtain ⟨c, cs, e⟩ := Trie.wd_cons hz
          rw [toList_wd, e]; rfl
        have hN := not_here hg
        have kP := run_okt (l ++ [⟨0, a1, a2⟩]) (hs1 _ (fun x hx => by rw [List.mem_singleton.1 hx]))
        have kG := run_okt (l ++ [⟨0, a1, a2⟩, ⟨1, a1, 0⟩]) (hs1 _ (fun x hx => by simp only [List.mem_cons, List.not_mem_nil, or_false] at hx; rcases hx with rfl | rfl <;> rfl))
        have rP : run (l ++ [⟨0, a1, a2⟩]) = Trie.putT a1 a2 (run l) := by rw [run_app]; rfl
        have rG : run (l ++ [⟨0, a1, a2⟩, ⟨1, a1, 0⟩]) = Trie.remT a1 (run (l ++ [⟨0, a1, a2⟩])) := by rw [rP, run_app]; rfl
        have wP : TriePure.T.words (run (l ++ [⟨0, a1, a2⟩])).2 = TriePure.ins (Trie.wd a1) a2 (TriePure.T.words (run l).2) := by
          rw [rP]
          refine (words_put (run l).1 hk.ord a1 a2).trans ?_
          unfold putW
          rw [if_neg hz]
        have wG : TriePure.T.words (run (l ++ [⟨0, a1, a2⟩, ⟨1, a1, 0⟩])).2 = TriePure.T.words (run l).2 := by
          rw [rG]
          refine (words_rem (run (l ++ [⟨0, a1, a2⟩])).1 kP.ord a1).trans ?_
          rw [wP, out_ins hN]
        have nG : (run (l ++ [⟨0, a1, a2⟩, ⟨1, a1, 0⟩])).1 = (run l).1 := by
          rw [rG, rP]
          unfold Trie.remT Trie.putT
          rw [if_neg hz, if_neg hz, got_tell hk.ord]
          dsimp only
          rw [hg, if_neg (by simp)]
          omega
        have e2 := wordLast_ev l [⟨0, a1, a2⟩] ⟨2, a1, 0⟩ (by simp; omega) (fun y hy => by
          rw [List.append_assoc] at hy
          exact hs1 _ (fun x hx => by simp only [List.cons_append, List.nil_append, List.mem_cons, List.not_mem_nil, or_false] at hx; rcases hx with rfl | rfl <;> rfl) y hy)
        have e3 := wordLast_ev l [⟨0, a1, a2⟩, ⟨1, a1, 0⟩] ⟨3, a1, 0⟩ (by simp; omega) (fun y hy => by
          rw [List.append_assoc] at hy
          exact hs1 _ (fun x hx => by simp only [List.cons_append, List.nil_append, List.mem_cons, List.not_mem_nil, or_false] at hx; rcases hx with rfl | rfl | rfl <;> rfl) y hy)
        have q2 := t2 _ _ kP
        rw [wP, look_ins hN] at q2
        have q3 := t3 _ _ kG
        rw [wG, hg] at q3
        have e2' : laws_wordLast.f l [⟨0, a1, a2⟩, ⟨2, a1, 0⟩] = _ := e2
        have e3' : laws_wordLast.f l [⟨0, a1, a2⟩, ⟨1, a1, 0⟩, ⟨3, a1, 0⟩] = _ := e3
        obtain ⟨K1, h1⟩ := undo_row l a1 a3 a2 hl hs (by omega) (by omega) wG nG 6 2 rfl
        refine ⟨K0 + K1 + 3, ?_⟩
        have h0' : laws_zzFits6.f (K0 + K1 + 3) l = some true := by rw [← hq]; exact h0 _ (by omega)
        have h1' : laws_FnTrieUndo.l0 (K0 + K1) l a3 2 0 a1 a2 1 a1 0 = some true := h1 (K0 + K1) (by omega)
        unfold laws_FnTrieUndo.f
        rw [h0', Option.bind_some, if_pos rfl, if_neg ha, decide_eq_false hc]
        show laws_FnTrieUndo.j0 (K0 + K1 + 2 + 1) _ _ _ _ _ = _
        simp only [laws_FnTrieUndo.j0]
        rw [if_neg (by simp), e1, Option.bind_some]
        dsimp only
        rw [if_pos rfl, q1, hg, if_neg (by simp), hb]
        show laws_FnTrieUndo.j1 (K0 + K1 + 1 + 1) _ _ _ _ _ = _
        simp only [laws_FnTrieUndo.j1]
        rw [if_neg (by simp), e2', Option.bind_some, e3', Option.bind_some]
        dsimp only
        rw [if_pos rfl, if_pos rfl, q2.2, q2.1, if_pos (show (tell (some a2)).2 = true from rfl), if_pos (show (tell (some a2)).1 = a2 from rfl), q3]
        show laws_FnTrieUndo.j2 (K0 + K1 + 1) _ _ _ _ _ _ _ _ _ = _
        simp only [laws_FnTrieUndo.j2]
        rw [if_neg (by simp)]
        exact h1'
  · refine ⟨1, ?_⟩
    unfold laws_FnTrieUndo.f
    rw [fits6_long l hl, Option.bind_some, if_neg (by simp)]
    exact out 0
end Go.Proofs.Ytkgbflcbeeghoaa.Pure

namespace Go.Proofs.Ytkgbflcbeeghoaa.Open
open Go Go.Deep Go.Joins Go.ChangeShapes Go.WideShapes Go.ChangeAt Go.RowKit Go.Proofs.YtkgbflcbeeghoaaW.PrintWords Go.Proofs.YtkgbflcbeeghoaaW.PrintLast Go.Proofs.YtkgbflcbeeghoaaW.PrintMore
/-- What lies as_ data of type e reads as_ a kind says; ok: what is known of it besides. -/
def Reads (P : Program) (e : TypeId) {α : Type} (d : Kd α) (ok : α → Prop) : Prop :=
  P.cellsOf e = d.sz ∧ ∀ {H : Type} (enc : TypeId × Value → H) (w : World) (base : Nat) (spare : Nat → Bool) (held : Bool) (n : Nat) (cs : List Value) (x : DataW H × List MemPlace),
    DataW.trod enc P w base spare held n e cs = some x → ∃ a, d.K w a cs ∧ ok a
section
variable {P : Program} {α β γ δ ε : Type} {t e : TypeId}
theorem reads_int {k : IntKind} (ht : P.underlying e = some (.int k)) (hc : P.cellsOf e = 1) : Reads P e (Kd.int k) (fun n => (Lit.int k n).wf = true) :=
  ⟨hc, fun _ _ _ _ _ _ _ _ h => by
    obtain ⟨n, rfl, _, hw⟩ := DataW.trod_int ht h
    exact ⟨n, rfl, hw⟩⟩
theorem reads_string (ht : P.underlying e = some .string) (hc : P.cellsOf e = 1) : Reads P e Kd.string (fun s => s.size ≤ maxLen) :=
  ⟨hc, fun _ _ _ _ _ _ _ _ h => by
    obtain ⟨s, rfl, _, hw⟩ := DataW.trod_string ht h
    exact ⟨s, rfl, hw⟩⟩
theorem rows_of {p : Nat → α → Prop} : ∀ n : Nat, (∀ i, i < n → ∃ a, p i a) → ∃ xs : List α, xs.length = n ∧ ∀ j a, xs[j]? = some a → p j a
  | 0, _ => ⟨[], rfl, fun j a h => by simp at h⟩
  | n + 1, h => by
    obtain ⟨xs, hl, hx⟩ := rows_of n (fun i hi => h i (by omega))
    obtain ⟨a, ha⟩ := h n (Nat.lt_succ_self n)
    refine ⟨xs ++ [a], by simp [hl], fun j b hb => ?_⟩
    rcases Nat.lt_or_ge j xs.length with hj | hj
    · rw [List.getElem?_append_left hj] at hb
      exact hx j b hb
    · rw [List.getElem?_append_right hj] at hb
      have : j = n := by
        rcases Nat.eq_zero_or_pos (j - xs.length) with h0 | h0
        · omega
        · rw [List.getElem?_eq_none (by simp; omega)] at hb; cases hb
      subst this
      rw [hl, Nat.sub_self] at hb
      simp at hb
      exact hb ▸ ha
theorem open_C {d : Kd α} {ok : α → Prop} (hd : Reads P e d ok) (ht : P.underlying t = some (.slice e)) {H : Type} {enc : TypeId × Value → H} {w : World} {base : Nat} {spare : Nat → Bool} {held : Bool} {fuel : Nat} {cs : List Value} {x : DataW H × List MemPlace}
    (h : DataW.trod enc P w base spare held fuel t cs = some x) : ∃ A c xs, cs = [.slice A xs.length c] ∧ xs.length ≤ c ∧ c ≤ maxLen ∧ d.C w A xs.length xs ∧ ∀ a ∈ xs, ok a := by
  rcases open_slice ht h with ⟨rfl, _⟩ | ⟨a, len, cap, m, n, D, Pl, rfl, _, hl, hm, hmm, _, hx⟩
  · exact ⟨none, 0, [], rfl, Nat.le_refl _, by simp [maxLen], Kd.C_nil d w, fun a ha => by simp at ha⟩
  · have hle : len ≤ m := by rw [hmm]; split <;> omega
    obtain ⟨xs, hxl, hxs⟩ := rows_of (p := fun i (y : α) => ok y ∧ ∃ c, c.length = d.sz ∧ d.K w y c ∧ ∀ k u, c[k]? = some u → w.cell? (a.add (i * d.sz + k)) = some u) len (fun i hi => by
      obtain ⟨cs', h1, h2⟩ := hx i (by omega)
      obtain ⟨y, hy, hok⟩ := hd.2 _ _ _ _ _ _ _ _ h2
      obtain ⟨_, hlen, hcell⟩ := World.cells?_some h1
      rw [hd.1] at hlen hcell
      refine ⟨y, hok, cs', hlen, hy, fun k u hu => ?_⟩
      have hk : k < d.sz := by
        rw [← hlen]
        exact (List.getElem?_eq_some_iff.1 hu).1
      rw [← Go.Deep.add_add, hcell k hk, hu])
    subst hxl
    refine ⟨some a, cap, xs, rfl, hl, hm, ⟨rfl, by unfold maxLen at hm; omega, fun _ => ⟨a, rfl, fun j p hj => ?_⟩⟩, fun b hb => ?_⟩
    · exact (hxs j p hj).2
    · obtain ⟨j, hj, rfl⟩ := List.getElem_of_mem hb
      exact (hxs j _ (List.getElem?_eq_getElem hj)).1
/-- An argument of a slice's type, of whatever elements. -/
theorem open_arg {d : Kd α} {ok : α → Prop} (hd : Reads P e d ok) (ht : P.underlying t = some (.slice e)) {H : Type} {enc : TypeId × Value → H} {w : World} {base b2 : Nat} {spare : Nat → Bool} {held : Bool} {r : Reach} {v : Value} {x : DataW H} {ps : List MemPlace}
    (hv : Value.okWide P w r b2 t v) (h : DataW.Trod enc P w base spare held t v x ps) : ∃ A c xs, v = .slice A xs.length c ∧ xs.length ≤ c ∧ c ≤ maxLen ∧ d.C w A xs.length xs ∧ ∀ a ∈ xs, ok a := by
  obtain ⟨A, len, cap, rfl⟩ := okWide_slice ht hv
  obtain ⟨fuel, hf⟩ := h
  obtain ⟨A', c, xs, he, hl, hm, hC, hok⟩ := open_C hd ht hf
  simp only [Value.cells] at he
  injection he with he
  exact ⟨A', c, xs, he, hl, hm, hC, hok⟩
theorem trod_blocks {H : Type} {enc : TypeId × Value → H} {w : World} {base : Nat} {spare : Nat → Bool} {held : Bool} {v : Value} {x : DataW H} {ps : List MemPlace} (h : DataW.Trod enc P w base spare held t v x ps) : ∀ y ∈ ps, y.block < w.heap.size := by
  obtain ⟨m, hm⟩ := h
  exact DataW.trod_lt m _ _ _ hm
end
end Go.Proofs.Ytkgbflcbeeghoaa.Open

namespace Go.Proofs.Ytkgbflcbeeghoaa.fnTrieUndo
open Go Go.ChangeShapes Go.WideShapes Go.ChangeAt Go.RowKit Go.Proofs.YtkgbflcbeeghoaaW.PrintWords Go.Proofs.Ytkgbflcbeeghoaa.QFnTrieUndo
open Go.ChangeMaps (open_string shut_string)
set_option linter.unusedVariables false
set_option linter.unusedSimpArgs false
theorem own : ownKnob Try.prog.godebug = none := by kernel_rfl
theorem laidOut : laidOutB Try.prog = true := by kernel_rfl
set_option maxRecDepth 100000 in
theorem reads_T30 : Open.Reads Try.prog 30 k30 (fun x => (Lit.int .i64 x.f0).wf = true ∧ x.f1.size ≤ maxLen ∧ (Lit.int .i64 x.f2).wf = true) :=
  ⟨by kernel_rfl, fun enc w base spare held _ cs _ h => by
    obtain ⟨xs, n_, _, _, hl, hlen, hf⟩ := DataW.trod_struct Try.underlying30 h
    have hc : Try.prog.cellsOf 30 = 3 := by kernel_rfl
    rw [hc] at hl
    obtain ⟨c0, c1, c2, rfl⟩ : ∃ c0 c1 c2, cs = [c0, c1, c2] := by
      match cs, hl with
      | [c0, c1, c2], _ => exact ⟨c0, c1, c2, rfl⟩
    obtain ⟨y0, y1, y2, rfl⟩ : ∃ y0 y1 y2, xs = [y0, y1, y2] := by
      match xs, hlen with
      | [y0, y1, y2], _ => exact ⟨y0, y1, y2, rfl⟩
    have hc3 : Try.prog.cellsOf 3 = 1 := by kernel_rfl
    have hc9 : Try.prog.cellsOf 9 = 1 := by kernel_rfl
    have h0 : DataW.trod enc Try.prog w base spare held n_ 3 [c0] = some y0 := by
      have := hf 0 _ rfl
      simp only [List.getElem_toArray, List.getElem_cons_zero, List.getElem_cons_succ, hc3] at this
      exact this
    obtain ⟨a0, k0_, o0⟩ := ((Open.reads_int Try.underlying3 (by kernel_rfl))).2 _ _ _ _ _ _ _ _ h0
    replace k0_ : ((Kd.int .i64)).K w a0 [c0] := k0_
    have h1 : DataW.trod enc Try.prog w base spare held n_ 9 [c1] = some y1 := by
      have := hf 1 _ rfl
      simp only [List.getElem_toArray, List.getElem_cons_zero, List.getElem_cons_succ, hc9] at this
      exact this
    obtain ⟨a1, k1_, o1⟩ := ((Open.reads_string Try.underlying9 (by kernel_rfl))).2 _ _ _ _ _ _ _ _ h1
    replace k1_ : (Kd.string).K w a1 [c1] := k1_
    have h2 : DataW.trod enc Try.prog w base spare held n_ 3 [c2] = some y2 := by
      have := hf 2 _ rfl
      simp only [List.getElem_toArray, List.getElem_cons_zero, List.getElem_cons_succ, hc3] at this
      exact this
    obtain ⟨a2, k2_, o2⟩ := ((Open.reads_int Try.underlying3 (by kernel_rfl))).2 _ _ _ _ _ _ _ _ h2
    replace k2_ : ((Kd.int .i64)).K w a2 [c2] := k2_
    exact ⟨⟨a0, a1, a2⟩, ⟨[c0], [c1, c2], rfl, k0_, ⟨[c1], [c2], rfl, k1_, k2_⟩⟩, o0, o1, o2⟩⟩
set_option maxRecDepth 100000 in
theorem lifted (os : Os) (started : os.Started) (H : Type) (enc : TypeId × Value → H) :
    ReturnsInHanded {} Try.checked os 6 .any (Rows.fnTrieUndoSpec.pre6 enc Try.prog Try.f6 Rows.fnTrieUndoRow.domain false) (Rows.fnTrieUndoSpec.post enc Try.prog Try.f6 false true false false) := by
  refine returnsInHanded_of_change_sized (C := Try.checked) own started (by kernel_rfl) Try.func6
    (ChangeSpec.witness6 (enc := enc) (C := Try.checked) false ⟨#[], #[.slice none 0 0, .string ByteArray.empty, .int .i64 0, .string ByteArray.empty], []⟩ 8 (by kernel_rfl) (by kernel_rfl) (by kernel_rfl) (by kernel_rfl)) ?_
  intro W base args ds gs before hval0 hW hcnd hsz0 _
  have hsz : (DataW.weightsEach Try.prog (Try.f6.params.toList ++ Rows.fnTrieUndoSpec.plain.varTypes Try.prog) (ds ++ gs)).all (· ≤ reachBytes) = true := hsz0
  have hval : ∀ (j : Nat) t v, Try.f6.params[j]? = some t → args[j]? = some v → Value.okWide Try.prog W .any base t v := hval0
  have hW' := hW
  obtain ⟨p, q, hA0, hV, rfl, hfz, hnd⟩ := hW
  have hA : DataW.TrodAll enc Try.prog W 0 (fun _ => true) true Try.f6.params.toList args.toList ds p := hA0
  rw [Try.params6] at hA hval hsz
  obtain ⟨v0, vs0, d0, ds0, p0, q0, hargs, rfl, rfl, h0, r0⟩ := trodAll_cons hA
  obtain ⟨v1, vs1, d1, ds1, p1, q1, rfl, rfl, rfl, h1, r1⟩ := trodAll_cons r0
  obtain ⟨v2, vs2, d2, ds2, p2, q2, rfl, rfl, rfl, h2, r2⟩ := trodAll_cons r1
  obtain ⟨v3, vs3, d3, ds3, p3, q3, rfl, rfl, rfl, h3, r3⟩ := trodAll_cons r2
  obtain ⟨rfl, rfl, rfl⟩ := trodAll_nil r3
  obtain rfl : args = #[v0, v1, v2, v3] := by cases args; simp_all
  obtain ⟨rfl, rfl⟩ := trodVars_none hV
  have k0 := h0
  have lt0 := Open.trod_blocks k0
  obtain ⟨A0, c0, l0, rfl, hc0, hm0, hr0, ok0⟩ := Open.open_arg (d := k30) reads_T30 Try.underlying22 (hval 0 22 v0 rfl rfl) h0
  obtain ⟨a1, rfl, rfl, rfl, y1⟩ := open_string Try.underlying9 (hval 1 9 v1 rfl rfl) h1
  have w1 : a1.size ≤ 140737488351232 := by
    have z := sized_string hsz (j := 1) (t := 9) rfl rfl
    rw [Array.length_toList] at z
    exact z
  obtain ⟨a2, rfl, rfl, rfl, w2⟩ := open_int Try.underlying3 (hval 2 3 v2 rfl rfl) h2
  obtain ⟨a3, rfl, rfl, rfl, y3⟩ := open_string Try.underlying9 (hval 3 9 v3 rfl rfl) h3
  have w3 : a3.size ≤ 140737488351232 := by
    have z := sized_string hsz (j := 3) (t := 9) rfl rfl
    rw [Array.length_toList] at z
    exact z
  clear hA0 hval0 hsz0 hsz
  obtain ⟨kk_, hk_⟩ := (Pure.FnTrieUndo l0 a1 a2 a3 )
  refine (laws_FnTrieUndo.calls kk_ A0 c0 l0 a1 a2 a3 true W hr0 hc0 hk_).mono fun e W' ⟨he, bel0⟩ => ?_
  have bel : Below W.heap.size W W' := bel0
  subst he
  exact ⟨_, rfl, _, _, _, [], _, [], hW', trodAll_mk1 (shut_bool Try.underlying4 _), (trodAll_cons_mk (Below.trod laidOut (by kernel_rfl) (of_decide_eq_true (by kernel_rfl)) k0 bel lt0) (trodAll_cons_mk (shut_string Try.underlying9 y1) (trodAll_cons_mk (shut_int Try.underlying3 w2) (trodAll_cons_mk (shut_string Try.underlying9 y3) trodAll_mk0)))), rfl, bel.frame _, fun h => by cases h⟩
theorem over : Rows.fnTrieUndoRow.holds Try.pinned (OpenSpec.ofChange Rows.fnTrieUndoSpec) :=
  OpenClaim.holds_of_wide 6 Try.f6 rfl rfl rfl rfl rfl rfl rfl ⟨rfl, rfl, rfl, rfl, rfl⟩ rfl rfl rfl rfl rfl (by kernel_rfl) Try.func6 (by kernel_rfl)
    (of_decide_eq_true (by kernel_rfl)) (by unfold Func.isWrapper; first | (rw [if_pos (by decide +kernel)]; kernel_rfl) | (rw [if_neg (by decide +kernel)]; exact ⟨rfl, rfl⟩))
    (fun os started H enc _ => lifted os started H enc)
theorem proved : Rows.FnTrieUndoSaid := over
end Go.Proofs.Ytkgbflcbeeghoaa.fnTrieUndo
namespace Go.Proofs.Ytkgbflcbeeghoaa
/-- The row, under a short name, for the claim. -/
theorem fnTrieUndo_holds : Rows.FnTrieUndoSaid := fnTrieUndo.proved
end Go.Proofs.Ytkgbflcbeeghoaa
