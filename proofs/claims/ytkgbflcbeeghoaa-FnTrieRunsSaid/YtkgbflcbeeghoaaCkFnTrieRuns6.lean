/- The row of a law, and what it stands on: for the inputs that its statement speaks of. -/
import Derived.Test.YtkgbflcbeeghoaaCkFnTrieRuns5
import Derived.IntWalk
import Derived.Deep.Slices
import Derived.Deep.Strs
import Derived.Lib.SmallJoins
import Derived.Carry
import Derived.OpenShut
import Derived.ShutString
import Derived.WideShapes
import Derived.ChangeOld
import Derived.Test.YtkgbflcbeeghoaaRows
import Derived.WalkKit
import Derived.ProofKit
import Derived.Below
import Derived.SizedLaws
namespace Go.Proofs.Ytkgbflcbeeghoaa.QFnTrieRuns
open Go.RowKit Go.Proofs.YtkgbflcbeeghoaaW.PrintWords Go.Proofs.YtkgbflcbeeghoaaW.PrintLast Go.Proofs.YtkgbflcbeeghoaaW.PrintMore
attribute [local go_sem] max2_int min2_int max_two min_two max_three min_three max_four min_four   -- for this text's walks alone
set_option linter.unusedVariables false
set_option linter.unusedSimpArgs false
theorem bl_irr : ∀ l, Op.bytesLess l l = false
 | [] => rfl
 | a :: x => by simp [Op.bytesLess, bl_irr x]
theorem bl_as : ∀ {a b : List UInt8}, Op.bytesLess b a = true → Op.bytesLess a b = false
 | [], [], h => by simp [Op.bytesLess] at h
 | [], _ :: _, h => by simp [Op.bytesLess] at h
 | _ :: _, [], _ => by simp [Op.bytesLess]
 | a :: x, b :: y, h => by
  (simp only [Op.bytesLess, Bool.or_eq_true, Bool.and_eq_true, decide_eq_true_eq, Bool.or_eq_false_iff, Bool.and_eq_false_iff, decide_eq_false_iff_not, beq_iff_eq] at h ⊢); (rw [UInt8.lt_iff_toNat_lt] at h); (rw [UInt8.lt_iff_toNat_lt]); (rcases h with h | ⟨e, h⟩)
  · exact ⟨by omega, .inl (by rw [beq_eq_false_iff_ne]; intro e; rw [e] at h; omega)⟩
  · exact ⟨by rw [e]; omega, .inr (bl_as h)⟩
theorem bl_eq : ∀ {a b : List UInt8}, Op.bytesLess a b = false → Op.bytesLess b a = false → a = b
 | [], [], _, _ => rfl
 | [], _ :: _, h, _ => by simp [Op.bytesLess] at h
 | _ :: _, [], _, h => by simp [Op.bytesLess] at h
 | a :: x, b :: y, h, k => by
  simp only [Op.bytesLess, Bool.or_eq_false_iff, Bool.and_eq_false_iff, decide_eq_false_iff_not] at h k
  have e : a = b := by
   (have h1 := h.1; have k1 := k.1); (rw [UInt8.lt_iff_toNat_lt] at h1 k1); exact UInt8.toNat_inj.1 (by omega)
  subst e; (simp only [beq_self_eq_true, Bool.true_eq_false, false_or] at h k); (rw [bl_eq h.2 k.2])
theorem bl_gt {a b : List UInt8} (h : Op.bytesLess b a = true) : ((!Op.bytesLess a b) && (!(a == b))) = true := by
 rw [bl_as h, show (a == b) = false from beq_eq_false_iff_ne.2 (fun e => by rw [e, bl_irr] at h; cases h)]
 rfl
theorem bl_ngt {a b : List UInt8} (h : Op.bytesLess b a = false) : ((!Op.bytesLess a b) && (!(a == b))) = false := by
 cases q : Op.bytesLess a b with
 | true => rfl
 | false => rw [show (a == b) = true from beq_iff_eq.2 (bl_eq q h)]; rfl
mutual
def spec_Rising.l0 : Nat → List ByteArray → List ByteArray → Int → Option (List ByteArray)
 | 0, _, _, _ => none
 | k + 1, x0, x3, x4 => if x4 < (x0.length : Int) then (spec_Rising.l1 k x0 x3 x4 (x3.length : Int)) else (some x3)
def spec_Rising.l1 : Nat → List ByteArray → List ByteArray → Int → Int → Option (List ByteArray)
 | 0, _, _, _, _ => none
 | k + 1, x0, x3, x4, x5 => if x5 > 0 then (if 0 ≤ (wrap64 (x5 - 1)) then (if (wrap64 (x5 - 1)) < (x3.length : Int) then (if 0 ≤ x4 then (if x4 < (x0.length : Int) then (if (Op.bytesLess ((rdOf ByteArray.empty x0 x4).toList) ((rdOf ByteArray.empty x3 (wrap64 (x5 - 1))).toList)) = true then (spec_Rising.l1 k x0 x3 x4 (wrap64 (x5 - 1))) else ((some (([] : List ByteArray) : List ByteArray)).bind fun y293 => (if 0 ≤ x5 then (if x5 ≤ (x3.length : Int) then ((some (x3.take (x5 : Int).toNat : List ByteArray)).bind fun y296 => (if y293.length + y296.length < 8796093022208 then ((some (y293 ++ y296 : List ByteArray)).bind fun y300 => (if y300.length < 8796093022208 then ((some (y300 ++ [rdOf ByteArray.empty x0 x4] : List ByteArray)).bind fun y304 => ((some (x3.drop (x5 : Int).toNat : List ByteArray)).bind fun y307 => (if y304.length + y307.length < 8796093022208 then (spec_Rising.l0 k x0 (y304 ++ y307) (wrap64 (x4 + 1))) else (none)))) else (none))) else (none))) else (none)) else (none)))) else (none)) else (none)) else (none)) else (none)) else ((some (([] : List ByteArray) : List ByteArray)).bind fun y314 => (if 0 ≤ x5 then (if x5 ≤ (x3.length : Int) then ((some (x3.take (x5 : Int).toNat : List ByteArray)).bind fun y317 => (if y314.length + y317.length < 8796093022208 then ((some (y314 ++ y317 : List ByteArray)).bind fun y321 => (if 0 ≤ x4 then (if x4 < (x0.length : Int) then (if y321.length < 8796093022208 then ((some (y321 ++ [rdOf ByteArray.empty x0 x4] : List ByteArray)).bind fun y325 => ((some (x3.drop (x5 : Int).toNat : List ByteArray)).bind fun y328 => (if y325.length + y328.length < 8796093022208 then (spec_Rising.l0 k x0 (y325 ++ y328) (wrap64 (x4 + 1))) else (none)))) else (none)) else (none)) else (none))) else (none))) else (none)) else (none)))
end
def spec_Rising.f (k : Nat) (l0 : List ByteArray) : Option (List ByteArray) := spec_Rising.l0 k l0 ([] : List ByteArray) 0
set_option maxHeartbeats 8000000 in
set_option maxRecDepth 100000 in
theorem spec_Rising.calls (k : Nat) (A0 : Option Addr) (c0 : Nat) (l0 : List ByteArray) (r : List ByteArray) (w : World) (hr0 : Kd.C Kd.string w A0 l0.length l0) (hc0 : l0.length ≤ c0) (h : spec_Rising.f k l0 = some r) :
 Calls Try.prog 25 #[.slice A0 l0.length c0] w fun e w' => ∃ v0_ : Value, e = .returned (v0_) ∧ Kd.R Kd.string 9 w' w.heap.size (fun _ => True) v0_ r ∧ Below w.heap.size w w' := by
 have HR0 := A0_ hr0
 have HC0 := A0_ hc0
 clear hr0 hc0
 have HB := A0_ (Below.refl w.heap.size w)
 have H : (spec_Rising.l0 k l0 ([] : List ByteArray) 0) = some r := h
 clear h
 have H' := A0_ H
 clear H
 go_enter Try.func25, Try.ntmps25
 go_wp2
 repeat (go_quiet (fail); try go_wp2)
 go_loopg [3, 4] k (fun kq v3 v4 w' => ∃ (x3_1 : List ByteArray) (x4_1 : Int), v4 = .int .i64 x4_1 ∧ Aside0 (spec_Rising.l0 kq l0 x3_1 x4_1 = some r) ∧ Aside0 (kq ≤ k) ∧ Aside0 (Kd.R Kd.string 9 w' w.heap.size (fun _ => True) v3 x3_1) ∧ Aside0 (Below w.heap.size w w'))
 case atStart => exact ⟨(([] : List ByteArray)), (0), (by first | rfl | (simp; done) | (simp [*]; done)), H', ⟨Nat.le_refl _⟩, ⟨by first | exact Kd.R_nil _ _ _ _ _ | exact Kd.N_nil _ _ _ _ _ | exact Kd.V_nil _ _ _ _ _ | exact Kd.Q_nil _ _ _ _ _ | exact Kd.S_nil _ _ _ _ _⟩, ⟨by repeat (first | (with_reducible first | exact HB.out | apply sm4_ | apply sl9_ | apply sm5_) | exact HB.out)⟩⟩
 case round =>
  clear H'; obtain ⟨x3_1, x4_1, rfl, HA, HK1, HO_3, HB⟩ := hrel
  cases gk with
  | zero => exact absurd HA.out (by simp [spec_Rising.l0])
  | succ k1 =>
   have H := HA.out; clear HA; (simp only [spec_Rising.l0] at H); (by_cases c2 : x4_1 < (l0.length : Int))
   · rw [if_pos c2] at H
     have c2b0 : decide (x4_1 < (l0.length : Int)) = true := decide_eq_true c2; clear c2; have H' := A0_ H; clear H; obtain ⟨Ao3, co3, eo3⟩ := Kd.R_slice HO_3.out; subst eo3; (go_wp2); (repeat (go_quiet (fail); try go_wp2)); (go_loopg [5] k1 (fun kq v5 w' => ∃ (x5_2 : Int), v5 = .int .i64 x5_2 ∧ Aside0 (spec_Rising.l1 kq l0 x3_1 x4_1 x5_2 = some r) ∧ Aside0 (kq ≤ k1) ∧ Aside0 (Kd.R Kd.string 9 w' w.heap.size (fun _ => True) (.slice Ao3 x3_1.length co3) x3_1) ∧ Aside0 (Below w.heap.size w w')))
     case atStart => exact ⟨((x3_1.length : Int)), (by first | rfl | (simp; done) | (simp [*]; done)), H', ⟨Nat.le_refl _⟩, ⟨by (with_reducible repeat (first | apply sm2_ | apply sm1_ | apply sm3_)); exact HO_3.out⟩, ⟨by repeat (first | (with_reducible first | exact HB.out | apply sm4_ | apply sl9_ | apply sm5_) | exact HB.out)⟩⟩
     case round =>
      clear H'; (try clear c2); (try clear c2b0); (try clear p2); obtain ⟨x5_2, rfl, HA, HK2, HO_3, HB⟩ := hrel
      cases gk with
      | zero => exact absurd HA.out (by simp [spec_Rising.l1])
      | succ k2 =>
       have H := HA.out; clear HA; (simp only [spec_Rising.l1] at H); (by_cases c4 : x5_2 > 0)
       · rw [if_pos c4] at H
         have c4b0 : decide (0 < x5_2) = true := decide_eq_true c4; clear c4; obtain ⟨ji5, hji5⟩ : ∃ j_ : Int, (wrap64 (x5_2 - 1)) = j_ := ⟨_, rfl⟩; (replace H : (if 0 ≤ (ji5) then (if (ji5) < (x3_1.length : Int) then (if 0 ≤ x4_1 then (if x4_1 < (l0.length : Int) then (if (Op.bytesLess ((rdOf ByteArray.empty l0 x4_1).toList) ((rdOf ByteArray.empty x3_1 (ji5)).toList)) = true then (spec_Rising.l1 k2 l0 x3_1 x4_1 ji5) else ((some (([] : List ByteArray) : List ByteArray)).bind fun y293 => (if 0 ≤ x5_2 then (if x5_2 ≤ (x3_1.length : Int) then ((some (x3_1.take (x5_2 : Int).toNat : List ByteArray)).bind fun y296 => (if y293.length + y296.length < 8796093022208 then ((some (y293 ++ y296 : List ByteArray)).bind fun y300 => (if y300.length < 8796093022208 then ((some (y300 ++ [rdOf ByteArray.empty l0 x4_1] : List ByteArray)).bind fun y304 => ((some (x3_1.drop (x5_2 : Int).toNat : List ByteArray)).bind fun y307 => (if y304.length + y307.length < 8796093022208 then (spec_Rising.l0 k2 l0 (y304 ++ y307) (wrap64 (x4_1 + 1))) else (none)))) else (none))) else (none))) else (none)) else (none)))) else (none)) else (none)) else (none)) else (none)) = some r := by first | (rw [hji5] at H; exact H) | (simp only [hji5] at H ⊢; exact H)); have hji5w : (IntKind.i64.wrap (x5_2 - 1)) = ji5 := (i64_w _).trans hji5; (by_cases c6 : 0 ≤ (ji5))
         · rw [if_pos c6] at H
           have c6b0 : decide (0 ≤ (ji5)) = true := decide_eq_true c6; clear c6; (by_cases c7 : (ji5) < (x3_1.length : Int))
           · rw [if_pos c7] at H
             have c7b0 : decide ((ji5) < (x3_1.length : Int)) = true := decide_eq_true c7; clear c7; (by_cases c8 : 0 ≤ x4_1)
             · rw [if_pos c8] at H
               have c8b0 : decide (0 ≤ x4_1) = true := decide_eq_true c8; clear c8; (by_cases c9 : x4_1 < (l0.length : Int))
               · rw [if_pos c9] at H
                 have c9b0 : decide (x4_1 < (l0.length : Int)) = true := decide_eq_true c9; clear c9; (by_cases c10 : (Op.bytesLess ((rdOf ByteArray.empty l0 x4_1).toList) ((rdOf ByteArray.empty x3_1 (ji5)).toList)) = true)
                 · rw [if_pos c10] at H
                   have c10b0 : (Op.bytesLess ((rdOf ByteArray.empty l0 x4_1).toList) ((rdOf ByteArray.empty x3_1 (ji5)).toList)) = true := c10; have c10e0 : ((!Op.bytesLess ((rdOf ByteArray.empty x3_1 (ji5)).toList) ((rdOf ByteArray.empty l0 x4_1).toList)) && (!(((rdOf ByteArray.empty x3_1 (ji5)).toList) == ((rdOf ByteArray.empty l0 x4_1).toList)))) = true := bl_gt c10b0; clear c10; have H' := A0_ H; clear H; have p291 : 0 ≤ ((ji5) : Int) := od_ (by assumption); have q291 : (ji5) < (x3_1.length : Int) := od_ (by assumption); obtain ⟨ad291, e291, hx291_0⟩ := Kd.at_string (Kd.R_reads' HO_3.out).2.2 (ji5) p291 q291; (cases e291); replace p291 := eq_true p291; replace q291 := eq_true q291; have p292 : 0 ≤ (x4_1 : Int) := od_ (by assumption); have q292 : x4_1 < (l0.length : Int) := od_ (by assumption); obtain ⟨ad292, e292, hx292_0⟩ := Kd.at_string HR0.out x4_1 p292 q292; (cases e292); replace hx292_0 := (HB.out.cell (bl_ w _ hx292_0)).trans hx292_0; replace p292 := eq_true p292; replace q292 := eq_true q292; (go_wp2); (repeat (go_quiet (fail); try go_wp2)); (go_roundg k2)
                   case measure => have := HK1.out; have := HK2.out; omega
                   case rel => exact ⟨(ji5), (by first | rfl | (simp; done) | (simp only [← hji5] <;> (first | rfl | simp)) | (simp [*]; done)), H', ⟨by have := HK1.out; have := HK2.out; omega⟩, ⟨by (with_reducible repeat (first | apply sm2_ | apply sm1_ | apply sm3_)); exact HO_3.out⟩, ⟨by repeat (first | (with_reducible first | exact HB.out | apply sm4_ | apply sl9_ | apply sm5_) | exact HB.out)⟩⟩
                 · rw [if_neg c10] at H
                   (have c10b0 : (Op.bytesLess ((rdOf ByteArray.empty l0 x4_1).toList) ((rdOf ByteArray.empty x3_1 (ji5)).toList)) = false := by simpa using c10); have c10e0 : ((!Op.bytesLess ((rdOf ByteArray.empty x3_1 (ji5)).toList) ((rdOf ByteArray.empty l0 x4_1).toList)) && (!(((rdOf ByteArray.empty x3_1 (ji5)).toList) == ((rdOf ByteArray.empty l0 x4_1).toList)))) = false := bl_ngt c10b0; clear c10; obtain ⟨y293, hy293⟩ : ∃ y_ : List ByteArray, y_ = (([] : List ByteArray)) := ⟨_, rfl⟩; (replace H : (if 0 ≤ x5_2 then (if x5_2 ≤ (x3_1.length : Int) then ((some (x3_1.take (x5_2 : Int).toNat : List ByteArray)).bind fun y296 => (if y293.length + y296.length < 8796093022208 then ((some (y293 ++ y296 : List ByteArray)).bind fun y300 => (if y300.length < 8796093022208 then ((some (y300 ++ [rdOf ByteArray.empty l0 x4_1] : List ByteArray)).bind fun y304 => ((some (x3_1.drop (x5_2 : Int).toNat : List ByteArray)).bind fun y307 => (if y304.length + y307.length < 8796093022208 then (spec_Rising.l0 k2 l0 (y304 ++ y307) (wrap64 (x4_1 + 1))) else (none)))) else (none))) else (none))) else (none)) else (none)) = some r := by first | (rw [hy293]; with_reducible exact H) | (have H2_ := (obs_).symm.trans H; rw [hy293]; with_reducible exact H2_) | (have H2_ := (obs_).symm.trans H; with_reducible exact H2_) | with_reducible exact H | (rw [hy293]; exact H) | exact H); have Ny293 := A0_ hy293; clear hy293; (by_cases c11 : 0 ≤ x5_2)
                   · rw [if_pos c11] at H
                     have c11b0 := eq_true c11; have c11b1 : decide (0 ≤ x5_2) = true := decide_eq_true c11; clear c11; (by_cases c12 : x5_2 ≤ (x3_1.length : Int))
                     · rw [if_pos c12] at H
                       have c12b0 := eq_true c12; have c12b1 : decide (x5_2 ≤ (x3_1.length : Int)) = true := decide_eq_true c12; clear c12; obtain ⟨y296, hy296⟩ : ∃ y_ : List ByteArray, y_ = (x3_1.take (x5_2 : Int).toNat) := ⟨_, rfl⟩; (replace H : (if y293.length + y296.length < 8796093022208 then ((some (y293 ++ y296 : List ByteArray)).bind fun y300 => (if y300.length < 8796093022208 then ((some (y300 ++ [rdOf ByteArray.empty l0 x4_1] : List ByteArray)).bind fun y304 => ((some (x3_1.drop (x5_2 : Int).toNat : List ByteArray)).bind fun y307 => (if y304.length + y307.length < 8796093022208 then (spec_Rising.l0 k2 l0 (y304 ++ y307) (wrap64 (x4_1 + 1))) else (none)))) else (none))) else (none)) = some r := by first | (rw [hy296]; with_reducible exact H) | (have H2_ := (obs_).symm.trans H; rw [hy296]; with_reducible exact H2_) | (have H2_ := (obs_).symm.trans H; with_reducible exact H2_) | with_reducible exact H | (rw [hy296]; exact H) | exact H); have Ny296 := A0_ hy296; clear hy296; (by_cases c13 : y293.length + y296.length < 8796093022208)
                       · rw [if_pos c13] at H
                         have LMc13 := A0_ c13; clear c13; obtain ⟨y300, hy300⟩ : ∃ y_ : List ByteArray, y_ = (y293 ++ y296) := ⟨_, rfl⟩; (replace H : (if y300.length < 8796093022208 then ((some (y300 ++ [rdOf ByteArray.empty l0 x4_1] : List ByteArray)).bind fun y304 => ((some (x3_1.drop (x5_2 : Int).toNat : List ByteArray)).bind fun y307 => (if y304.length + y307.length < 8796093022208 then (spec_Rising.l0 k2 l0 (y304 ++ y307) (wrap64 (x4_1 + 1))) else (none)))) else (none)) = some r := by first | (rw [hy300]; with_reducible exact H) | (have H2_ := (obs_).symm.trans H; rw [hy300]; with_reducible exact H2_) | (have H2_ := (obs_).symm.trans H; with_reducible exact H2_) | with_reducible exact H | (rw [hy300]; exact H) | exact H); have Ny300 := A0_ hy300; clear hy300; (by_cases c14 : y300.length < 8796093022208)
                         · rw [if_pos c14] at H
                           have LMc14 := A0_ c14; clear c14; obtain ⟨y304, hy304⟩ : ∃ y_ : List ByteArray, y_ = (y300 ++ [rdOf ByteArray.empty l0 x4_1]) := ⟨_, rfl⟩; (replace H : ((some (x3_1.drop (x5_2 : Int).toNat : List ByteArray)).bind fun y307 => (if y304.length + y307.length < 8796093022208 then (spec_Rising.l0 k2 l0 (y304 ++ y307) (wrap64 (x4_1 + 1))) else (none))) = some r := by first | (rw [hy304]; with_reducible exact H) | (have H2_ := (obs_).symm.trans H; rw [hy304]; with_reducible exact H2_) | (have H2_ := (obs_).symm.trans H; with_reducible exact H2_) | with_reducible exact H | (rw [hy304]; exact H) | exact H); have Ny304 := A0_ hy304; clear hy304; have c15b0 := eq_true (od_ (by assumption) : 0 ≤ x5_2); have c16b0 := eq_true (od_ (by assumption) : x5_2 ≤ (x3_1.length : Int)); obtain ⟨y307, hy307⟩ : ∃ y_ : List ByteArray, y_ = (x3_1.drop (x5_2 : Int).toNat) := ⟨_, rfl⟩; (replace H : (if y304.length + y307.length < 8796093022208 then (spec_Rising.l0 k2 l0 (y304 ++ y307) (wrap64 (x4_1 + 1))) else (none)) = some r := by first | (rw [hy307]; with_reducible exact H) | (have H2_ := (obs_).symm.trans H; rw [hy307]; with_reducible exact H2_) | (have H2_ := (obs_).symm.trans H; with_reducible exact H2_) | with_reducible exact H | (rw [hy307]; exact H) | exact H); have Ny307 := A0_ hy307; clear hy307; (by_cases c17 : y304.length + y307.length < 8796093022208)
                           · rw [if_pos c17] at H
                             have LMc17 := A0_ c17; clear c17; obtain ⟨y311, hy311⟩ : ∃ y_ : List ByteArray, y_ = (y304 ++ y307) := ⟨_, rfl⟩; (replace H : (spec_Rising.l0 k2 l0 y311 (wrap64 (x4_1 + 1))) = some r := by first | (rw [hy311]; with_reducible exact H) | (have H2_ := (obs_).symm.trans H; rw [hy311]; with_reducible exact H2_) | (have H2_ := (obs_).symm.trans H; with_reducible exact H2_) | with_reducible exact H | (rw [hy311]; exact H) | exact H); have Ny311 := A0_ hy311; clear hy311; have H' := A0_ H; clear H; have p291 : 0 ≤ ((ji5) : Int) := od_ (by assumption); have q291 : (ji5) < (x3_1.length : Int) := od_ (by assumption); obtain ⟨ad291, e291, hx291_0⟩ := Kd.at_string (Kd.R_reads' HO_3.out).2.2 (ji5) p291 q291; (cases e291); replace p291 := eq_true p291; replace q291 := eq_true q291; have p292 : 0 ≤ (x4_1 : Int) := od_ (by assumption); have q292 : x4_1 < (l0.length : Int) := od_ (by assumption); obtain ⟨ad292, e292, hx292_0⟩ := Kd.at_string HR0.out x4_1 p292 q292; (cases e292); replace hx292_0 := (HB.out.cell (bl_ w _ hx292_0)).trans hx292_0; replace p292 := eq_true p292; replace q292 := eq_true q292; (go_wp2_with (first | ((with_reducible refine sp1_ (N := 31) rfl ?_); refine Kd.R_lit Kd.string _ 9 ?hg (N := 31) ?hd (xs := ([] : List ByteArray)) (inner := []) (ok := fun _ => True) (okp := fun _ => True) ?hr ?hp (fun _ hk => hk) trivial (Below.refl _ _) (Nat.le_refl _) (by simp) ?_; (case hd => rfl); (case hg => rfl); (case hr => first | (go_simp; done) | (go_simp; rfl)); (case hp => exact (Reps.none _ _)); intro v294 w18 ho19 hb hg_ hnew_; clear hg_ hnew_; (first | rw [← Ny293.out] at ho19 | (simp only [Int.reduceToNat] at ho19; rw [← Ny293.out] at ho19)); have n0_ := A0_ (Kd.R_elder' (kr_ HO_3.out) (Kd.R_base ho19) hb); have n1_ := A0_ (Kd.R_lower (Kd.R_new' ho19 (Kd.R_lt (kr_ HO_3.out))) (sn1_ (kw0_ HB.out))); have n2_ := A0_ (sn2_ (kw0_ HB.out) hb); clear HO_3; clear HB; have HO_3 := n0_; have HO295 := n1_; have HB := n2_; clear n0_ n1_ n2_; clear hb ho19; have q20 : (x5_2 : Int) ≤ ((x3_1.length : Int) : Int) := od_ (by assumption); obtain ⟨i020, hi020, _, hsz20, _⟩ := info_parts info9; have hroom20 : x3_1.length ≤ co3 := (Kd.R_reads' HO_3.out).2.1; have hC20 : Kd.C Kd.string _ (some ad291) x3_1.length x3_1 := (Kd.R_reads' HO_3.out).2.2; have hcut20 := cut_to (P := Try.prog) 24 9 .i64 Try.underlying24 hi020 (some ad291) x3_1.length co3 x5_2 (od_ (by assumption)) q20 hroom20; have hr20 := Kd.C_take (m := (x5_2 : Int).toNat) hC20 (by omega); have hy20 : y296.length = (x5_2 : Int).toNat := (by rw [Ny296.out, sp2_]; omega); rw [← Ny296.out] at hr20; rw [← hy20] at hcut20; have HR299 := A0_ hr20; have HC299 := A0_ (show y296.length ≤ co3 from by omega); clear hr20 hC20 hroom20 hi020 hsz20; have KY20 := A0_ hy20; clear hy20; have KL20 := A0_ (show (x5_2 : Int).toNat ≤ x3_1.length from by omega); replace q20 := eq_true q20) | ((with_reducible refine gate_builtin (b := .append) (xs := #[.tmp 31, .tmp 34]) rfl ?_); at_builtin; refine Kd.R_append_rows Kd.string (w0 := w) w.heap.size rfl (.tmp 31) (.tmp 34) 24 9 (.string ⟨#[]⟩) 16 rfl Try.underlying24 info9 rfl (by decide) (by omega) v294 y293 y296 _ _ _ (fun k_ => some k_ ≠ (.slice (some ad291) x3_1.length co3 : Value).ownBlock) (fun _ => False) rfl rfl ?aO ?aR (fun _ _ h => h) (fun _ h => h.elim) ?aF ?aB ?aS ?aL ?_; (case aR => repeat (first | exact (by repeat (first | (with_reducible exact HR299.out) | (with_reducible refine sp8_ ?_ _) | (with_reducible refine sp9_ ?_ _) | (with_reducible refine sq1_ ?_) | exact HR299.out)) | (with_reducible refine sp8_ ?_ _) | (with_reducible refine sp9_ ?_ _) | (with_reducible refine sq1_ ?_))); (case aB => exact (kw0_ HB.out)); (case aF => exact (fun k_ hk => Kd.fresh' (Kd.R_lt (kr_ HO_3.out)) k_ hk)); (case aO => exact (by (with_reducible repeat (first | apply sm2_ | apply sm1_ | apply sm3_)); exact Kd.R_mono HO295.out (fun _ hk => hk.2))); (case aS => exact (sn1_ (kw0_ HB.out))); (case aL => have := LMc13.out; omega); intro v301 w21 ho hb hg hat; rw [← Ny300.out] at ho; have n0_ := A0_ (Kd.R_after (ok := (fun _ => True)) (kr_ HO_3.out) hg hat); have n1_ := A0_ (hb); have n2_ := A0_ ((show Kd.C Kd.string w21 (some ad291) y296.length y296 from by rw [Ny296.out]; exact Kd.C_take (m := (x5_2 : Int).toNat) ((Kd.R_reads' (Kd.R_after (ok := (fun _ => True)) (kr_ HO_3.out) hg hat)).2.2) KL20.out)); have n3_ := A0_ (ho); clear HO_3; clear HB; clear HR299; clear HO295; have HO_3 := n0_; have HB := n1_; have HR299 := n2_; have HO302 := n3_; clear n0_ n1_ n2_ n3_; clear ho hb hg hat; have p303 : 0 ≤ (x4_1 : Int) := od_ (by assumption); have q303 : x4_1 < (l0.length : Int) := od_ (by assumption); obtain ⟨ad303, e303, hx303_0⟩ := Kd.at_string HR0.out x4_1 p303 q303; obtain rfl : ad292 = ad303 := (by injection e303); replace hx303_0 := (HB.out.cell (bl_ w _ hx303_0)).trans hx303_0; replace p303 := eq_true p303; replace q303 := eq_true q303) | ((with_reducible refine gate_builtin (b := .append) (xs := #[.tmp 36, .tmp 41]) rfl ?_); at_builtin; refine Kd.R_append Kd.string (w0 := w) w.heap.size rfl (.tmp 36) (.tmp 41) 24 9 (.string ⟨#[]⟩) 16 rfl Try.underlying24 info9 rfl (by decide) (by omega) v301 y300 (rdOf ByteArray.empty l0 x4_1) [.string (rdOf ByteArray.empty l0 x4_1)] (fun k_ => some k_ ≠ (.slice (some ad291) x3_1.length co3 : Value).ownBlock) (fun _ => False) rfl rfl ?aP (fun _ hk => hk.elim) ?aF ?aO ?aB ?aS ?aL ?_; (case aP => exact rfl); (case aB => exact (kw0_ HB.out)); (case aF => exact (fun k_ hk => Kd.fresh' (Kd.R_lt (kr_ HO_3.out)) k_ hk)); (case aO => exact (kr_ HO302.out)); (case aS => exact (sn1_ (kw0_ HB.out))); (case aL => have := LMc14.out; omega); intro v305 w22 ho hb hg hat; rw [← Ny304.out] at ho; have n0_ := A0_ (Kd.R_after (ok := (fun _ => True)) (kr_ HO_3.out) hg hat); have n1_ := A0_ (hb); have n2_ := A0_ ((show Kd.C Kd.string w22 (some ad291) y296.length y296 from by rw [Ny296.out]; exact Kd.C_take (m := (x5_2 : Int).toNat) ((Kd.R_reads' (Kd.R_after (ok := (fun _ => True)) (kr_ HO_3.out) hg hat)).2.2) KL20.out)); have n3_ := A0_ (ho); clear HO_3; clear HB; clear HR299; clear HO302; have HO_3 := n0_; have HB := n1_; have HR299 := n2_; have HO306 := n3_; clear n0_ n1_ n2_ n3_; clear ho hb hg hat; have q23 : (x5_2 : Int) ≤ ((x3_1.length : Int) : Int) := od_ (by assumption); obtain ⟨i023, hi023, _, hsz23, _⟩ := info_parts info9; have hroom23 : x3_1.length ≤ co3 := (Kd.R_reads' HO_3.out).2.1; have hC23 : Kd.C Kd.string _ (some ad291) x3_1.length x3_1 := (Kd.R_reads' HO_3.out).2.2; have q023 : (0 : Int) ≤ (x5_2 : Int) := od_ (by assumption); have hcut23 := cut_from (P := Try.prog) 24 9 .i64 Try.underlying24 hi023 1 hsz23 (some ad291) x3_1.length co3 x5_2 q023 q23; have hr23 := Kd.C_drop (m := (x5_2 : Int).toNat) (c := co3) hC23 (by omega) hroom23; obtain ⟨A23, hA23⟩ : ∃ A1, A1 = (if co3 = (x5_2 : Int).toNat then (some ad291) else ((some ad291) : Option Addr).map (·.add ((x5_2 : Int).toNat * 1))) := ⟨_, rfl⟩; obtain ⟨c23, hc23⟩ : ∃ c1, c1 = co3 - (x5_2 : Int).toNat := ⟨_, rfl⟩; have hy23 : y307.length = x3_1.length - (x5_2 : Int).toNat := (by rw [Ny307.out, List.length_drop] <;> omega); rw [show (x3_1).drop (x5_2 : Int).toNat = y307 from Ny307.out.symm] at hr23; replace hr23 : Kd.C Kd.string _ A23 y307.length y307 := (by rw [hA23]; exact hr23); rw [← hy23, ← hA23, ← hc23] at hcut23; have HR310 := A0_ hr23; have HC310 := A0_ (show y307.length ≤ c23 from by rw [hy23, hc23]; exact Nat.sub_le_sub_right hroom23 _); clear hr23 hC23 hroom23 hi023 hsz23 hc23; have KY23 := A0_ hy23; have KA23 := A0_ hA23; clear hy23 hA23; have KL23 := A0_ (show (x5_2 : Int).toNat ≤ x3_1.length from by omega); replace q23 := eq_true q23) | ((with_reducible refine gate_builtin (b := .append) (xs := #[.tmp 43, .tmp 46]) rfl ?_); at_builtin; refine Kd.R_append_rows Kd.string (w0 := w) w.heap.size rfl (.tmp 43) (.tmp 46) 24 9 (.string ⟨#[]⟩) 16 rfl Try.underlying24 info9 rfl (by decide) (by omega) v305 y304 y307 _ _ _ (fun k_ => some k_ ≠ (.slice (some ad291) x3_1.length co3 : Value).ownBlock) (fun _ => False) rfl rfl ?aO ?aR (fun _ _ h => h) (fun _ h => h.elim) ?aF ?aB ?aS ?aL ?_; (case aR => repeat (first | exact (by repeat (first | (with_reducible exact HR310.out) | (with_reducible refine sp8_ ?_ _) | (with_reducible refine sp9_ ?_ _) | (with_reducible refine sq1_ ?_) | exact HR310.out)) | (with_reducible refine sp8_ ?_ _) | (with_reducible refine sp9_ ?_ _) | (with_reducible refine sq1_ ?_))); (case aB => exact (kw0_ HB.out)); (case aF => exact (fun k_ hk => Kd.fresh' (Kd.R_lt (kr_ HO_3.out)) k_ hk)); (case aO => exact (kr_ HO306.out)); (case aS => exact (sn1_ (kw0_ HB.out))); (case aL => have := LMc17.out; omega); intro v312 w24 ho hb hg hat; rw [← Ny311.out] at ho; have n0_ := A0_ (Kd.R_after (ok := (fun _ => True)) (kr_ HO_3.out) hg hat); have n1_ := A0_ (hb); have n2_ := A0_ ((show Kd.C Kd.string w24 (some ad291) y296.length y296 from by rw [Ny296.out]; exact Kd.C_take (m := (x5_2 : Int).toNat) ((Kd.R_reads' (Kd.R_after (ok := (fun _ => True)) (kr_ HO_3.out) hg hat)).2.2) KL20.out)); have n3_ := A0_ ((show Kd.C Kd.string w24 A23 y307.length y307 from by rw [Ny307.out, KA23.out]; exact Kd.C_drop (m := (x5_2 : Int).toNat) (c := co3) ((Kd.R_reads' (Kd.R_after (ok := (fun _ => True)) (kr_ HO_3.out) hg hat)).2.2) KL23.out ((Kd.R_reads' (Kd.R_after (ok := (fun _ => True)) (kr_ HO_3.out) hg hat)).2.1))); have n4_ := A0_ (ho); clear HO_3; clear HB; clear HR299; clear HR310; clear HO306; have HO_3 := n0_; have HB := n1_; have HR299 := n2_; have HR310 := n3_; have HO313 := n4_; clear n0_ n1_ n2_ n3_ n4_; clear ho hb hg hat))); (repeat (go_quiet (first | ((with_reducible refine sp1_ (N := 31) rfl ?_); refine Kd.R_lit Kd.string _ 9 ?hg (N := 31) ?hd (xs := ([] : List ByteArray)) (inner := []) (ok := fun _ => True) (okp := fun _ => True) ?hr ?hp (fun _ hk => hk) trivial (Below.refl _ _) (Nat.le_refl _) (by simp) ?_; (case hd => rfl); (case hg => rfl); (case hr => first | (go_simp; done) | (go_simp; rfl)); (case hp => exact (Reps.none _ _)); intro v294 w18 ho19 hb hg_ hnew_; clear hg_ hnew_; (first | rw [← Ny293.out] at ho19 | (simp only [Int.reduceToNat] at ho19; rw [← Ny293.out] at ho19)); have n0_ := A0_ (Kd.R_elder' (kr_ HO_3.out) (Kd.R_base ho19) hb); have n1_ := A0_ (Kd.R_lower (Kd.R_new' ho19 (Kd.R_lt (kr_ HO_3.out))) (sn1_ (kw0_ HB.out))); have n2_ := A0_ (sn2_ (kw0_ HB.out) hb); clear HO_3; clear HB; have HO_3 := n0_; have HO295 := n1_; have HB := n2_; clear n0_ n1_ n2_; clear hb ho19; have q20 : (x5_2 : Int) ≤ ((x3_1.length : Int) : Int) := od_ (by assumption); obtain ⟨i020, hi020, _, hsz20, _⟩ := info_parts info9; have hroom20 : x3_1.length ≤ co3 := (Kd.R_reads' HO_3.out).2.1; have hC20 : Kd.C Kd.string _ (some ad291) x3_1.length x3_1 := (Kd.R_reads' HO_3.out).2.2; have hcut20 := cut_to (P := Try.prog) 24 9 .i64 Try.underlying24 hi020 (some ad291) x3_1.length co3 x5_2 (od_ (by assumption)) q20 hroom20; have hr20 := Kd.C_take (m := (x5_2 : Int).toNat) hC20 (by omega); have hy20 : y296.length = (x5_2 : Int).toNat := (by rw [Ny296.out, sp2_]; omega); rw [← Ny296.out] at hr20; rw [← hy20] at hcut20; have HR299 := A0_ hr20; have HC299 := A0_ (show y296.length ≤ co3 from by omega); clear hr20 hC20 hroom20 hi020 hsz20; have KY20 := A0_ hy20; clear hy20; have KL20 := A0_ (show (x5_2 : Int).toNat ≤ x3_1.length from by omega); replace q20 := eq_true q20) | ((with_reducible refine gate_builtin (b := .append) (xs := #[.tmp 31, .tmp 34]) rfl ?_); at_builtin; refine Kd.R_append_rows Kd.string (w0 := w) w.heap.size rfl (.tmp 31) (.tmp 34) 24 9 (.string ⟨#[]⟩) 16 rfl Try.underlying24 info9 rfl (by decide) (by omega) v294 y293 y296 _ _ _ (fun k_ => some k_ ≠ (.slice (some ad291) x3_1.length co3 : Value).ownBlock) (fun _ => False) rfl rfl ?aO ?aR (fun _ _ h => h) (fun _ h => h.elim) ?aF ?aB ?aS ?aL ?_; (case aR => repeat (first | exact (by repeat (first | (with_reducible exact HR299.out) | (with_reducible refine sp8_ ?_ _) | (with_reducible refine sp9_ ?_ _) | (with_reducible refine sq1_ ?_) | exact HR299.out)) | (with_reducible refine sp8_ ?_ _) | (with_reducible refine sp9_ ?_ _) | (with_reducible refine sq1_ ?_))); (case aB => exact (kw0_ HB.out)); (case aF => exact (fun k_ hk => Kd.fresh' (Kd.R_lt (kr_ HO_3.out)) k_ hk)); (case aO => exact (by (with_reducible repeat (first | apply sm2_ | apply sm1_ | apply sm3_)); exact Kd.R_mono HO295.out (fun _ hk => hk.2))); (case aS => exact (sn1_ (kw0_ HB.out))); (case aL => have := LMc13.out; omega); intro v301 w21 ho hb hg hat; rw [← Ny300.out] at ho; have n0_ := A0_ (Kd.R_after (ok := (fun _ => True)) (kr_ HO_3.out) hg hat); have n1_ := A0_ (hb); have n2_ := A0_ ((show Kd.C Kd.string w21 (some ad291) y296.length y296 from by rw [Ny296.out]; exact Kd.C_take (m := (x5_2 : Int).toNat) ((Kd.R_reads' (Kd.R_after (ok := (fun _ => True)) (kr_ HO_3.out) hg hat)).2.2) KL20.out)); have n3_ := A0_ (ho); clear HO_3; clear HB; clear HR299; clear HO295; have HO_3 := n0_; have HB := n1_; have HR299 := n2_; have HO302 := n3_; clear n0_ n1_ n2_ n3_; clear ho hb hg hat; have p303 : 0 ≤ (x4_1 : Int) := od_ (by assumption); have q303 : x4_1 < (l0.length : Int) := od_ (by assumption); obtain ⟨ad303, e303, hx303_0⟩ := Kd.at_string HR0.out x4_1 p303 q303; obtain rfl : ad292 = ad303 := (by injection e303); replace hx303_0 := (HB.out.cell (bl_ w _ hx303_0)).trans hx303_0; replace p303 := eq_true p303; replace q303 := eq_true q303) | ((with_reducible refine gate_builtin (b := .append) (xs := #[.tmp 36, .tmp 41]) rfl ?_); at_builtin; refine Kd.R_append Kd.string (w0 := w) w.heap.size rfl (.tmp 36) (.tmp 41) 24 9 (.string ⟨#[]⟩) 16 rfl Try.underlying24 info9 rfl (by decide) (by omega) v301 y300 (rdOf ByteArray.empty l0 x4_1) [.string (rdOf ByteArray.empty l0 x4_1)] (fun k_ => some k_ ≠ (.slice (some ad291) x3_1.length co3 : Value).ownBlock) (fun _ => False) rfl rfl ?aP (fun _ hk => hk.elim) ?aF ?aO ?aB ?aS ?aL ?_; (case aP => exact rfl); (case aB => exact (kw0_ HB.out)); (case aF => exact (fun k_ hk => Kd.fresh' (Kd.R_lt (kr_ HO_3.out)) k_ hk)); (case aO => exact (kr_ HO302.out)); (case aS => exact (sn1_ (kw0_ HB.out))); (case aL => have := LMc14.out; omega); intro v305 w22 ho hb hg hat; rw [← Ny304.out] at ho; have n0_ := A0_ (Kd.R_after (ok := (fun _ => True)) (kr_ HO_3.out) hg hat); have n1_ := A0_ (hb); have n2_ := A0_ ((show Kd.C Kd.string w22 (some ad291) y296.length y296 from by rw [Ny296.out]; exact Kd.C_take (m := (x5_2 : Int).toNat) ((Kd.R_reads' (Kd.R_after (ok := (fun _ => True)) (kr_ HO_3.out) hg hat)).2.2) KL20.out)); have n3_ := A0_ (ho); clear HO_3; clear HB; clear HR299; clear HO302; have HO_3 := n0_; have HB := n1_; have HR299 := n2_; have HO306 := n3_; clear n0_ n1_ n2_ n3_; clear ho hb hg hat; have q23 : (x5_2 : Int) ≤ ((x3_1.length : Int) : Int) := od_ (by assumption); obtain ⟨i023, hi023, _, hsz23, _⟩ := info_parts info9; have hroom23 : x3_1.length ≤ co3 := (Kd.R_reads' HO_3.out).2.1; have hC23 : Kd.C Kd.string _ (some ad291) x3_1.length x3_1 := (Kd.R_reads' HO_3.out).2.2; have q023 : (0 : Int) ≤ (x5_2 : Int) := od_ (by assumption); have hcut23 := cut_from (P := Try.prog) 24 9 .i64 Try.underlying24 hi023 1 hsz23 (some ad291) x3_1.length co3 x5_2 q023 q23; have hr23 := Kd.C_drop (m := (x5_2 : Int).toNat) (c := co3) hC23 (by omega) hroom23; obtain ⟨A23, hA23⟩ : ∃ A1, A1 = (if co3 = (x5_2 : Int).toNat then (some ad291) else ((some ad291) : Option Addr).map (·.add ((x5_2 : Int).toNat * 1))) := ⟨_, rfl⟩; obtain ⟨c23, hc23⟩ : ∃ c1, c1 = co3 - (x5_2 : Int).toNat := ⟨_, rfl⟩; have hy23 : y307.length = x3_1.length - (x5_2 : Int).toNat := (by rw [Ny307.out, List.length_drop] <;> omega); rw [show (x3_1).drop (x5_2 : Int).toNat = y307 from Ny307.out.symm] at hr23; replace hr23 : Kd.C Kd.string _ A23 y307.length y307 := (by rw [hA23]; exact hr23); rw [← hy23, ← hA23, ← hc23] at hcut23; have HR310 := A0_ hr23; have HC310 := A0_ (show y307.length ≤ c23 from by rw [hy23, hc23]; exact Nat.sub_le_sub_right hroom23 _); clear hr23 hC23 hroom23 hi023 hsz23 hc23; have KY23 := A0_ hy23; have KA23 := A0_ hA23; clear hy23 hA23; have KL23 := A0_ (show (x5_2 : Int).toNat ≤ x3_1.length from by omega); replace q23 := eq_true q23) | ((with_reducible refine gate_builtin (b := .append) (xs := #[.tmp 43, .tmp 46]) rfl ?_); at_builtin; refine Kd.R_append_rows Kd.string (w0 := w) w.heap.size rfl (.tmp 43) (.tmp 46) 24 9 (.string ⟨#[]⟩) 16 rfl Try.underlying24 info9 rfl (by decide) (by omega) v305 y304 y307 _ _ _ (fun k_ => some k_ ≠ (.slice (some ad291) x3_1.length co3 : Value).ownBlock) (fun _ => False) rfl rfl ?aO ?aR (fun _ _ h => h) (fun _ h => h.elim) ?aF ?aB ?aS ?aL ?_; (case aR => repeat (first | exact (by repeat (first | (with_reducible exact HR310.out) | (with_reducible refine sp8_ ?_ _) | (with_reducible refine sp9_ ?_ _) | (with_reducible refine sq1_ ?_) | exact HR310.out)) | (with_reducible refine sp8_ ?_ _) | (with_reducible refine sp9_ ?_ _) | (with_reducible refine sq1_ ?_))); (case aB => exact (kw0_ HB.out)); (case aF => exact (fun k_ hk => Kd.fresh' (Kd.R_lt (kr_ HO_3.out)) k_ hk)); (case aO => exact (kr_ HO306.out)); (case aS => exact (sn1_ (kw0_ HB.out))); (case aL => have := LMc17.out; omega); intro v312 w24 ho hb hg hat; rw [← Ny311.out] at ho; have n0_ := A0_ (Kd.R_after (ok := (fun _ => True)) (kr_ HO_3.out) hg hat); have n1_ := A0_ (hb); have n2_ := A0_ ((show Kd.C Kd.string w24 (some ad291) y296.length y296 from by rw [Ny296.out]; exact Kd.C_take (m := (x5_2 : Int).toNat) ((Kd.R_reads' (Kd.R_after (ok := (fun _ => True)) (kr_ HO_3.out) hg hat)).2.2) KL20.out)); have n3_ := A0_ ((show Kd.C Kd.string w24 A23 y307.length y307 from by rw [Ny307.out, KA23.out]; exact Kd.C_drop (m := (x5_2 : Int).toNat) (c := co3) ((Kd.R_reads' (Kd.R_after (ok := (fun _ => True)) (kr_ HO_3.out) hg hat)).2.2) KL23.out ((Kd.R_reads' (Kd.R_after (ok := (fun _ => True)) (kr_ HO_3.out) hg hat)).2.1))); have n4_ := A0_ (ho); clear HO_3; clear HB; clear HR299; clear HR310; clear HO306; have HO_3 := n0_; have HB := n1_; have HR299 := n2_; have HR310 := n3_; have HO313 := n4_; clear n0_ n1_ n2_ n3_ n4_; clear ho hb hg hat)); try go_wp2_with (first | ((with_reducible refine sp1_ (N := 31) rfl ?_); refine Kd.R_lit Kd.string _ 9 ?hg (N := 31) ?hd (xs := ([] : List ByteArray)) (inner := []) (ok := fun _ => True) (okp := fun _ => True) ?hr ?hp (fun _ hk => hk) trivial (Below.refl _ _) (Nat.le_refl _) (by simp) ?_; (case hd => rfl); (case hg => rfl); (case hr => first | (go_simp; done) | (go_simp; rfl)); (case hp => exact (Reps.none _ _)); intro v294 w18 ho19 hb hg_ hnew_; clear hg_ hnew_; (first | rw [← Ny293.out] at ho19 | (simp only [Int.reduceToNat] at ho19; rw [← Ny293.out] at ho19)); have n0_ := A0_ (Kd.R_elder' (kr_ HO_3.out) (Kd.R_base ho19) hb); have n1_ := A0_ (Kd.R_lower (Kd.R_new' ho19 (Kd.R_lt (kr_ HO_3.out))) (sn1_ (kw0_ HB.out))); have n2_ := A0_ (sn2_ (kw0_ HB.out) hb); clear HO_3; clear HB; have HO_3 := n0_; have HO295 := n1_; have HB := n2_; clear n0_ n1_ n2_; clear hb ho19; have q20 : (x5_2 : Int) ≤ ((x3_1.length : Int) : Int) := od_ (by assumption); obtain ⟨i020, hi020, _, hsz20, _⟩ := info_parts info9; have hroom20 : x3_1.length ≤ co3 := (Kd.R_reads' HO_3.out).2.1; have hC20 : Kd.C Kd.string _ (some ad291) x3_1.length x3_1 := (Kd.R_reads' HO_3.out).2.2; have hcut20 := cut_to (P := Try.prog) 24 9 .i64 Try.underlying24 hi020 (some ad291) x3_1.length co3 x5_2 (od_ (by assumption)) q20 hroom20; have hr20 := Kd.C_take (m := (x5_2 : Int).toNat) hC20 (by omega); have hy20 : y296.length = (x5_2 : Int).toNat := (by rw [Ny296.out, sp2_]; omega); rw [← Ny296.out] at hr20; rw [← hy20] at hcut20; have HR299 := A0_ hr20; have HC299 := A0_ (show y296.length ≤ co3 from by omega); clear hr20 hC20 hroom20 hi020 hsz20; have KY20 := A0_ hy20; clear hy20; have KL20 := A0_ (show (x5_2 : Int).toNat ≤ x3_1.length from by omega); replace q20 := eq_true q20) | ((with_reducible refine gate_builtin (b := .append) (xs := #[.tmp 31, .tmp 34]) rfl ?_); at_builtin; refine Kd.R_append_rows Kd.string (w0 := w) w.heap.size rfl (.tmp 31) (.tmp 34) 24 9 (.string ⟨#[]⟩) 16 rfl Try.underlying24 info9 rfl (by decide) (by omega) v294 y293 y296 _ _ _ (fun k_ => some k_ ≠ (.slice (some ad291) x3_1.length co3 : Value).ownBlock) (fun _ => False) rfl rfl ?aO ?aR (fun _ _ h => h) (fun _ h => h.elim) ?aF ?aB ?aS ?aL ?_; (case aR => repeat (first | exact (by repeat (first | (with_reducible exact HR299.out) | (with_reducible refine sp8_ ?_ _) | (with_reducible refine sp9_ ?_ _) | (with_reducible refine sq1_ ?_) | exact HR299.out)) | (with_reducible refine sp8_ ?_ _) | (with_reducible refine sp9_ ?_ _) | (with_reducible refine sq1_ ?_))); (case aB => exact (kw0_ HB.out)); (case aF => exact (fun k_ hk => Kd.fresh' (Kd.R_lt (kr_ HO_3.out)) k_ hk)); (case aO => exact (by (with_reducible repeat (first | apply sm2_ | apply sm1_ | apply sm3_)); exact Kd.R_mono HO295.out (fun _ hk => hk.2))); (case aS => exact (sn1_ (kw0_ HB.out))); (case aL => have := LMc13.out; omega); intro v301 w21 ho hb hg hat; rw [← Ny300.out] at ho; have n0_ := A0_ (Kd.R_after (ok := (fun _ => True)) (kr_ HO_3.out) hg hat); have n1_ := A0_ (hb); have n2_ := A0_ ((show Kd.C Kd.string w21 (some ad291) y296.length y296 from by rw [Ny296.out]; exact Kd.C_take (m := (x5_2 : Int).toNat) ((Kd.R_reads' (Kd.R_after (ok := (fun _ => True)) (kr_ HO_3.out) hg hat)).2.2) KL20.out)); have n3_ := A0_ (ho); clear HO_3; clear HB; clear HR299; clear HO295; have HO_3 := n0_; have HB := n1_; have HR299 := n2_; have HO302 := n3_; clear n0_ n1_ n2_ n3_; clear ho hb hg hat; have p303 : 0 ≤ (x4_1 : Int) := od_ (by assumption); have q303 : x4_1 < (l0.length : Int) := od_ (by assumption); obtain ⟨ad303, e303, hx303_0⟩ := Kd.at_string HR0.out x4_1 p303 q303; obtain rfl : ad292 = ad303 := (by injection e303); replace hx303_0 := (HB.out.cell (bl_ w _ hx303_0)).trans hx303_0; replace p303 := eq_true p303; replace q303 := eq_true q303) | ((with_reducible refine gate_builtin (b := .append) (xs := #[.tmp 36, .tmp 41]) rfl ?_); at_builtin; refine Kd.R_append Kd.string (w0 := w) w.heap.size rfl (.tmp 36) (.tmp 41) 24 9 (.string ⟨#[]⟩) 16 rfl Try.underlying24 info9 rfl (by decide) (by omega) v301 y300 (rdOf ByteArray.empty l0 x4_1) [.string (rdOf ByteArray.empty l0 x4_1)] (fun k_ => some k_ ≠ (.slice (some ad291) x3_1.length co3 : Value).ownBlock) (fun _ => False) rfl rfl ?aP (fun _ hk => hk.elim) ?aF ?aO ?aB ?aS ?aL ?_; (case aP => exact rfl); (case aB => exact (kw0_ HB.out)); (case aF => exact (fun k_ hk => Kd.fresh' (Kd.R_lt (kr_ HO_3.out)) k_ hk)); (case aO => exact (kr_ HO302.out)); (case aS => exact (sn1_ (kw0_ HB.out))); (case aL => have := LMc14.out; omega); intro v305 w22 ho hb hg hat; rw [← Ny304.out] at ho; have n0_ := A0_ (Kd.R_after (ok := (fun _ => True)) (kr_ HO_3.out) hg hat); have n1_ := A0_ (hb); have n2_ := A0_ ((show Kd.C Kd.string w22 (some ad291) y296.length y296 from by rw [Ny296.out]; exact Kd.C_take (m := (x5_2 : Int).toNat) ((Kd.R_reads' (Kd.R_after (ok := (fun _ => True)) (kr_ HO_3.out) hg hat)).2.2) KL20.out)); have n3_ := A0_ (ho); clear HO_3; clear HB; clear HR299; clear HO302; have HO_3 := n0_; have HB := n1_; have HR299 := n2_; have HO306 := n3_; clear n0_ n1_ n2_ n3_; clear ho hb hg hat; have q23 : (x5_2 : Int) ≤ ((x3_1.length : Int) : Int) := od_ (by assumption); obtain ⟨i023, hi023, _, hsz23, _⟩ := info_parts info9; have hroom23 : x3_1.length ≤ co3 := (Kd.R_reads' HO_3.out).2.1; have hC23 : Kd.C Kd.string _ (some ad291) x3_1.length x3_1 := (Kd.R_reads' HO_3.out).2.2; have q023 : (0 : Int) ≤ (x5_2 : Int) := od_ (by assumption); have hcut23 := cut_from (P := Try.prog) 24 9 .i64 Try.underlying24 hi023 1 hsz23 (some ad291) x3_1.length co3 x5_2 q023 q23; have hr23 := Kd.C_drop (m := (x5_2 : Int).toNat) (c := co3) hC23 (by omega) hroom23; obtain ⟨A23, hA23⟩ : ∃ A1, A1 = (if co3 = (x5_2 : Int).toNat then (some ad291) else ((some ad291) : Option Addr).map (·.add ((x5_2 : Int).toNat * 1))) := ⟨_, rfl⟩; obtain ⟨c23, hc23⟩ : ∃ c1, c1 = co3 - (x5_2 : Int).toNat := ⟨_, rfl⟩; have hy23 : y307.length = x3_1.length - (x5_2 : Int).toNat := (by rw [Ny307.out, List.length_drop] <;> omega); rw [show (x3_1).drop (x5_2 : Int).toNat = y307 from Ny307.out.symm] at hr23; replace hr23 : Kd.C Kd.string _ A23 y307.length y307 := (by rw [hA23]; exact hr23); rw [← hy23, ← hA23, ← hc23] at hcut23; have HR310 := A0_ hr23; have HC310 := A0_ (show y307.length ≤ c23 from by rw [hy23, hc23]; exact Nat.sub_le_sub_right hroom23 _); clear hr23 hC23 hroom23 hi023 hsz23 hc23; have KY23 := A0_ hy23; have KA23 := A0_ hA23; clear hy23 hA23; have KL23 := A0_ (show (x5_2 : Int).toNat ≤ x3_1.length from by omega); replace q23 := eq_true q23) | ((with_reducible refine gate_builtin (b := .append) (xs := #[.tmp 43, .tmp 46]) rfl ?_); at_builtin; refine Kd.R_append_rows Kd.string (w0 := w) w.heap.size rfl (.tmp 43) (.tmp 46) 24 9 (.string ⟨#[]⟩) 16 rfl Try.underlying24 info9 rfl (by decide) (by omega) v305 y304 y307 _ _ _ (fun k_ => some k_ ≠ (.slice (some ad291) x3_1.length co3 : Value).ownBlock) (fun _ => False) rfl rfl ?aO ?aR (fun _ _ h => h) (fun _ h => h.elim) ?aF ?aB ?aS ?aL ?_; (case aR => repeat (first | exact (by repeat (first | (with_reducible exact HR310.out) | (with_reducible refine sp8_ ?_ _) | (with_reducible refine sp9_ ?_ _) | (with_reducible refine sq1_ ?_) | exact HR310.out)) | (with_reducible refine sp8_ ?_ _) | (with_reducible refine sp9_ ?_ _) | (with_reducible refine sq1_ ?_))); (case aB => exact (kw0_ HB.out)); (case aF => exact (fun k_ hk => Kd.fresh' (Kd.R_lt (kr_ HO_3.out)) k_ hk)); (case aO => exact (kr_ HO306.out)); (case aS => exact (sn1_ (kw0_ HB.out))); (case aL => have := LMc17.out; omega); intro v312 w24 ho hb hg hat; rw [← Ny311.out] at ho; have n0_ := A0_ (Kd.R_after (ok := (fun _ => True)) (kr_ HO_3.out) hg hat); have n1_ := A0_ (hb); have n2_ := A0_ ((show Kd.C Kd.string w24 (some ad291) y296.length y296 from by rw [Ny296.out]; exact Kd.C_take (m := (x5_2 : Int).toNat) ((Kd.R_reads' (Kd.R_after (ok := (fun _ => True)) (kr_ HO_3.out) hg hat)).2.2) KL20.out)); have n3_ := A0_ ((show Kd.C Kd.string w24 A23 y307.length y307 from by rw [Ny307.out, KA23.out]; exact Kd.C_drop (m := (x5_2 : Int).toNat) (c := co3) ((Kd.R_reads' (Kd.R_after (ok := (fun _ => True)) (kr_ HO_3.out) hg hat)).2.2) KL23.out ((Kd.R_reads' (Kd.R_after (ok := (fun _ => True)) (kr_ HO_3.out) hg hat)).2.1))); have n4_ := A0_ (ho); clear HO_3; clear HB; clear HR299; clear HR310; clear HO306; have HO_3 := n0_; have HB := n1_; have HR299 := n2_; have HR310 := n3_; have HO313 := n4_; clear n0_ n1_ n2_ n3_ n4_; clear ho hb hg hat)))); (go_roundg k2)
                             case measure => have := HK1.out; have := HK2.out; omega
                             case rel => exact ⟨(y311), (wrap64 (x4_1 + 1)), (by first | rfl | (simp; done) | (simp [*]; done)), H', ⟨by have := HK1.out; have := HK2.out; omega⟩, ⟨by (with_reducible repeat (first | apply sm2_ | apply sm1_ | apply sm3_)); exact Kd.R_mono HO313.out (fun _ hk => trivial)⟩, ⟨by repeat (first | (with_reducible first | exact HB.out | apply sm4_ | apply sl9_ | apply sm5_) | exact HB.out)⟩⟩
                           · rw [if_neg c17] at H
                             exact absurd H (by simp)
                         · rw [if_neg c14] at H
                           exact absurd H (by simp)
                       · rw [if_neg c13] at H
                         exact absurd H (by simp)
                     · rw [if_neg c12] at H
                       exact absurd H (by simp)
                   · rw [if_neg c11] at H
                     exact absurd H (by simp)
               · rw [if_neg c9] at H
                 exact absurd H (by simp)
             · rw [if_neg c8] at H
               exact absurd H (by simp)
           · rw [if_neg c7] at H
             exact absurd H (by simp)
         · rw [if_neg c6] at H
           exact absurd H (by simp)
       · rw [if_neg c4] at H
         have c4b0 : decide (0 < x5_2) = false := decide_eq_false c4; clear c4; obtain ⟨y314, hy314⟩ : ∃ y_ : List ByteArray, y_ = (([] : List ByteArray)) := ⟨_, rfl⟩; (replace H : (if 0 ≤ x5_2 then (if x5_2 ≤ (x3_1.length : Int) then ((some (x3_1.take (x5_2 : Int).toNat : List ByteArray)).bind fun y317 => (if y314.length + y317.length < 8796093022208 then ((some (y314 ++ y317 : List ByteArray)).bind fun y321 => (if 0 ≤ x4_1 then (if x4_1 < (l0.length : Int) then (if y321.length < 8796093022208 then ((some (y321 ++ [rdOf ByteArray.empty l0 x4_1] : List ByteArray)).bind fun y325 => ((some (x3_1.drop (x5_2 : Int).toNat : List ByteArray)).bind fun y328 => (if y325.length + y328.length < 8796093022208 then (spec_Rising.l0 k2 l0 (y325 ++ y328) (wrap64 (x4_1 + 1))) else (none)))) else (none)) else (none)) else (none))) else (none))) else (none)) else (none)) = some r := by first | (rw [hy314]; with_reducible exact H) | (have H2_ := (obs_).symm.trans H; rw [hy314]; with_reducible exact H2_) | (have H2_ := (obs_).symm.trans H; with_reducible exact H2_) | with_reducible exact H | (rw [hy314]; exact H) | exact H); have Ny314 := A0_ hy314; clear hy314; (by_cases c25 : 0 ≤ x5_2)
         · rw [if_pos c25] at H
           have c25b0 := eq_true c25; have c25b1 : decide (0 ≤ x5_2) = true := decide_eq_true c25; clear c25; (by_cases c26 : x5_2 ≤ (x3_1.length : Int))
           · rw [if_pos c26] at H
             have c26b0 := eq_true c26; have c26b1 : decide (x5_2 ≤ (x3_1.length : Int)) = true := decide_eq_true c26; clear c26; obtain ⟨y317, hy317⟩ : ∃ y_ : List ByteArray, y_ = (x3_1.take (x5_2 : Int).toNat) := ⟨_, rfl⟩; (replace H : (if y314.length + y317.length < 8796093022208 then ((some (y314 ++ y317 : List ByteArray)).bind fun y321 => (if 0 ≤ x4_1 then (if x4_1 < (l0.length : Int) then (if y321.length < 8796093022208 then ((some (y321 ++ [rdOf ByteArray.empty l0 x4_1] : List ByteArray)).bind fun y325 => ((some (x3_1.drop (x5_2 : Int).toNat : List ByteArray)).bind fun y328 => (if y325.length + y328.length < 8796093022208 then (spec_Rising.l0 k2 l0 (y325 ++ y328) (wrap64 (x4_1 + 1))) else (none)))) else (none)) else (none)) else (none))) else (none)) = some r := by first | (rw [hy317]; with_reducible exact H) | (have H2_ := (obs_).symm.trans H; rw [hy317]; with_reducible exact H2_) | (have H2_ := (obs_).symm.trans H; with_reducible exact H2_) | with_reducible exact H | (rw [hy317]; exact H) | exact H); have Ny317 := A0_ hy317; clear hy317; (by_cases c27 : y314.length + y317.length < 8796093022208)
             · rw [if_pos c27] at H
               have LMc27 := A0_ c27; clear c27; obtain ⟨y321, hy321⟩ : ∃ y_ : List ByteArray, y_ = (y314 ++ y317) := ⟨_, rfl⟩; (replace H : (if 0 ≤ x4_1 then (if x4_1 < (l0.length : Int) then (if y321.length < 8796093022208 then ((some (y321 ++ [rdOf ByteArray.empty l0 x4_1] : List ByteArray)).bind fun y325 => ((some (x3_1.drop (x5_2 : Int).toNat : List ByteArray)).bind fun y328 => (if y325.length + y328.length < 8796093022208 then (spec_Rising.l0 k2 l0 (y325 ++ y328) (wrap64 (x4_1 + 1))) else (none)))) else (none)) else (none)) else (none)) = some r := by first | (rw [hy321]; with_reducible exact H) | (have H2_ := (obs_).symm.trans H; rw [hy321]; with_reducible exact H2_) | (have H2_ := (obs_).symm.trans H; with_reducible exact H2_) | with_reducible exact H | (rw [hy321]; exact H) | exact H); have Ny321 := A0_ hy321; clear hy321; (by_cases c28 : 0 ≤ x4_1)
               · rw [if_pos c28] at H
                 have c28b0 : decide (0 ≤ x4_1) = true := decide_eq_true c28; clear c28; (by_cases c29 : x4_1 < (l0.length : Int))
                 · rw [if_pos c29] at H
                   have c29b0 : decide (x4_1 < (l0.length : Int)) = true := decide_eq_true c29; clear c29; (by_cases c30 : y321.length < 8796093022208)
                   · rw [if_pos c30] at H
                     have LMc30 := A0_ c30; clear c30; obtain ⟨y325, hy325⟩ : ∃ y_ : List ByteArray, y_ = (y321 ++ [rdOf ByteArray.empty l0 x4_1]) := ⟨_, rfl⟩; (replace H : ((some (x3_1.drop (x5_2 : Int).toNat : List ByteArray)).bind fun y328 => (if y325.length + y328.length < 8796093022208 then (spec_Rising.l0 k2 l0 (y325 ++ y328) (wrap64 (x4_1 + 1))) else (none))) = some r := by first | (rw [hy325]; with_reducible exact H) | (have H2_ := (obs_).symm.trans H; rw [hy325]; with_reducible exact H2_) | (have H2_ := (obs_).symm.trans H; with_reducible exact H2_) | with_reducible exact H | (rw [hy325]; exact H) | exact H); have Ny325 := A0_ hy325; clear hy325; have c31b0 := eq_true (od_ (by assumption) : 0 ≤ x5_2); have c32b0 := eq_true (od_ (by assumption) : x5_2 ≤ (x3_1.length : Int)); obtain ⟨y328, hy328⟩ : ∃ y_ : List ByteArray, y_ = (x3_1.drop (x5_2 : Int).toNat) := ⟨_, rfl⟩; (replace H : (if y325.length + y328.length < 8796093022208 then (spec_Rising.l0 k2 l0 (y325 ++ y328) (wrap64 (x4_1 + 1))) else (none)) = some r := by first | (rw [hy328]; with_reducible exact H) | (have H2_ := (obs_).symm.trans H; rw [hy328]; with_reducible exact H2_) | (have H2_ := (obs_).symm.trans H; with_reducible exact H2_) | with_reducible exact H | (rw [hy328]; exact H) | exact H); have Ny328 := A0_ hy328; clear hy328; (by_cases c33 : y325.length + y328.length < 8796093022208)
                     · rw [if_pos c33] at H
                       have LMc33 := A0_ c33; clear c33; obtain ⟨y332, hy332⟩ : ∃ y_ : List ByteArray, y_ = (y325 ++ y328) := ⟨_, rfl⟩; (replace H : (spec_Rising.l0 k2 l0 y332 (wrap64 (x4_1 + 1))) = some r := by first | (rw [hy332]; with_reducible exact H) | (have H2_ := (obs_).symm.trans H; rw [hy332]; with_reducible exact H2_) | (have H2_ := (obs_).symm.trans H; with_reducible exact H2_) | with_reducible exact H | (rw [hy332]; exact H) | exact H); have Ny332 := A0_ hy332; clear hy332; have H' := A0_ H; clear H; (go_wp2_with (first | ((with_reducible refine sp1_ (N := 31) rfl ?_); refine Kd.R_lit Kd.string _ 9 ?hg (N := 31) ?hd (xs := ([] : List ByteArray)) (inner := []) (ok := fun _ => True) (okp := fun _ => True) ?hr ?hp (fun _ hk => hk) trivial (Below.refl _ _) (Nat.le_refl _) (by simp) ?_; (case hd => rfl); (case hg => rfl); (case hr => first | (go_simp; done) | (go_simp; rfl)); (case hp => exact (Reps.none _ _)); intro v315 w34 ho35 hb hg_ hnew_; clear hg_ hnew_; (first | rw [← Ny314.out] at ho35 | (simp only [Int.reduceToNat] at ho35; rw [← Ny314.out] at ho35)); have n0_ := A0_ (Kd.R_elder' (kr_ HO_3.out) (Kd.R_base ho35) hb); have n1_ := A0_ (Kd.R_lower (Kd.R_new' ho35 (Kd.R_lt (kr_ HO_3.out))) (sn1_ (kw0_ HB.out))); have n2_ := A0_ (sn2_ (kw0_ HB.out) hb); clear HO_3; clear HB; have HO_3 := n0_; have HO316 := n1_; have HB := n2_; clear n0_ n1_ n2_; clear hb ho35; have q36 : (x5_2 : Int) ≤ ((x3_1.length : Int) : Int) := od_ (by assumption); obtain ⟨i036, hi036, _, hsz36, _⟩ := info_parts info9; have hroom36 : x3_1.length ≤ co3 := (Kd.R_reads' HO_3.out).2.1; have hC36 : Kd.C Kd.string _ Ao3 x3_1.length x3_1 := (Kd.R_reads' HO_3.out).2.2; have hcut36 := cut_to (P := Try.prog) 24 9 .i64 Try.underlying24 hi036 Ao3 x3_1.length co3 x5_2 (od_ (by assumption)) q36 hroom36; have hr36 := Kd.C_take (m := (x5_2 : Int).toNat) hC36 (by omega); have hy36 : y317.length = (x5_2 : Int).toNat := (by rw [Ny317.out, sp2_]; omega); rw [← Ny317.out] at hr36; rw [← hy36] at hcut36; have HR320 := A0_ hr36; have HC320 := A0_ (show y317.length ≤ co3 from by omega); clear hr36 hC36 hroom36 hi036 hsz36; have KY36 := A0_ hy36; clear hy36; have KL36 := A0_ (show (x5_2 : Int).toNat ≤ x3_1.length from by omega); replace q36 := eq_true q36) | ((with_reducible refine gate_builtin (b := .append) (xs := #[.tmp 31, .tmp 34]) rfl ?_); at_builtin; refine Kd.R_append_rows Kd.string (w0 := w) w.heap.size rfl (.tmp 31) (.tmp 34) 24 9 (.string ⟨#[]⟩) 16 rfl Try.underlying24 info9 rfl (by decide) (by omega) v315 y314 y317 _ _ _ (fun k_ => some k_ ≠ (.slice Ao3 x3_1.length co3 : Value).ownBlock) (fun _ => False) rfl rfl ?aO ?aR (fun _ _ h => h) (fun _ h => h.elim) ?aF ?aB ?aS ?aL ?_; (case aR => repeat (first | exact (by repeat (first | (with_reducible exact HR320.out) | (with_reducible refine sp8_ ?_ _) | (with_reducible refine sp9_ ?_ _) | (with_reducible refine sq1_ ?_) | exact HR320.out)) | (with_reducible refine sp8_ ?_ _) | (with_reducible refine sp9_ ?_ _) | (with_reducible refine sq1_ ?_))); (case aB => exact (kw0_ HB.out)); (case aF => exact (fun k_ hk => Kd.fresh' (Kd.R_lt (kr_ HO_3.out)) k_ hk)); (case aO => exact (by (with_reducible repeat (first | apply sm2_ | apply sm1_ | apply sm3_)); exact Kd.R_mono HO316.out (fun _ hk => hk.2))); (case aS => exact (sn1_ (kw0_ HB.out))); (case aL => have := LMc27.out; omega); intro v322 w37 ho hb hg hat; rw [← Ny321.out] at ho; have n0_ := A0_ (Kd.R_after (ok := (fun _ => True)) (kr_ HO_3.out) hg hat); have n1_ := A0_ (hb); have n2_ := A0_ ((show Kd.C Kd.string w37 Ao3 y317.length y317 from by rw [Ny317.out]; exact Kd.C_take (m := (x5_2 : Int).toNat) ((Kd.R_reads' (Kd.R_after (ok := (fun _ => True)) (kr_ HO_3.out) hg hat)).2.2) KL36.out)); have n3_ := A0_ (ho); clear HO_3; clear HB; clear HR320; clear HO316; have HO_3 := n0_; have HB := n1_; have HR320 := n2_; have HO323 := n3_; clear n0_ n1_ n2_ n3_; clear ho hb hg hat; have p324 : 0 ≤ (x4_1 : Int) := od_ (by assumption); have q324 : x4_1 < (l0.length : Int) := od_ (by assumption); obtain ⟨ad324, e324, hx324_0⟩ := Kd.at_string HR0.out x4_1 p324 q324; cases e324; replace hx324_0 := (HB.out.cell (bl_ w _ hx324_0)).trans hx324_0; replace p324 := eq_true p324; replace q324 := eq_true q324) | ((with_reducible refine gate_builtin (b := .append) (xs := #[.tmp 36, .tmp 41]) rfl ?_); at_builtin; refine Kd.R_append Kd.string (w0 := w) w.heap.size rfl (.tmp 36) (.tmp 41) 24 9 (.string ⟨#[]⟩) 16 rfl Try.underlying24 info9 rfl (by decide) (by omega) v322 y321 (rdOf ByteArray.empty l0 x4_1) [.string (rdOf ByteArray.empty l0 x4_1)] (fun k_ => some k_ ≠ (.slice Ao3 x3_1.length co3 : Value).ownBlock) (fun _ => False) rfl rfl ?aP (fun _ hk => hk.elim) ?aF ?aO ?aB ?aS ?aL ?_; (case aP => exact rfl); (case aB => exact (kw0_ HB.out)); (case aF => exact (fun k_ hk => Kd.fresh' (Kd.R_lt (kr_ HO_3.out)) k_ hk)); (case aO => exact (kr_ HO323.out)); (case aS => exact (sn1_ (kw0_ HB.out))); (case aL => have := LMc30.out; omega); intro v326 w38 ho hb hg hat; rw [← Ny325.out] at ho; have n0_ := A0_ (Kd.R_after (ok := (fun _ => True)) (kr_ HO_3.out) hg hat); have n1_ := A0_ (hb); have n2_ := A0_ ((show Kd.C Kd.string w38 Ao3 y317.length y317 from by rw [Ny317.out]; exact Kd.C_take (m := (x5_2 : Int).toNat) ((Kd.R_reads' (Kd.R_after (ok := (fun _ => True)) (kr_ HO_3.out) hg hat)).2.2) KL36.out)); have n3_ := A0_ (ho); clear HO_3; clear HB; clear HR320; clear HO323; have HO_3 := n0_; have HB := n1_; have HR320 := n2_; have HO327 := n3_; clear n0_ n1_ n2_ n3_; clear ho hb hg hat; have q39 : (x5_2 : Int) ≤ ((x3_1.length : Int) : Int) := od_ (by assumption); obtain ⟨i039, hi039, _, hsz39, _⟩ := info_parts info9; have hroom39 : x3_1.length ≤ co3 := (Kd.R_reads' HO_3.out).2.1; have hC39 : Kd.C Kd.string _ Ao3 x3_1.length x3_1 := (Kd.R_reads' HO_3.out).2.2; have q039 : (0 : Int) ≤ (x5_2 : Int) := od_ (by assumption); have hcut39 := cut_from (P := Try.prog) 24 9 .i64 Try.underlying24 hi039 1 hsz39 Ao3 x3_1.length co3 x5_2 q039 q39; have hr39 := Kd.C_drop (m := (x5_2 : Int).toNat) (c := co3) hC39 (by omega) hroom39; obtain ⟨A39, hA39⟩ : ∃ A1, A1 = (if co3 = (x5_2 : Int).toNat then Ao3 else (Ao3 : Option Addr).map (·.add ((x5_2 : Int).toNat * 1))) := ⟨_, rfl⟩; obtain ⟨c39, hc39⟩ : ∃ c1, c1 = co3 - (x5_2 : Int).toNat := ⟨_, rfl⟩; have hy39 : y328.length = x3_1.length - (x5_2 : Int).toNat := (by rw [Ny328.out, List.length_drop] <;> omega); rw [show (x3_1).drop (x5_2 : Int).toNat = y328 from Ny328.out.symm] at hr39; replace hr39 : Kd.C Kd.string _ A39 y328.length y328 := (by rw [hA39]; exact hr39); rw [← hy39, ← hA39, ← hc39] at hcut39; have HR331 := A0_ hr39; have HC331 := A0_ (show y328.length ≤ c39 from by rw [hy39, hc39]; exact Nat.sub_le_sub_right hroom39 _); clear hr39 hC39 hroom39 hi039 hsz39 hc39; have KY39 := A0_ hy39; have KA39 := A0_ hA39; clear hy39 hA39; have KL39 := A0_ (show (x5_2 : Int).toNat ≤ x3_1.length from by omega); replace q39 := eq_true q39) | ((with_reducible refine gate_builtin (b := .append) (xs := #[.tmp 43, .tmp 46]) rfl ?_); at_builtin; refine Kd.R_append_rows Kd.string (w0 := w) w.heap.size rfl (.tmp 43) (.tmp 46) 24 9 (.string ⟨#[]⟩) 16 rfl Try.underlying24 info9 rfl (by decide) (by omega) v326 y325 y328 _ _ _ (fun k_ => some k_ ≠ (.slice Ao3 x3_1.length co3 : Value).ownBlock) (fun _ => False) rfl rfl ?aO ?aR (fun _ _ h => h) (fun _ h => h.elim) ?aF ?aB ?aS ?aL ?_; (case aR => repeat (first | exact (by repeat (first | (with_reducible exact HR331.out) | (with_reducible refine sp8_ ?_ _) | (with_reducible refine sp9_ ?_ _) | (with_reducible refine sq1_ ?_) | exact HR331.out)) | (with_reducible refine sp8_ ?_ _) | (with_reducible refine sp9_ ?_ _) | (with_reducible refine sq1_ ?_))); (case aB => exact (kw0_ HB.out)); (case aF => exact (fun k_ hk => Kd.fresh' (Kd.R_lt (kr_ HO_3.out)) k_ hk)); (case aO => exact (kr_ HO327.out)); (case aS => exact (sn1_ (kw0_ HB.out))); (case aL => have := LMc33.out; omega); intro v333 w40 ho hb hg hat; rw [← Ny332.out] at ho; have n0_ := A0_ (Kd.R_after (ok := (fun _ => True)) (kr_ HO_3.out) hg hat); have n1_ := A0_ (hb); have n2_ := A0_ ((show Kd.C Kd.string w40 Ao3 y317.length y317 from by rw [Ny317.out]; exact Kd.C_take (m := (x5_2 : Int).toNat) ((Kd.R_reads' (Kd.R_after (ok := (fun _ => True)) (kr_ HO_3.out) hg hat)).2.2) KL36.out)); have n3_ := A0_ ((show Kd.C Kd.string w40 A39 y328.length y328 from by rw [Ny328.out, KA39.out]; exact Kd.C_drop (m := (x5_2 : Int).toNat) (c := co3) ((Kd.R_reads' (Kd.R_after (ok := (fun _ => True)) (kr_ HO_3.out) hg hat)).2.2) KL39.out ((Kd.R_reads' (Kd.R_after (ok := (fun _ => True)) (kr_ HO_3.out) hg hat)).2.1))); have n4_ := A0_ (ho); clear HO_3; clear HB; clear HR320; clear HR331; clear HO327; have HO_3 := n0_; have HB := n1_; have HR320 := n2_; have HR331 := n3_; have HO334 := n4_; clear n0_ n1_ n2_ n3_ n4_; clear ho hb hg hat))); (repeat (go_quiet (first | ((with_reducible refine sp1_ (N := 31) rfl ?_); refine Kd.R_lit Kd.string _ 9 ?hg (N := 31) ?hd (xs := ([] : List ByteArray)) (inner := []) (ok := fun _ => True) (okp := fun _ => True) ?hr ?hp (fun _ hk => hk) trivial (Below.refl _ _) (Nat.le_refl _) (by simp) ?_; (case hd => rfl); (case hg => rfl); (case hr => first | (go_simp; done) | (go_simp; rfl)); (case hp => exact (Reps.none _ _)); intro v315 w34 ho35 hb hg_ hnew_; clear hg_ hnew_; (first | rw [← Ny314.out] at ho35 | (simp only [Int.reduceToNat] at ho35; rw [← Ny314.out] at ho35)); have n0_ := A0_ (Kd.R_elder' (kr_ HO_3.out) (Kd.R_base ho35) hb); have n1_ := A0_ (Kd.R_lower (Kd.R_new' ho35 (Kd.R_lt (kr_ HO_3.out))) (sn1_ (kw0_ HB.out))); have n2_ := A0_ (sn2_ (kw0_ HB.out) hb); clear HO_3; clear HB; have HO_3 := n0_; have HO316 := n1_; have HB := n2_; clear n0_ n1_ n2_; clear hb ho35; have q36 : (x5_2 : Int) ≤ ((x3_1.length : Int) : Int) := od_ (by assumption); obtain ⟨i036, hi036, _, hsz36, _⟩ := info_parts info9; have hroom36 : x3_1.length ≤ co3 := (Kd.R_reads' HO_3.out).2.1; have hC36 : Kd.C Kd.string _ Ao3 x3_1.length x3_1 := (Kd.R_reads' HO_3.out).2.2; have hcut36 := cut_to (P := Try.prog) 24 9 .i64 Try.underlying24 hi036 Ao3 x3_1.length co3 x5_2 (od_ (by assumption)) q36 hroom36; have hr36 := Kd.C_take (m := (x5_2 : Int).toNat) hC36 (by omega); have hy36 : y317.length = (x5_2 : Int).toNat := (by rw [Ny317.out, sp2_]; omega); rw [← Ny317.out] at hr36; rw [← hy36] at hcut36; have HR320 := A0_ hr36; have HC320 := A0_ (show y317.length ≤ co3 from by omega); clear hr36 hC36 hroom36 hi036 hsz36; have KY36 := A0_ hy36; clear hy36; have KL36 := A0_ (show (x5_2 : Int).toNat ≤ x3_1.length from by omega); replace q36 := eq_true q36) | ((with_reducible refine gate_builtin (b := .append) (xs := #[.tmp 31, .tmp 34]) rfl ?_); at_builtin; refine Kd.R_append_rows Kd.string (w0 := w) w.heap.size rfl (.tmp 31) (.tmp 34) 24 9 (.string ⟨#[]⟩) 16 rfl Try.underlying24 info9 rfl (by decide) (by omega) v315 y314 y317 _ _ _ (fun k_ => some k_ ≠ (.slice Ao3 x3_1.length co3 : Value).ownBlock) (fun _ => False) rfl rfl ?aO ?aR (fun _ _ h => h) (fun _ h => h.elim) ?aF ?aB ?aS ?aL ?_; (case aR => repeat (first | exact (by repeat (first | (with_reducible exact HR320.out) | (with_reducible refine sp8_ ?_ _) | (with_reducible refine sp9_ ?_ _) | (with_reducible refine sq1_ ?_) | exact HR320.out)) | (with_reducible refine sp8_ ?_ _) | (with_reducible refine sp9_ ?_ _) | (with_reducible refine sq1_ ?_))); (case aB => exact (kw0_ HB.out)); (case aF => exact (fun k_ hk => Kd.fresh' (Kd.R_lt (kr_ HO_3.out)) k_ hk)); (case aO => exact (by (with_reducible repeat (first | apply sm2_ | apply sm1_ | apply sm3_)); exact Kd.R_mono HO316.out (fun _ hk => hk.2))); (case aS => exact (sn1_ (kw0_ HB.out))); (case aL => have := LMc27.out; omega); intro v322 w37 ho hb hg hat; rw [← Ny321.out] at ho; have n0_ := A0_ (Kd.R_after (ok := (fun _ => True)) (kr_ HO_3.out) hg hat); have n1_ := A0_ (hb); have n2_ := A0_ ((show Kd.C Kd.string w37 Ao3 y317.length y317 from by rw [Ny317.out]; exact Kd.C_take (m := (x5_2 : Int).toNat) ((Kd.R_reads' (Kd.R_after (ok := (fun _ => True)) (kr_ HO_3.out) hg hat)).2.2) KL36.out)); have n3_ := A0_ (ho); clear HO_3; clear HB; clear HR320; clear HO316; have HO_3 := n0_; have HB := n1_; have HR320 := n2_; have HO323 := n3_; clear n0_ n1_ n2_ n3_; clear ho hb hg hat; have p324 : 0 ≤ (x4_1 : Int) := od_ (by assumption); have q324 : x4_1 < (l0.length : Int) := od_ (by assumption); obtain ⟨ad324, e324, hx324_0⟩ := Kd.at_string HR0.out x4_1 p324 q324; cases e324; replace hx324_0 := (HB.out.cell (bl_ w _ hx324_0)).trans hx324_0; replace p324 := eq_true p324; replace q324 := eq_true q324) | ((with_reducible refine gate_builtin (b := .append) (xs := #[.tmp 36, .tmp 41]) rfl ?_); at_builtin; refine Kd.R_append Kd.string (w0 := w) w.heap.size rfl (.tmp 36) (.tmp 41) 24 9 (.string ⟨#[]⟩) 16 rfl Try.underlying24 info9 rfl (by decide) (by omega) v322 y321 (rdOf ByteArray.empty l0 x4_1) [.string (rdOf ByteArray.empty l0 x4_1)] (fun k_ => some k_ ≠ (.slice Ao3 x3_1.length co3 : Value).ownBlock) (fun _ => False) rfl rfl ?aP (fun _ hk => hk.elim) ?aF ?aO ?aB ?aS ?aL ?_; (case aP => exact rfl); (case aB => exact (kw0_ HB.out)); (case aF => exact (fun k_ hk => Kd.fresh' (Kd.R_lt (kr_ HO_3.out)) k_ hk)); (case aO => exact (kr_ HO323.out)); (case aS => exact (sn1_ (kw0_ HB.out))); (case aL => have := LMc30.out; omega); intro v326 w38 ho hb hg hat; rw [← Ny325.out] at ho; have n0_ := A0_ (Kd.R_after (ok := (fun _ => True)) (kr_ HO_3.out) hg hat); have n1_ := A0_ (hb); have n2_ := A0_ ((show Kd.C Kd.string w38 Ao3 y317.length y317 from by rw [Ny317.out]; exact Kd.C_take (m := (x5_2 : Int).toNat) ((Kd.R_reads' (Kd.R_after (ok := (fun _ => True)) (kr_ HO_3.out) hg hat)).2.2) KL36.out)); have n3_ := A0_ (ho); clear HO_3; clear HB; clear HR320; clear HO323; have HO_3 := n0_; have HB := n1_; have HR320 := n2_; have HO327 := n3_; clear n0_ n1_ n2_ n3_; clear ho hb hg hat; have q39 : (x5_2 : Int) ≤ ((x3_1.length : Int) : Int) := od_ (by assumption); obtain ⟨i039, hi039, _, hsz39, _⟩ := info_parts info9; have hroom39 : x3_1.length ≤ co3 := (Kd.R_reads' HO_3.out).2.1; have hC39 : Kd.C Kd.string _ Ao3 x3_1.length x3_1 := (Kd.R_reads' HO_3.out).2.2; have q039 : (0 : Int) ≤ (x5_2 : Int) := od_ (by assumption); have hcut39 := cut_from (P := Try.prog) 24 9 .i64 Try.underlying24 hi039 1 hsz39 Ao3 x3_1.length co3 x5_2 q039 q39; have hr39 := Kd.C_drop (m := (x5_2 : Int).toNat) (c := co3) hC39 (by omega) hroom39; obtain ⟨A39, hA39⟩ : ∃ A1, A1 = (if co3 = (x5_2 : Int).toNat then Ao3 else (Ao3 : Option Addr).map (·.add ((x5_2 : Int).toNat * 1))) := ⟨_, rfl⟩; obtain ⟨c39, hc39⟩ : ∃ c1, c1 = co3 - (x5_2 : Int).toNat := ⟨_, rfl⟩; have hy39 : y328.length = x3_1.length - (x5_2 : Int).toNat := (by rw [Ny328.out, List.length_drop] <;> omega); rw [show (x3_1).drop (x5_2 : Int).toNat = y328 from Ny328.out.symm] at hr39; replace hr39 : Kd.C Kd.string _ A39 y328.length y328 := (by rw [hA39]; exact hr39); rw [← hy39, ← hA39, ← hc39] at hcut39; have HR331 := A0_ hr39; have HC331 := A0_ (show y328.length ≤ c39 from by rw [hy39, hc39]; exact Nat.sub_le_sub_right hroom39 _); clear hr39 hC39 hroom39 hi039 hsz39 hc39; have KY39 := A0_ hy39; have KA39 := A0_ hA39; clear hy39 hA39; have KL39 := A0_ (show (x5_2 : Int).toNat ≤ x3_1.length from by omega); replace q39 := eq_true q39) | ((with_reducible refine gate_builtin (b := .append) (xs := #[.tmp 43, .tmp 46]) rfl ?_); at_builtin; refine Kd.R_append_rows Kd.string (w0 := w) w.heap.size rfl (.tmp 43) (.tmp 46) 24 9 (.string ⟨#[]⟩) 16 rfl Try.underlying24 info9 rfl (by decide) (by omega) v326 y325 y328 _ _ _ (fun k_ => some k_ ≠ (.slice Ao3 x3_1.length co3 : Value).ownBlock) (fun _ => False) rfl rfl ?aO ?aR (fun _ _ h => h) (fun _ h => h.elim) ?aF ?aB ?aS ?aL ?_; (case aR => repeat (first | exact (by repeat (first | (with_reducible exact HR331.out) | (with_reducible refine sp8_ ?_ _) | (with_reducible refine sp9_ ?_ _) | (with_reducible refine sq1_ ?_) | exact HR331.out)) | (with_reducible refine sp8_ ?_ _) | (with_reducible refine sp9_ ?_ _) | (with_reducible refine sq1_ ?_))); (case aB => exact (kw0_ HB.out)); (case aF => exact (fun k_ hk => Kd.fresh' (Kd.R_lt (kr_ HO_3.out)) k_ hk)); (case aO => exact (kr_ HO327.out)); (case aS => exact (sn1_ (kw0_ HB.out))); (case aL => have := LMc33.out; omega); intro v333 w40 ho hb hg hat; rw [← Ny332.out] at ho; have n0_ := A0_ (Kd.R_after (ok := (fun _ => True)) (kr_ HO_3.out) hg hat); have n1_ := A0_ (hb); have n2_ := A0_ ((show Kd.C Kd.string w40 Ao3 y317.length y317 from by rw [Ny317.out]; exact Kd.C_take (m := (x5_2 : Int).toNat) ((Kd.R_reads' (Kd.R_after (ok := (fun _ => True)) (kr_ HO_3.out) hg hat)).2.2) KL36.out)); have n3_ := A0_ ((show Kd.C Kd.string w40 A39 y328.length y328 from by rw [Ny328.out, KA39.out]; exact Kd.C_drop (m := (x5_2 : Int).toNat) (c := co3) ((Kd.R_reads' (Kd.R_after (ok := (fun _ => True)) (kr_ HO_3.out) hg hat)).2.2) KL39.out ((Kd.R_reads' (Kd.R_after (ok := (fun _ => True)) (kr_ HO_3.out) hg hat)).2.1))); have n4_ := A0_ (ho); clear HO_3; clear HB; clear HR320; clear HR331; clear HO327; have HO_3 := n0_; have HB := n1_; have HR320 := n2_; have HR331 := n3_; have HO334 := n4_; clear n0_ n1_ n2_ n3_ n4_; clear ho hb hg hat)); try go_wp2_with (first | ((with_reducible refine sp1_ (N := 31) rfl ?_); refine Kd.R_lit Kd.string _ 9 ?hg (N := 31) ?hd (xs := ([] : List ByteArray)) (inner := []) (ok := fun _ => True) (okp := fun _ => True) ?hr ?hp (fun _ hk => hk) trivial (Below.refl _ _) (Nat.le_refl _) (by simp) ?_; (case hd => rfl); (case hg => rfl); (case hr => first | (go_simp; done) | (go_simp; rfl)); (case hp => exact (Reps.none _ _)); intro v315 w34 ho35 hb hg_ hnew_; clear hg_ hnew_; (first | rw [← Ny314.out] at ho35 | (simp only [Int.reduceToNat] at ho35; rw [← Ny314.out] at ho35)); have n0_ := A0_ (Kd.R_elder' (kr_ HO_3.out) (Kd.R_base ho35) hb); have n1_ := A0_ (Kd.R_lower (Kd.R_new' ho35 (Kd.R_lt (kr_ HO_3.out))) (sn1_ (kw0_ HB.out))); have n2_ := A0_ (sn2_ (kw0_ HB.out) hb); clear HO_3; clear HB; have HO_3 := n0_; have HO316 := n1_; have HB := n2_; clear n0_ n1_ n2_; clear hb ho35; have q36 : (x5_2 : Int) ≤ ((x3_1.length : Int) : Int) := od_ (by assumption); obtain ⟨i036, hi036, _, hsz36, _⟩ := info_parts info9; have hroom36 : x3_1.length ≤ co3 := (Kd.R_reads' HO_3.out).2.1; have hC36 : Kd.C Kd.string _ Ao3 x3_1.length x3_1 := (Kd.R_reads' HO_3.out).2.2; have hcut36 := cut_to (P := Try.prog) 24 9 .i64 Try.underlying24 hi036 Ao3 x3_1.length co3 x5_2 (od_ (by assumption)) q36 hroom36; have hr36 := Kd.C_take (m := (x5_2 : Int).toNat) hC36 (by omega); have hy36 : y317.length = (x5_2 : Int).toNat := (by rw [Ny317.out, sp2_]; omega); rw [← Ny317.out] at hr36; rw [← hy36] at hcut36; have HR320 := A0_ hr36; have HC320 := A0_ (show y317.length ≤ co3 from by omega); clear hr36 hC36 hroom36 hi036 hsz36; have KY36 := A0_ hy36; clear hy36; have KL36 := A0_ (show (x5_2 : Int).toNat ≤ x3_1.length from by omega); replace q36 := eq_true q36) | ((with_reducible refine gate_builtin (b := .append) (xs := #[.tmp 31, .tmp 34]) rfl ?_); at_builtin; refine Kd.R_append_rows Kd.string (w0 := w) w.heap.size rfl (.tmp 31) (.tmp 34) 24 9 (.string ⟨#[]⟩) 16 rfl Try.underlying24 info9 rfl (by decide) (by omega) v315 y314 y317 _ _ _ (fun k_ => some k_ ≠ (.slice Ao3 x3_1.length co3 : Value).ownBlock) (fun _ => False) rfl rfl ?aO ?aR (fun _ _ h => h) (fun _ h => h.elim) ?aF ?aB ?aS ?aL ?_; (case aR => repeat (first | exact (by repeat (first | (with_reducible exact HR320.out) | (with_reducible refine sp8_ ?_ _) | (with_reducible refine sp9_ ?_ _) | (with_reducible refine sq1_ ?_) | exact HR320.out)) | (with_reducible refine sp8_ ?_ _) | (with_reducible refine sp9_ ?_ _) | (with_reducible refine sq1_ ?_))); (case aB => exact (kw0_ HB.out)); (case aF => exact (fun k_ hk => Kd.fresh' (Kd.R_lt (kr_ HO_3.out)) k_ hk)); (case aO => exact (by (with_reducible repeat (first | apply sm2_ | apply sm1_ | apply sm3_)); exact Kd.R_mono HO316.out (fun _ hk => hk.2))); (case aS => exact (sn1_ (kw0_ HB.out))); (case aL => have := LMc27.out; omega); intro v322 w37 ho hb hg hat; rw [← Ny321.out] at ho; have n0_ := A0_ (Kd.R_after (ok := (fun _ => True)) (kr_ HO_3.out) hg hat); have n1_ := A0_ (hb); have n2_ := A0_ ((show Kd.C Kd.string w37 Ao3 y317.length y317 from by rw [Ny317.out]; exact Kd.C_take (m := (x5_2 : Int).toNat) ((Kd.R_reads' (Kd.R_after (ok := (fun _ => True)) (kr_ HO_3.out) hg hat)).2.2) KL36.out)); have n3_ := A0_ (ho); clear HO_3; clear HB; clear HR320; clear HO316; have HO_3 := n0_; have HB := n1_; have HR320 := n2_; have HO323 := n3_; clear n0_ n1_ n2_ n3_; clear ho hb hg hat; have p324 : 0 ≤ (x4_1 : Int) := od_ (by assumption); have q324 : x4_1 < (l0.length : Int) := od_ (by assumption); obtain ⟨ad324, e324, hx324_0⟩ := Kd.at_string HR0.out x4_1 p324 q324; cases e324; replace hx324_0 := (HB.out.cell (bl_ w _ hx324_0)).trans hx324_0; replace p324 := eq_true p324; replace q324 := eq_true q324) | ((with_reducible refine gate_builtin (b := .append) (xs := #[.tmp 36, .tmp 41]) rfl ?_); at_builtin; refine Kd.R_append Kd.string (w0 := w) w.heap.size rfl (.tmp 36) (.tmp 41) 24 9 (.string ⟨#[]⟩) 16 rfl Try.underlying24 info9 rfl (by decide) (by omega) v322 y321 (rdOf ByteArray.empty l0 x4_1) [.string (rdOf ByteArray.empty l0 x4_1)] (fun k_ => some k_ ≠ (.slice Ao3 x3_1.length co3 : Value).ownBlock) (fun _ => False) rfl rfl ?aP (fun _ hk => hk.elim) ?aF ?aO ?aB ?aS ?aL ?_; (case aP => exact rfl); (case aB => exact (kw0_ HB.out)); (case aF => exact (fun k_ hk => Kd.fresh' (Kd.R_lt (kr_ HO_3.out)) k_ hk)); (case aO => exact (kr_ HO323.out)); (case aS => exact (sn1_ (kw0_ HB.out))); (case aL => have := LMc30.out; omega); intro v326 w38 ho hb hg hat; rw [← Ny325.out] at ho; have n0_ := A0_ (Kd.R_after (ok := (fun _ => True)) (kr_ HO_3.out) hg hat); have n1_ := A0_ (hb); have n2_ := A0_ ((show Kd.C Kd.string w38 Ao3 y317.length y317 from by rw [Ny317.out]; exact Kd.C_take (m := (x5_2 : Int).toNat) ((Kd.R_reads' (Kd.R_after (ok := (fun _ => True)) (kr_ HO_3.out) hg hat)).2.2) KL36.out)); have n3_ := A0_ (ho); clear HO_3; clear HB; clear HR320; clear HO323; have HO_3 := n0_; have HB := n1_; have HR320 := n2_; have HO327 := n3_; clear n0_ n1_ n2_ n3_; clear ho hb hg hat; have q39 : (x5_2 : Int) ≤ ((x3_1.length : Int) : Int) := od_ (by assumption); obtain ⟨i039, hi039, _, hsz39, _⟩ := info_parts info9; have hroom39 : x3_1.length ≤ co3 := (Kd.R_reads' HO_3.out).2.1; have hC39 : Kd.C Kd.string _ Ao3 x3_1.length x3_1 := (Kd.R_reads' HO_3.out).2.2; have q039 : (0 : Int) ≤ (x5_2 : Int) := od_ (by assumption); have hcut39 := cut_from (P := Try.prog) 24 9 .i64 Try.underlying24 hi039 1 hsz39 Ao3 x3_1.length co3 x5_2 q039 q39; have hr39 := Kd.C_drop (m := (x5_2 : Int).toNat) (c := co3) hC39 (by omega) hroom39; obtain ⟨A39, hA39⟩ : ∃ A1, A1 = (if co3 = (x5_2 : Int).toNat then Ao3 else (Ao3 : Option Addr).map (·.add ((x5_2 : Int).toNat * 1))) := ⟨_, rfl⟩; obtain ⟨c39, hc39⟩ : ∃ c1, c1 = co3 - (x5_2 : Int).toNat := ⟨_, rfl⟩; have hy39 : y328.length = x3_1.length - (x5_2 : Int).toNat := (by rw [Ny328.out, List.length_drop] <;> omega); rw [show (x3_1).drop (x5_2 : Int).toNat = y328 from Ny328.out.symm] at hr39; replace hr39 : Kd.C Kd.string _ A39 y328.length y328 := (by rw [hA39]; exact hr39); rw [← hy39, ← hA39, ← hc39] at hcut39; have HR331 := A0_ hr39; have HC331 := A0_ (show y328.length ≤ c39 from by rw [hy39, hc39]; exact Nat.sub_le_sub_right hroom39 _); clear hr39 hC39 hroom39 hi039 hsz39 hc39; have KY39 := A0_ hy39; have KA39 := A0_ hA39; clear hy39 hA39; have KL39 := A0_ (show (x5_2 : Int).toNat ≤ x3_1.length from by omega); replace q39 := eq_true q39) | ((with_reducible refine gate_builtin (b := .append) (xs := #[.tmp 43, .tmp 46]) rfl ?_); at_builtin; refine Kd.R_append_rows Kd.string (w0 := w) w.heap.size rfl (.tmp 43) (.tmp 46) 24 9 (.string ⟨#[]⟩) 16 rfl Try.underlying24 info9 rfl (by decide) (by omega) v326 y325 y328 _ _ _ (fun k_ => some k_ ≠ (.slice Ao3 x3_1.length co3 : Value).ownBlock) (fun _ => False) rfl rfl ?aO ?aR (fun _ _ h => h) (fun _ h => h.elim) ?aF ?aB ?aS ?aL ?_; (case aR => repeat (first | exact (by repeat (first | (with_reducible exact HR331.out) | (with_reducible refine sp8_ ?_ _) | (with_reducible refine sp9_ ?_ _) | (with_reducible refine sq1_ ?_) | exact HR331.out)) | (with_reducible refine sp8_ ?_ _) | (with_reducible refine sp9_ ?_ _) | (with_reducible refine sq1_ ?_))); (case aB => exact (kw0_ HB.out)); (case aF => exact (fun k_ hk => Kd.fresh' (Kd.R_lt (kr_ HO_3.out)) k_ hk)); (case aO => exact (kr_ HO327.out)); (case aS => exact (sn1_ (kw0_ HB.out))); (case aL => have := LMc33.out; omega); intro v333 w40 ho hb hg hat; rw [← Ny332.out] at ho; have n0_ := A0_ (Kd.R_after (ok := (fun _ => True)) (kr_ HO_3.out) hg hat); have n1_ := A0_ (hb); have n2_ := A0_ ((show Kd.C Kd.string w40 Ao3 y317.length y317 from by rw [Ny317.out]; exact Kd.C_take (m := (x5_2 : Int).toNat) ((Kd.R_reads' (Kd.R_after (ok := (fun _ => True)) (kr_ HO_3.out) hg hat)).2.2) KL36.out)); have n3_ := A0_ ((show Kd.C Kd.string w40 A39 y328.length y328 from by rw [Ny328.out, KA39.out]; exact Kd.C_drop (m := (x5_2 : Int).toNat) (c := co3) ((Kd.R_reads' (Kd.R_after (ok := (fun _ => True)) (kr_ HO_3.out) hg hat)).2.2) KL39.out ((Kd.R_reads' (Kd.R_after (ok := (fun _ => True)) (kr_ HO_3.out) hg hat)).2.1))); have n4_ := A0_ (ho); clear HO_3; clear HB; clear HR320; clear HR331; clear HO327; have HO_3 := n0_; have HB := n1_; have HR320 := n2_; have HR331 := n3_; have HO334 := n4_; clear n0_ n1_ n2_ n3_ n4_; clear ho hb hg hat)))); (go_roundg k2)
                       case measure => have := HK1.out; have := HK2.out; omega
                       case rel => exact ⟨(y332), (wrap64 (x4_1 + 1)), (by first | rfl | (simp; done) | (simp [*]; done)), H', ⟨by have := HK1.out; have := HK2.out; omega⟩, ⟨by (with_reducible repeat (first | apply sm2_ | apply sm1_ | apply sm3_)); exact Kd.R_mono HO334.out (fun _ hk => trivial)⟩, ⟨by repeat (first | (with_reducible first | exact HB.out | apply sm4_ | apply sl9_ | apply sm5_) | exact HB.out)⟩⟩
                     · rw [if_neg c33] at H
                       exact absurd H (by simp)
                   · rw [if_neg c30] at H
                     exact absurd H (by simp)
                 · rw [if_neg c29] at H
                   exact absurd H (by simp)
               · rw [if_neg c28] at H
                 exact absurd H (by simp)
             · rw [if_neg c27] at H
               exact absurd H (by simp)
           · rw [if_neg c26] at H
             exact absurd H (by simp)
         · rw [if_neg c25] at H
           exact absurd H (by simp)
   · rw [if_neg c2] at H
     have c2b0 : decide (x4_1 < (l0.length : Int)) = false := decide_eq_false c2; clear c2; obtain rfl := Option.some.inj H; (go_wp2); (repeat (go_quiet (fail); try go_wp2)); (go_ret); (exact ⟨_, by first | rfl | (simp [errW_none, errW_some] <;> rfl) | (simp [*, errW_none, errW_some] <;> rfl), by (with_reducible repeat (first | apply sm2_ | apply sm1_ | apply sm3_)); exact HO_3.out, by repeat (first | (with_reducible first | exact HB.out | apply sm4_ | apply sl9_ | apply sm5_) | exact HB.out)⟩)
def spec_SameWords.l0 : Nat → List ByteArray → List ByteArray → Int → Option (Bool)
 | 0, _, _, _ => none
 | k + 1, x5, x6, x7 => if x7 < (x5.length : Int) then (if 0 ≤ x7 then (if x7 < (x6.length : Int) then (if (rdOf ByteArray.empty x5 x7).toList = (rdOf ByteArray.empty x6 x7).toList then (spec_SameWords.l0 k x5 x6 (wrap64 (x7 + 1))) else (some false)) else (none)) else (none)) else (some true)
def spec_SameWords.f (k : Nat) (l0 : List ByteArray) (l1 : List ByteArray) : Option (Bool) := (spec_Rising.f k l0).bind fun t335 => ((spec_Rising.f k l1).bind fun t338 => (if (t335.length : Int) = (t338.length : Int) then (spec_SameWords.l0 k t335 t338 0) else (some false)))
set_option maxHeartbeats 8000000 in
set_option maxRecDepth 100000 in
theorem spec_SameWords.calls (k : Nat) (A0 : Option Addr) (c0 : Nat) (l0 : List ByteArray) (A1 : Option Addr) (c1 : Nat) (l1 : List ByteArray) (r : Bool) (w : World) (hr0 : Kd.C Kd.string w A0 l0.length l0) (hc0 : l0.length ≤ c0) (hr1 : Kd.C Kd.string w A1 l1.length l1) (hc1 : l1.length ≤ c1) (h : spec_SameWords.f k l0 l1 = some r) :
 Calls Try.prog 12 #[.slice A0 l0.length c0, .slice A1 l1.length c1] w fun e w' => e = .returned (.bool r) ∧ Below w.heap.size w w' := by
 have HR0 := A0_ hr0
 have HC0 := A0_ hc0
 clear hr0 hc0
 have HR1 := A0_ hr1
 have HC1 := A0_ hc1
 clear hr1 hc1
 have HB := A0_ (Below.refl w.heap.size w)
 have H : ((spec_Rising.f k l0).bind fun t335 => ((spec_Rising.f k l1).bind fun t338 => (if (t335.length : Int) = (t338.length : Int) then (spec_SameWords.l0 k t335 t338 0) else (some false)))) = some r := h
 clear h
 replace H := Option.bind_eq_some_iff.mp H
 obtain ⟨t335, A30, H⟩ := H
 replace H : ((spec_Rising.f k l1).bind fun t338 => (if (t335.length : Int) = (t338.length : Int) then (spec_SameWords.l0 k t335 t338 0) else (some false))) = some r := H
 have A3 := A0_ A30
 clear A30
 replace H := Option.bind_eq_some_iff.mp H
 obtain ⟨t338, A40, H⟩ := H
 replace H : (if (t335.length : Int) = (t338.length : Int) then (spec_SameWords.l0 k t335 t338 0) else (some false)) = some r := H
 have A4 := A0_ A40
 clear A40
 by_cases c5 : (t335.length : Int) = (t338.length : Int)
 · rw [if_pos c5] at H
   have c5b0 : ((t335.length : Int) == (t338.length : Int)) = true := beq_iff_eq.mpr c5; have c5b1 : ((t335.length : Int) != (t338.length : Int)) = false := bne_eq_false_iff_eq.mpr c5; (have c5b2 : (t335.length == t338.length) = true := by first | simpa using c5 | (simp at c5 ⊢; omega)); clear c5; have H' := A0_ H; clear H; (go_enter Try.func12, Try.ntmps12); (go_wp2_with (first | (go_at_call 25; (with_reducible refine (spec_Rising.calls k _ _ l0 t335 _ ?side1 ?side2 A3.out).mono ?_); (case side1 => repeat (first | exact HR0.out | (with_reducible refine sp8_ ?_ _) | (with_reducible refine sp9_ ?_ _) | (with_reducible refine sq1_ ?_))); (case side2 => exact HC0.out); rintro e w6 ⟨v336, rfl, ho0, hb⟩; have n0_ := A0_ (Kd.R_lower ho0 (sn1_ (kw0_ HB.out))); have n1_ := A0_ (sn2_ (kw0_ HB.out) hb); clear HB; have HO337 := n0_; have HB := n1_; clear n0_ n1_; (try clear hb); (try clear hb2); (try clear hk); (try clear hi); (try clear ho0)) | (go_at_call 25; (with_reducible refine (spec_Rising.calls k _ _ l1 t338 _ ?side1 ?side2 A4.out).mono ?_); (case side1 => repeat (first | exact (Kd.C_below HR1.out HB.out) | (with_reducible refine sp8_ ?_ _) | (with_reducible refine sp9_ ?_ _) | (with_reducible refine sq1_ ?_))); (case side2 => exact HC1.out); rintro e w7 ⟨v339, rfl, ho0, hb⟩; have n0_ := A0_ (Kd.R_elder' (kr_ HO337.out) (Kd.R_base ho0) hb); have n1_ := A0_ (Kd.R_lower (Kd.R_new' ho0 (Kd.R_lt (kr_ HO337.out))) (sn1_ (kw0_ HB.out))); have n2_ := A0_ (sn2_ (kw0_ HB.out) hb); clear HO337; clear HB; have HO337 := n0_; have HO340 := n1_; have HB := n2_; clear n0_ n1_ n2_; (try clear hb); (try clear hb2); (try clear hk); (try clear hi); (try clear ho0); obtain ⟨Ao8, co8, eo8⟩ := Kd.R_slice HO337.out; subst eo8; obtain ⟨Ao9, co9, eo9⟩ := Kd.R_slice HO340.out; subst eo9))); (repeat (go_quiet (first | (go_at_call 25; (with_reducible refine (spec_Rising.calls k _ _ l0 t335 _ ?side1 ?side2 A3.out).mono ?_); (case side1 => repeat (first | exact HR0.out | (with_reducible refine sp8_ ?_ _) | (with_reducible refine sp9_ ?_ _) | (with_reducible refine sq1_ ?_))); (case side2 => exact HC0.out); rintro e w6 ⟨v336, rfl, ho0, hb⟩; have n0_ := A0_ (Kd.R_lower ho0 (sn1_ (kw0_ HB.out))); have n1_ := A0_ (sn2_ (kw0_ HB.out) hb); clear HB; have HO337 := n0_; have HB := n1_; clear n0_ n1_; (try clear hb); (try clear hb2); (try clear hk); (try clear hi); (try clear ho0)) | (go_at_call 25; (with_reducible refine (spec_Rising.calls k _ _ l1 t338 _ ?side1 ?side2 A4.out).mono ?_); (case side1 => repeat (first | exact (Kd.C_below HR1.out HB.out) | (with_reducible refine sp8_ ?_ _) | (with_reducible refine sp9_ ?_ _) | (with_reducible refine sq1_ ?_))); (case side2 => exact HC1.out); rintro e w7 ⟨v339, rfl, ho0, hb⟩; have n0_ := A0_ (Kd.R_elder' (kr_ HO337.out) (Kd.R_base ho0) hb); have n1_ := A0_ (Kd.R_lower (Kd.R_new' ho0 (Kd.R_lt (kr_ HO337.out))) (sn1_ (kw0_ HB.out))); have n2_ := A0_ (sn2_ (kw0_ HB.out) hb); clear HO337; clear HB; have HO337 := n0_; have HO340 := n1_; have HB := n2_; clear n0_ n1_ n2_; (try clear hb); (try clear hb2); (try clear hk); (try clear hi); (try clear ho0); obtain ⟨Ao8, co8, eo8⟩ := Kd.R_slice HO337.out; subst eo8; obtain ⟨Ao9, co9, eo9⟩ := Kd.R_slice HO340.out; subst eo9)); try go_wp2_with (first | (go_at_call 25; (with_reducible refine (spec_Rising.calls k _ _ l0 t335 _ ?side1 ?side2 A3.out).mono ?_); (case side1 => repeat (first | exact HR0.out | (with_reducible refine sp8_ ?_ _) | (with_reducible refine sp9_ ?_ _) | (with_reducible refine sq1_ ?_))); (case side2 => exact HC0.out); rintro e w6 ⟨v336, rfl, ho0, hb⟩; have n0_ := A0_ (Kd.R_lower ho0 (sn1_ (kw0_ HB.out))); have n1_ := A0_ (sn2_ (kw0_ HB.out) hb); clear HB; have HO337 := n0_; have HB := n1_; clear n0_ n1_; (try clear hb); (try clear hb2); (try clear hk); (try clear hi); (try clear ho0)) | (go_at_call 25; (with_reducible refine (spec_Rising.calls k _ _ l1 t338 _ ?side1 ?side2 A4.out).mono ?_); (case side1 => repeat (first | exact (Kd.C_below HR1.out HB.out) | (with_reducible refine sp8_ ?_ _) | (with_reducible refine sp9_ ?_ _) | (with_reducible refine sq1_ ?_))); (case side2 => exact HC1.out); rintro e w7 ⟨v339, rfl, ho0, hb⟩; have n0_ := A0_ (Kd.R_elder' (kr_ HO337.out) (Kd.R_base ho0) hb); have n1_ := A0_ (Kd.R_lower (Kd.R_new' ho0 (Kd.R_lt (kr_ HO337.out))) (sn1_ (kw0_ HB.out))); have n2_ := A0_ (sn2_ (kw0_ HB.out) hb); clear HO337; clear HB; have HO337 := n0_; have HO340 := n1_; have HB := n2_; clear n0_ n1_ n2_; (try clear hb); (try clear hb2); (try clear hk); (try clear hi); (try clear ho0); obtain ⟨Ao8, co8, eo8⟩ := Kd.R_slice HO337.out; subst eo8; obtain ⟨Ao9, co9, eo9⟩ := Kd.R_slice HO340.out; subst eo9)))); (go_loopg [7] k (fun kq v7 w' => ∃ (x7_1 : Int), v7 = .int .i64 x7_1 ∧ Aside0 (spec_SameWords.l0 kq t335 t338 x7_1 = some r) ∧ Aside0 (kq ≤ k) ∧ Aside0 (Kd.R Kd.string 9 w' w.heap.size (fun k_ => some k_ ≠ ((.slice Ao9 t338.length co9) : Value).ownBlock) (.slice Ao8 t335.length co8) t335) ∧ Aside0 (Kd.R Kd.string 9 w' w.heap.size (fun k_ => some k_ ≠ ((.slice Ao8 t335.length co8) : Value).ownBlock) (.slice Ao9 t338.length co9) t338) ∧ Aside0 (Below w.heap.size w w')))
   case atStart => exact ⟨(0), (by first | rfl | (simp; done) | (simp [*]; done)), H', ⟨Nat.le_refl _⟩, ⟨by (with_reducible repeat (first | apply sm2_ | apply sm1_ | apply sm3_)); exact Kd.R_mono HO337.out (fun _ hk => hk.2)⟩, ⟨by (with_reducible repeat (first | apply sm2_ | apply sm1_ | apply sm3_)); exact Kd.R_mono HO340.out (fun _ hk => hk.2)⟩, ⟨by repeat (first | (with_reducible first | exact HB.out | apply sm4_ | apply sl9_ | apply sm5_) | exact HB.out)⟩⟩
   case round =>
    clear H'; (try clear c1); (try clear p2); (try clear c5); (try clear c5b0); (try clear c5b1); (try clear c5b2); obtain ⟨x7_1, rfl, HA, HK1, HO_5, HO_6, HB⟩ := hrel
    cases gk with
    | zero => exact absurd HA.out (by simp [spec_SameWords.l0])
    | succ k1 =>
     have H := HA.out; clear HA; (simp only [spec_SameWords.l0] at H); (by_cases c10 : x7_1 < (t335.length : Int))
     · rw [if_pos c10] at H
       have c10b0 : decide (x7_1 < (t335.length : Int)) = true := decide_eq_true c10; clear c10; (by_cases c11 : 0 ≤ x7_1)
       · rw [if_pos c11] at H
         have c11b0 : decide (0 ≤ x7_1) = true := decide_eq_true c11; clear c11; (by_cases c12 : x7_1 < (t338.length : Int))
         · rw [if_pos c12] at H
           have c12b0 : decide (x7_1 < (t338.length : Int)) = true := decide_eq_true c12; clear c12; (by_cases c13 : (rdOf ByteArray.empty t335 x7_1).toList = (rdOf ByteArray.empty t338 x7_1).toList)
           · rw [if_pos c13] at H
             have c13b0 : ((rdOf ByteArray.empty t335 x7_1).toList == (rdOf ByteArray.empty t338 x7_1).toList) = true := beq_iff_eq.mpr c13; have c13b1 : ((rdOf ByteArray.empty t335 x7_1).toList != (rdOf ByteArray.empty t338 x7_1).toList) = false := bne_eq_false_iff_eq.mpr c13; clear c13; have H' := A0_ H; clear H; have p341 : 0 ≤ (x7_1 : Int) := od_ (by assumption); have q341 : x7_1 < (t335.length : Int) := od_ (by assumption); obtain ⟨ad341, e341, hx341_0⟩ := Kd.at_string (Kd.R_reads' HO_5.out).2.2 x7_1 p341 q341; (cases e341); replace p341 := eq_true p341; replace q341 := eq_true q341; have p342 : 0 ≤ (x7_1 : Int) := od_ (by assumption); have q342 : x7_1 < (t338.length : Int) := od_ (by assumption); obtain ⟨ad342, e342, hx342_0⟩ := Kd.at_string (Kd.R_reads' HO_6.out).2.2 x7_1 p342 q342; (cases e342); replace p342 := eq_true p342; replace q342 := eq_true q342; (go_wp2); (repeat (go_quiet (fail); try go_wp2)); (go_roundg k1)
             case measure => have := HK1.out; omega
             case rel => exact ⟨(wrap64 (x7_1 + 1)), (by first | rfl | (simp; done) | (simp [*]; done)), H', ⟨by have := HK1.out; omega⟩, ⟨by (with_reducible repeat (first | apply sm2_ | apply sm1_ | apply sm3_)); exact HO_5.out⟩, ⟨by (with_reducible repeat (first | apply sm2_ | apply sm1_ | apply sm3_)); exact HO_6.out⟩, ⟨by repeat (first | (with_reducible first | exact HB.out | apply sm4_ | apply sl9_ | apply sm5_) | exact HB.out)⟩⟩
           · rw [if_neg c13] at H
             have c13b0 : ((rdOf ByteArray.empty t335 x7_1).toList == (rdOf ByteArray.empty t338 x7_1).toList) = false := beq_eq_false_iff_ne.mpr c13; have c13b1 : ((rdOf ByteArray.empty t335 x7_1).toList != (rdOf ByteArray.empty t338 x7_1).toList) = true := bne_iff_ne.mpr c13; obtain rfl := Option.some.inj H; have p341 : 0 ≤ (x7_1 : Int) := od_ (by assumption); have q341 : x7_1 < (t335.length : Int) := od_ (by assumption); obtain ⟨ad341, e341, hx341_0⟩ := Kd.at_string (Kd.R_reads' HO_5.out).2.2 x7_1 p341 q341; (cases e341); replace p341 := eq_true p341; replace q341 := eq_true q341; have p342 : 0 ≤ (x7_1 : Int) := od_ (by assumption); have q342 : x7_1 < (t338.length : Int) := od_ (by assumption); obtain ⟨ad342, e342, hx342_0⟩ := Kd.at_string (Kd.R_reads' HO_6.out).2.2 x7_1 p342 q342; (cases e342); replace p342 := eq_true p342; replace q342 := eq_true q342; (go_wp2); (repeat (go_quiet (fail); try go_wp2)); (go_ret); (exact ⟨by first | rfl | (simp [errW_none, errW_some] <;> rfl) | (simp [*, errW_none, errW_some] <;> rfl), by repeat (first | (with_reducible first | exact HB.out | apply sm4_ | apply sl9_ | apply sm5_) | exact HB.out)⟩)
         · rw [if_neg c12] at H
           exact absurd H (by simp)
       · rw [if_neg c11] at H
         exact absurd H (by simp)
     · rw [if_neg c10] at H
       have c10b0 : decide (x7_1 < (t335.length : Int)) = false := decide_eq_false c10; clear c10; obtain rfl := Option.some.inj H; (go_wp2); (repeat (go_quiet (fail); try go_wp2)); (go_ret); (exact ⟨by first | rfl | (simp [errW_none, errW_some] <;> rfl) | (simp [*, errW_none, errW_some] <;> rfl), by repeat (first | (with_reducible first | exact HB.out | apply sm4_ | apply sl9_ | apply sm5_) | exact HB.out)⟩)
 · rw [if_neg c5] at H
   have c5b0 : ((t335.length : Int) == (t338.length : Int)) = false := beq_eq_false_iff_ne.mpr c5; have c5b1 : ((t335.length : Int) != (t338.length : Int)) = true := bne_iff_ne.mpr c5; (have c5b2 : (t335.length == t338.length) = false := by first | simpa using c5 | (simp at c5 ⊢; omega)); obtain rfl := Option.some.inj H; (go_enter Try.func12, Try.ntmps12); (go_wp2_with (first | (go_at_call 25; (with_reducible refine (spec_Rising.calls k _ _ l0 t335 _ ?side1 ?side2 A3.out).mono ?_); (case side1 => repeat (first | exact HR0.out | (with_reducible refine sp8_ ?_ _) | (with_reducible refine sp9_ ?_ _) | (with_reducible refine sq1_ ?_))); (case side2 => exact HC0.out); rintro e w14 ⟨v336, rfl, ho0, hb⟩; have n0_ := A0_ (Kd.R_lower ho0 (sn1_ (kw0_ HB.out))); have n1_ := A0_ (sn2_ (kw0_ HB.out) hb); clear HB; have HO337 := n0_; have HB := n1_; clear n0_ n1_; (try clear hb); (try clear hb2); (try clear hk); (try clear hi); (try clear ho0)) | (go_at_call 25; (with_reducible refine (spec_Rising.calls k _ _ l1 t338 _ ?side1 ?side2 A4.out).mono ?_); (case side1 => repeat (first | exact (Kd.C_below HR1.out HB.out) | (with_reducible refine sp8_ ?_ _) | (with_reducible refine sp9_ ?_ _) | (with_reducible refine sq1_ ?_))); (case side2 => exact HC1.out); rintro e w15 ⟨v339, rfl, ho0, hb⟩; have n0_ := A0_ (Kd.R_elder' (kr_ HO337.out) (Kd.R_base ho0) hb); have n1_ := A0_ (Kd.R_lower (Kd.R_new' ho0 (Kd.R_lt (kr_ HO337.out))) (sn1_ (kw0_ HB.out))); have n2_ := A0_ (sn2_ (kw0_ HB.out) hb); clear HO337; clear HB; have HO337 := n0_; have HO340 := n1_; have HB := n2_; clear n0_ n1_ n2_; (try clear hb); (try clear hb2); (try clear hk); (try clear hi); (try clear ho0); obtain ⟨Ao16, co16, eo16⟩ := Kd.R_slice HO337.out; subst eo16; obtain ⟨Ao17, co17, eo17⟩ := Kd.R_slice HO340.out; subst eo17))); (repeat (go_quiet (first | (go_at_call 25; (with_reducible refine (spec_Rising.calls k _ _ l0 t335 _ ?side1 ?side2 A3.out).mono ?_); (case side1 => repeat (first | exact HR0.out | (with_reducible refine sp8_ ?_ _) | (with_reducible refine sp9_ ?_ _) | (with_reducible refine sq1_ ?_))); (case side2 => exact HC0.out); rintro e w14 ⟨v336, rfl, ho0, hb⟩; have n0_ := A0_ (Kd.R_lower ho0 (sn1_ (kw0_ HB.out))); have n1_ := A0_ (sn2_ (kw0_ HB.out) hb); clear HB; have HO337 := n0_; have HB := n1_; clear n0_ n1_; (try clear hb); (try clear hb2); (try clear hk); (try clear hi); (try clear ho0)) | (go_at_call 25; (with_reducible refine (spec_Rising.calls k _ _ l1 t338 _ ?side1 ?side2 A4.out).mono ?_); (case side1 => repeat (first | exact (Kd.C_below HR1.out HB.out) | (with_reducible refine sp8_ ?_ _) | (with_reducible refine sp9_ ?_ _) | (with_reducible refine sq1_ ?_))); (case side2 => exact HC1.out); rintro e w15 ⟨v339, rfl, ho0, hb⟩; have n0_ := A0_ (Kd.R_elder' (kr_ HO337.out) (Kd.R_base ho0) hb); have n1_ := A0_ (Kd.R_lower (Kd.R_new' ho0 (Kd.R_lt (kr_ HO337.out))) (sn1_ (kw0_ HB.out))); have n2_ := A0_ (sn2_ (kw0_ HB.out) hb); clear HO337; clear HB; have HO337 := n0_; have HO340 := n1_; have HB := n2_; clear n0_ n1_ n2_; (try clear hb); (try clear hb2); (try clear hk); (try clear hi); (try clear ho0); obtain ⟨Ao16, co16, eo16⟩ := Kd.R_slice HO337.out; subst eo16; obtain ⟨Ao17, co17, eo17⟩ := Kd.R_slice HO340.out; subst eo17)); try go_wp2_with (first | (go_at_call 25; (with_reducible refine (spec_Rising.calls k _ _ l0 t335 _ ?side1 ?side2 A3.out).mono ?_); (case side1 => repeat (first | exact HR0.out | (with_reducible refine sp8_ ?_ _) | (with_reducible refine sp9_ ?_ _) | (with_reducible refine sq1_ ?_))); (case side2 => exact HC0.out); rintro e w14 ⟨v336, rfl, ho0, hb⟩; have n0_ := A0_ (Kd.R_lower ho0 (sn1_ (kw0_ HB.out))); have n1_ := A0_ (sn2_ (kw0_ HB.out) hb); clear HB; have HO337 := n0_; have HB := n1_; clear n0_ n1_; (try clear hb); (try clear hb2); (try clear hk); (try clear hi); (try clear ho0)) | (go_at_call 25; (with_reducible refine (spec_Rising.calls k _ _ l1 t338 _ ?side1 ?side2 A4.out).mono ?_); (case side1 => repeat (first | exact (Kd.C_below HR1.out HB.out) | (with_reducible refine sp8_ ?_ _) | (with_reducible refine sp9_ ?_ _) | (with_reducible refine sq1_ ?_))); (case side2 => exact HC1.out); rintro e w15 ⟨v339, rfl, ho0, hb⟩; have n0_ := A0_ (Kd.R_elder' (kr_ HO337.out) (Kd.R_base ho0) hb); have n1_ := A0_ (Kd.R_lower (Kd.R_new' ho0 (Kd.R_lt (kr_ HO337.out))) (sn1_ (kw0_ HB.out))); have n2_ := A0_ (sn2_ (kw0_ HB.out) hb); clear HO337; clear HB; have HO337 := n0_; have HO340 := n1_; have HB := n2_; clear n0_ n1_ n2_; (try clear hb); (try clear hb2); (try clear hk); (try clear hi); (try clear ho0); obtain ⟨Ao16, co16, eo16⟩ := Kd.R_slice HO337.out; subst eo16; obtain ⟨Ao17, co17, eo17⟩ := Kd.R_slice HO340.out; subst eo17)))); (go_ret); (exact ⟨by first | rfl | (simp [errW_none, errW_some] <;> rfl) | (simp [*, errW_none, errW_some] <;> rfl), by repeat (first | (with_reducible first | exact HB.out | apply sm4_ | apply sl9_ | apply sm5_) | exact HB.out)⟩)
def spec_SameSays.f (k : Nat) (a0 : Int) (a1_0 : Int) (a1_1 : Bool) (a1_2 : ByteArray) (l1_3 : List ByteArray) (a2_0 : Int) (a2_1 : Bool) (a2_2 : ByteArray) (l2_3 : List ByteArray) : Option (Bool) := if (a1_1 != a2_1) = true then (some false) else (if a1_2.toList = a2_2.toList then ((spec_SameWords.f k l1_3 l2_3).bind fun t345 => (if t345 = true then (if a0 = 2 then (if a1_1 = true then (some (a1_0 == a2_0)) else (some true)) else (some (a1_0 == a2_0))) else (some false))) else (some false))
set_option maxHeartbeats 8000000 in
set_option maxRecDepth 100000 in
theorem spec_SameSays.calls (k : Nat) (a0 : Int) (a1_0 : Int) (a1_1 : Bool) (a1_2 : ByteArray) (A1_3 : Option Addr) (c1_3 : Nat) (l1_3 : List ByteArray) (a2_0 : Int) (a2_1 : Bool) (a2_2 : ByteArray) (A2_3 : Option Addr) (c2_3 : Nat) (l2_3 : List ByteArray) (r : Bool) (w : World) (hr1_3 : Kd.C Kd.string w A1_3 l1_3.length l1_3) (hc1_3 : l1_3.length ≤ c1_3) (hr2_3 : Kd.C Kd.string w A2_3 l2_3.length l2_3) (hc2_3 : l2_3.length ≤ c2_3) (h : spec_SameSays.f k a0 a1_0 a1_1 a1_2 l1_3 a2_0 a2_1 a2_2 l2_3 = some r) :
 Calls Try.prog 29 #[.int .i64 a0, .agg #[.int .i64 a1_0, .bool a1_1, .string a1_2, .slice A1_3 l1_3.length c1_3], .agg #[.int .i64 a2_0, .bool a2_1, .string a2_2, .slice A2_3 l2_3.length c2_3]] w fun e w' => e = .returned (.bool r) ∧ Below w.heap.size w w' := by
 have hu26 := Try.underlying26
 have HR1_3 := A0_ hr1_3
 have HC1_3 := A0_ hc1_3
 clear hr1_3 hc1_3
 have HR2_3 := A0_ hr2_3
 have HC2_3 := A0_ hc2_3
 clear hr2_3 hc2_3
 have HB := A0_ (Below.refl w.heap.size w)
 have H : (if (a1_1 != a2_1) = true then (some false) else (if a1_2.toList = a2_2.toList then ((spec_SameWords.f k l1_3 l2_3).bind fun t345 => (if t345 = true then (if a0 = 2 then (if a1_1 = true then (some (a1_0 == a2_0)) else (some true)) else (some (a1_0 == a2_0))) else (some false))) else (some false))) = some r := h
 clear h
 by_cases c4 : (a1_1 != a2_1) = true
 · rw [if_pos c4] at H
   have c4b0 : (a1_1 != a2_1) = true := c4; ((try (have c4b1 : decide (a1_1 = a2_1) = false := by simpa using c4))); ((try (have c4b2 : (a1_1 == a2_1) = false := by simpa using c4))); ((try (have c4b3 : ¬ (a1_1 = a2_1) := by simpa using c4))); clear c4; obtain rfl := Option.some.inj H; (go_enter Try.func29, Try.ntmps29); (go_wp2_with (first | ((with_reducible refine sp1_ (N := 4) rfl ?_); refine sn9_ ?hg (N := 4) ?hd (cs := #[.int .i64 a1_0, .bool a1_1, .string a1_2, .slice A1_3 l1_3.length c1_3]) (t := 26) ?hr ?_; (case hd => rfl); (case hg => rfl); (case hr => first | (go_simp; done) | (go_simp; rfl)); intro gb343 hg w5 hbox hb; have n0_ := A0_ (sn2_ (kw0_ HB.out) hb); have n1_ := A0_ (hbox); have n2_ := A0_ ((by rw [hg]; exact (sn1_ (kw0_ HB.out)) : w.heap.size ≤ gb343)); have n3_ := A0_ ((by rw [hg]; exact (sn1_ (kw0_ HB.out)) : w.heap.size ≤ gb343)); clear HB; have HB := n0_; have BK343 := n1_; have GW343 := n2_; have GE343 := n3_; clear n0_ n1_ n2_ n3_; clear hb hbox hg) | ((with_reducible refine sp1_ (N := 5) rfl ?_); refine sn9_ ?hg (N := 5) ?hd (cs := #[.int .i64 a2_0, .bool a2_1, .string a2_2, .slice A2_3 l2_3.length c2_3]) (t := 26) ?hr ?_; (case hd => rfl); (case hg => rfl); (case hr => first | (go_simp; done) | (go_simp; rfl)); intro gb344 hg w6 hbox hb; have n0_ := A0_ (sn4_ (g := gb343) (o := .cells #[.int .i64 a1_0, .bool a1_1, .string a1_2, .slice A1_3 l1_3.length c1_3] 26 (0, 0)) (kb_ BK343.out) hb); have n1_ := A0_ (sn2_ (kw1_ HB.out GE343.out) hb); have n2_ := A0_ (hbox); have n3_ := A0_ ((by rw [hg]; exact (sn1_ (kw1_ HB.out GE343.out)) : w.heap.size ≤ gb344)); have n4_ := A0_ ((by rw [hg]; exact (sn1_ (kw1_ HB.out GE343.out)) : w.heap.size ≤ gb344)); have n5_ := A0_ ((by rw [hg]; exact sl5_ (blk_lt (g := gb343) (o := .cells #[.int .i64 a1_0, .bool a1_1, .string a1_2, .slice A1_3 l1_3.length c1_3] 26 (0, 0)) (kb_ BK343.out)) : gb343 ≠ gb344)); have n6_ := A0_ ((by rw [hg]; exact sn8_ (blk_lt (g := gb343) (o := .cells #[.int .i64 a1_0, .bool a1_1, .string a1_2, .slice A1_3 l1_3.length c1_3] 26 (0, 0)) (kb_ BK343.out)) : gb344 ≠ gb343)); clear BK343; clear HB; have BK343 := n0_; have HB := n1_; have BK344 := n2_; have GW344 := n3_; have GE344 := n4_; have NB343_344 := n5_; have NB344_343 := n6_; clear n0_ n1_ n2_ n3_ n4_ n5_ n6_; clear hb hbox hg; have hnb7 := NB343_344.out; have hnc7 := NB344_343.out; have hcz8_0 : w6.cell? ⟨gb343, 0, none⟩ = some (.int .i64 a1_0) := (blk_cell BK343.out 0).trans rfl; have hcz8_1 : w6.cell? ⟨gb343, 1, none⟩ = some (.bool a1_1) := (blk_cell BK343.out 1).trans rfl; have hcz8_2 : w6.cell? ⟨gb343, 2, none⟩ = some (.string a1_2) := (blk_cell BK343.out 2).trans rfl; have hcz8_3 : w6.cell? ⟨gb343, 3, none⟩ = some (.slice A1_3 l1_3.length c1_3) := (blk_cell BK343.out 3).trans rfl; have hfz8_0 := blk_frozen BK343.out 0; have hfz8_1 := blk_frozen BK343.out 1; have hfz8_2 := blk_frozen BK343.out 2; have hfz8_3 := blk_frozen BK343.out 3; have hcz9_0 : w6.cell? ⟨gb344, 0, none⟩ = some (.int .i64 a2_0) := (blk_cell BK344.out 0).trans rfl; have hcz9_1 : w6.cell? ⟨gb344, 1, none⟩ = some (.bool a2_1) := (blk_cell BK344.out 1).trans rfl; have hcz9_2 : w6.cell? ⟨gb344, 2, none⟩ = some (.string a2_2) := (blk_cell BK344.out 2).trans rfl; have hcz9_3 : w6.cell? ⟨gb344, 3, none⟩ = some (.slice A2_3 l2_3.length c2_3) := (blk_cell BK344.out 3).trans rfl; have hfz9_0 := blk_frozen BK344.out 0; have hfz9_1 := blk_frozen BK344.out 1; have hfz9_2 := blk_frozen BK344.out 2; have hfz9_3 := blk_frozen BK344.out 3))); (go_ret); (exact ⟨by first | rfl | (simp [errW_none, errW_some] <;> rfl) | (simp [*, errW_none, errW_some] <;> rfl), by repeat (first | (with_reducible first | exact HB.out | apply sm4_ | apply sl9_ | apply sm5_ | refine sn3_ ?_ GE343.out | refine sn3_ ?_ GE344.out) | exact HB.out)⟩)
 · rw [if_neg c4] at H
   (have c4b0 : (a1_1 != a2_1) = false := by simpa using c4); ((try (have c4b1 : decide (a1_1 = a2_1) = true := by simpa using c4))); ((try (have c4b2 : (a1_1 == a2_1) = true := by simpa using c4))); clear c4; (by_cases c10 : a1_2.toList = a2_2.toList)
   · rw [if_pos c10] at H
     have c10b0 : (a1_2.toList == a2_2.toList) = true := beq_iff_eq.mpr c10; have c10b1 : (a1_2.toList != a2_2.toList) = false := bne_eq_false_iff_eq.mpr c10; clear c10; replace H := Option.bind_eq_some_iff.mp H; obtain ⟨t345, A110, H⟩ := H; replace H : (if t345 = true then (if a0 = 2 then (if a1_1 = true then (some (a1_0 == a2_0)) else (some true)) else (some (a1_0 == a2_0))) else (some false)) = some r := H; have A11 := A0_ A110; clear A110; (by_cases c12 : t345 = true)
     · subst c12
       (have H1 : (if a0 = 2 then (if a1_1 = true then (some (a1_0 == a2_0)) else (some true)) else (some (a1_0 == a2_0))) = some r := by rw [if_pos rfl] at H; exact H); clear H; have H := H1; clear H1; (by_cases c13 : a0 = 2)
       · rw [if_pos c13] at H
         have c13b0 : (a0 == 2) = true := beq_iff_eq.mpr c13; have c13b1 : (a0 != 2) = false := bne_eq_false_iff_eq.mpr c13; clear c13; (by_cases c14 : a1_1 = true)
         · subst c14
           (have H1 : (some (a1_0 == a2_0)) = some r := by rw [if_pos rfl] at H; exact H); clear H; have H := H1; clear H1; obtain rfl := Option.some.inj H; (go_enter Try.func29, Try.ntmps29); (go_wp2_with (first | ((with_reducible refine sp1_ (N := 4) rfl ?_); refine sn9_ ?hg (N := 4) ?hd (cs := #[.int .i64 a1_0, .bool true, .string a1_2, .slice A1_3 l1_3.length c1_3]) (t := 26) ?hr ?_; (case hd => rfl); (case hg => rfl); (case hr => first | (go_simp; done) | (go_simp; rfl)); intro gb343 hg w15 hbox hb; have n0_ := A0_ (sn2_ (kw0_ HB.out) hb); have n1_ := A0_ (hbox); have n2_ := A0_ ((by rw [hg]; exact (sn1_ (kw0_ HB.out)) : w.heap.size ≤ gb343)); have n3_ := A0_ ((by rw [hg]; exact (sn1_ (kw0_ HB.out)) : w.heap.size ≤ gb343)); clear HB; have HB := n0_; have BK343 := n1_; have GW343 := n2_; have GE343 := n3_; clear n0_ n1_ n2_ n3_; clear hb hbox hg) | ((with_reducible refine sp1_ (N := 5) rfl ?_); refine sn9_ ?hg (N := 5) ?hd (cs := #[.int .i64 a2_0, .bool a2_1, .string a2_2, .slice A2_3 l2_3.length c2_3]) (t := 26) ?hr ?_; (case hd => rfl); (case hg => rfl); (case hr => first | (go_simp; done) | (go_simp; rfl)); intro gb344 hg w16 hbox hb; have n0_ := A0_ (sn4_ (g := gb343) (o := .cells #[.int .i64 a1_0, .bool true, .string a1_2, .slice A1_3 l1_3.length c1_3] 26 (0, 0)) (kb_ BK343.out) hb); have n1_ := A0_ (sn2_ (kw1_ HB.out GE343.out) hb); have n2_ := A0_ (hbox); have n3_ := A0_ ((by rw [hg]; exact (sn1_ (kw1_ HB.out GE343.out)) : w.heap.size ≤ gb344)); have n4_ := A0_ ((by rw [hg]; exact (sn1_ (kw1_ HB.out GE343.out)) : w.heap.size ≤ gb344)); have n5_ := A0_ ((by rw [hg]; exact sl5_ (blk_lt (g := gb343) (o := .cells #[.int .i64 a1_0, .bool true, .string a1_2, .slice A1_3 l1_3.length c1_3] 26 (0, 0)) (kb_ BK343.out)) : gb343 ≠ gb344)); have n6_ := A0_ ((by rw [hg]; exact sn8_ (blk_lt (g := gb343) (o := .cells #[.int .i64 a1_0, .bool true, .string a1_2, .slice A1_3 l1_3.length c1_3] 26 (0, 0)) (kb_ BK343.out)) : gb344 ≠ gb343)); clear BK343; clear HB; have BK343 := n0_; have HB := n1_; have BK344 := n2_; have GW344 := n3_; have GE344 := n4_; have NB343_344 := n5_; have NB344_343 := n6_; clear n0_ n1_ n2_ n3_ n4_ n5_ n6_; clear hb hbox hg; have hnb17 := NB343_344.out; have hnc17 := NB344_343.out; have hcz18_0 : w16.cell? ⟨gb343, 0, none⟩ = some (.int .i64 a1_0) := (blk_cell BK343.out 0).trans rfl; have hcz18_1 : w16.cell? ⟨gb343, 1, none⟩ = some (.bool true) := (blk_cell BK343.out 1).trans rfl; have hcz18_2 : w16.cell? ⟨gb343, 2, none⟩ = some (.string a1_2) := (blk_cell BK343.out 2).trans rfl; have hcz18_3 : w16.cell? ⟨gb343, 3, none⟩ = some (.slice A1_3 l1_3.length c1_3) := (blk_cell BK343.out 3).trans rfl; have hfz18_0 := blk_frozen BK343.out 0; have hfz18_1 := blk_frozen BK343.out 1; have hfz18_2 := blk_frozen BK343.out 2; have hfz18_3 := blk_frozen BK343.out 3; have hcz19_0 : w16.cell? ⟨gb344, 0, none⟩ = some (.int .i64 a2_0) := (blk_cell BK344.out 0).trans rfl; have hcz19_1 : w16.cell? ⟨gb344, 1, none⟩ = some (.bool a2_1) := (blk_cell BK344.out 1).trans rfl; have hcz19_2 : w16.cell? ⟨gb344, 2, none⟩ = some (.string a2_2) := (blk_cell BK344.out 2).trans rfl; have hcz19_3 : w16.cell? ⟨gb344, 3, none⟩ = some (.slice A2_3 l2_3.length c2_3) := (blk_cell BK344.out 3).trans rfl; have hfz19_0 := blk_frozen BK344.out 0; have hfz19_1 := blk_frozen BK344.out 1; have hfz19_2 := blk_frozen BK344.out 2; have hfz19_3 := blk_frozen BK344.out 3) | (go_at_call 12; (with_reducible refine (spec_SameWords.calls k _ _ l1_3 _ _ l2_3 true _ ?side1 ?side2 ?side3 ?side4 A11.out).mono ?_); (case side1 => repeat (first | exact (Kd.C_below HR1_3.out HB.out) | (with_reducible refine sp8_ ?_ _) | (with_reducible refine sp9_ ?_ _) | (with_reducible refine sq1_ ?_))); (case side2 => exact HC1_3.out); (case side3 => repeat (first | exact (Kd.C_below HR2_3.out HB.out) | (with_reducible refine sp8_ ?_ _) | (with_reducible refine sp9_ ?_ _) | (with_reducible refine sq1_ ?_))); (case side4 => exact HC2_3.out); rintro e w20 ⟨rfl, hb⟩; have n0_ := A0_ (sn4_ (g := gb343) (o := .cells #[.int .i64 a1_0, .bool true, .string a1_2, .slice A1_3 l1_3.length c1_3] 26 (0, 0)) (kb_ BK343.out) hb); have n1_ := A0_ (sn4_ (g := gb344) (o := .cells #[.int .i64 a2_0, .bool a2_1, .string a2_2, .slice A2_3 l2_3.length c2_3] 26 (0, 0)) (kb_ BK344.out) hb); have n2_ := A0_ (sn2_ (kw2_ HB.out GE343.out GE344.out) hb); clear BK343; clear BK344; clear HB; have BK343 := n0_; have BK344 := n1_; have HB := n2_; clear n0_ n1_ n2_; (try clear hb); (try clear hb2); (try clear hk); (try clear hi); have hcz21_0 : w20.cell? ⟨gb343, 0, none⟩ = some (.int .i64 a1_0) := (blk_cell BK343.out 0).trans rfl; have hcz21_1 : w20.cell? ⟨gb343, 1, none⟩ = some (.bool true) := (blk_cell BK343.out 1).trans rfl; have hcz21_2 : w20.cell? ⟨gb343, 2, none⟩ = some (.string a1_2) := (blk_cell BK343.out 2).trans rfl; have hcz21_3 : w20.cell? ⟨gb343, 3, none⟩ = some (.slice A1_3 l1_3.length c1_3) := (blk_cell BK343.out 3).trans rfl; have hfz21_0 := blk_frozen BK343.out 0; have hfz21_1 := blk_frozen BK343.out 1; have hfz21_2 := blk_frozen BK343.out 2; have hfz21_3 := blk_frozen BK343.out 3; have hcz22_0 : w20.cell? ⟨gb344, 0, none⟩ = some (.int .i64 a2_0) := (blk_cell BK344.out 0).trans rfl; have hcz22_1 : w20.cell? ⟨gb344, 1, none⟩ = some (.bool a2_1) := (blk_cell BK344.out 1).trans rfl; have hcz22_2 : w20.cell? ⟨gb344, 2, none⟩ = some (.string a2_2) := (blk_cell BK344.out 2).trans rfl; have hcz22_3 : w20.cell? ⟨gb344, 3, none⟩ = some (.slice A2_3 l2_3.length c2_3) := (blk_cell BK344.out 3).trans rfl; have hfz22_0 := blk_frozen BK344.out 0; have hfz22_1 := blk_frozen BK344.out 1; have hfz22_2 := blk_frozen BK344.out 2; have hfz22_3 := blk_frozen BK344.out 3))); (go_ret); (exact ⟨by first | rfl | (simp [errW_none, errW_some] <;> rfl) | (simp [*, errW_none, errW_some] <;> rfl), by repeat (first | (with_reducible first | exact HB.out | apply sm4_ | apply sl9_ | apply sm5_ | refine sn3_ ?_ GE343.out | refine sn3_ ?_ GE344.out) | exact HB.out)⟩)
         · replace c14 := Bool.eq_false_iff.mpr c14
           subst c14; (have H1 : (some true) = some r := by rw [if_neg (show ¬ (false = true) by decide)] at H; exact H); clear H; have H := H1; clear H1; obtain rfl := Option.some.inj H; (go_enter Try.func29, Try.ntmps29); (go_wp2_with (first | ((with_reducible refine sp1_ (N := 4) rfl ?_); refine sn9_ ?hg (N := 4) ?hd (cs := #[.int .i64 a1_0, .bool false, .string a1_2, .slice A1_3 l1_3.length c1_3]) (t := 26) ?hr ?_; (case hd => rfl); (case hg => rfl); (case hr => first | (go_simp; done) | (go_simp; rfl)); intro gb343 hg w23 hbox hb; have n0_ := A0_ (sn2_ (kw0_ HB.out) hb); have n1_ := A0_ (hbox); have n2_ := A0_ ((by rw [hg]; exact (sn1_ (kw0_ HB.out)) : w.heap.size ≤ gb343)); have n3_ := A0_ ((by rw [hg]; exact (sn1_ (kw0_ HB.out)) : w.heap.size ≤ gb343)); clear HB; have HB := n0_; have BK343 := n1_; have GW343 := n2_; have GE343 := n3_; clear n0_ n1_ n2_ n3_; clear hb hbox hg) | ((with_reducible refine sp1_ (N := 5) rfl ?_); refine sn9_ ?hg (N := 5) ?hd (cs := #[.int .i64 a2_0, .bool a2_1, .string a2_2, .slice A2_3 l2_3.length c2_3]) (t := 26) ?hr ?_; (case hd => rfl); (case hg => rfl); (case hr => first | (go_simp; done) | (go_simp; rfl)); intro gb344 hg w24 hbox hb; have n0_ := A0_ (sn4_ (g := gb343) (o := .cells #[.int .i64 a1_0, .bool false, .string a1_2, .slice A1_3 l1_3.length c1_3] 26 (0, 0)) (kb_ BK343.out) hb); have n1_ := A0_ (sn2_ (kw1_ HB.out GE343.out) hb); have n2_ := A0_ (hbox); have n3_ := A0_ ((by rw [hg]; exact (sn1_ (kw1_ HB.out GE343.out)) : w.heap.size ≤ gb344)); have n4_ := A0_ ((by rw [hg]; exact (sn1_ (kw1_ HB.out GE343.out)) : w.heap.size ≤ gb344)); have n5_ := A0_ ((by rw [hg]; exact sl5_ (blk_lt (g := gb343) (o := .cells #[.int .i64 a1_0, .bool false, .string a1_2, .slice A1_3 l1_3.length c1_3] 26 (0, 0)) (kb_ BK343.out)) : gb343 ≠ gb344)); have n6_ := A0_ ((by rw [hg]; exact sn8_ (blk_lt (g := gb343) (o := .cells #[.int .i64 a1_0, .bool false, .string a1_2, .slice A1_3 l1_3.length c1_3] 26 (0, 0)) (kb_ BK343.out)) : gb344 ≠ gb343)); clear BK343; clear HB; have BK343 := n0_; have HB := n1_; have BK344 := n2_; have GW344 := n3_; have GE344 := n4_; have NB343_344 := n5_; have NB344_343 := n6_; clear n0_ n1_ n2_ n3_ n4_ n5_ n6_; clear hb hbox hg; have hnb25 := NB343_344.out; have hnc25 := NB344_343.out; have hcz26_0 : w24.cell? ⟨gb343, 0, none⟩ = some (.int .i64 a1_0) := (blk_cell BK343.out 0).trans rfl; have hcz26_1 : w24.cell? ⟨gb343, 1, none⟩ = some (.bool false) := (blk_cell BK343.out 1).trans rfl; have hcz26_2 : w24.cell? ⟨gb343, 2, none⟩ = some (.string a1_2) := (blk_cell BK343.out 2).trans rfl; have hcz26_3 : w24.cell? ⟨gb343, 3, none⟩ = some (.slice A1_3 l1_3.length c1_3) := (blk_cell BK343.out 3).trans rfl; have hfz26_0 := blk_frozen BK343.out 0; have hfz26_1 := blk_frozen BK343.out 1; have hfz26_2 := blk_frozen BK343.out 2; have hfz26_3 := blk_frozen BK343.out 3; have hcz27_0 : w24.cell? ⟨gb344, 0, none⟩ = some (.int .i64 a2_0) := (blk_cell BK344.out 0).trans rfl; have hcz27_1 : w24.cell? ⟨gb344, 1, none⟩ = some (.bool a2_1) := (blk_cell BK344.out 1).trans rfl; have hcz27_2 : w24.cell? ⟨gb344, 2, none⟩ = some (.string a2_2) := (blk_cell BK344.out 2).trans rfl; have hcz27_3 : w24.cell? ⟨gb344, 3, none⟩ = some (.slice A2_3 l2_3.length c2_3) := (blk_cell BK344.out 3).trans rfl; have hfz27_0 := blk_frozen BK344.out 0; have hfz27_1 := blk_frozen BK344.out 1; have hfz27_2 := blk_frozen BK344.out 2; have hfz27_3 := blk_frozen BK344.out 3) | (go_at_call 12; (with_reducible refine (spec_SameWords.calls k _ _ l1_3 _ _ l2_3 true _ ?side1 ?side2 ?side3 ?side4 A11.out).mono ?_); (case side1 => repeat (first | exact (Kd.C_below HR1_3.out HB.out) | (with_reducible refine sp8_ ?_ _) | (with_reducible refine sp9_ ?_ _) | (with_reducible refine sq1_ ?_))); (case side2 => exact HC1_3.out); (case side3 => repeat (first | exact (Kd.C_below HR2_3.out HB.out) | (with_reducible refine sp8_ ?_ _) | (with_reducible refine sp9_ ?_ _) | (with_reducible refine sq1_ ?_))); (case side4 => exact HC2_3.out); rintro e w28 ⟨rfl, hb⟩; have n0_ := A0_ (sn4_ (g := gb343) (o := .cells #[.int .i64 a1_0, .bool false, .string a1_2, .slice A1_3 l1_3.length c1_3] 26 (0, 0)) (kb_ BK343.out) hb); have n1_ := A0_ (sn4_ (g := gb344) (o := .cells #[.int .i64 a2_0, .bool a2_1, .string a2_2, .slice A2_3 l2_3.length c2_3] 26 (0, 0)) (kb_ BK344.out) hb); have n2_ := A0_ (sn2_ (kw2_ HB.out GE343.out GE344.out) hb); clear BK343; clear BK344; clear HB; have BK343 := n0_; have BK344 := n1_; have HB := n2_; clear n0_ n1_ n2_; (try clear hb); (try clear hb2); (try clear hk); (try clear hi); have hcz29_0 : w28.cell? ⟨gb343, 0, none⟩ = some (.int .i64 a1_0) := (blk_cell BK343.out 0).trans rfl; have hcz29_1 : w28.cell? ⟨gb343, 1, none⟩ = some (.bool false) := (blk_cell BK343.out 1).trans rfl; have hcz29_2 : w28.cell? ⟨gb343, 2, none⟩ = some (.string a1_2) := (blk_cell BK343.out 2).trans rfl; have hcz29_3 : w28.cell? ⟨gb343, 3, none⟩ = some (.slice A1_3 l1_3.length c1_3) := (blk_cell BK343.out 3).trans rfl; have hfz29_0 := blk_frozen BK343.out 0; have hfz29_1 := blk_frozen BK343.out 1; have hfz29_2 := blk_frozen BK343.out 2; have hfz29_3 := blk_frozen BK343.out 3))); (go_ret); (exact ⟨by first | rfl | (simp [errW_none, errW_some] <;> rfl) | (simp [*, errW_none, errW_some] <;> rfl), by repeat (first | (with_reducible first | exact HB.out | apply sm4_ | apply sl9_ | apply sm5_ | refine sn3_ ?_ GE343.out | refine sn3_ ?_ GE344.out) | exact HB.out)⟩)
       · rw [if_neg c13] at H
         have c13b0 : (a0 == 2) = false := beq_eq_false_iff_ne.mpr c13; have c13b1 : (a0 != 2) = true := bne_iff_ne.mpr c13; obtain rfl := Option.some.inj H; (go_enter Try.func29, Try.ntmps29); (go_wp2_with (first | ((with_reducible refine sp1_ (N := 4) rfl ?_); refine sn9_ ?hg (N := 4) ?hd (cs := #[.int .i64 a1_0, .bool a1_1, .string a1_2, .slice A1_3 l1_3.length c1_3]) (t := 26) ?hr ?_; (case hd => rfl); (case hg => rfl); (case hr => first | (go_simp; done) | (go_simp; rfl)); intro gb343 hg w30 hbox hb; have n0_ := A0_ (sn2_ (kw0_ HB.out) hb); have n1_ := A0_ (hbox); have n2_ := A0_ ((by rw [hg]; exact (sn1_ (kw0_ HB.out)) : w.heap.size ≤ gb343)); have n3_ := A0_ ((by rw [hg]; exact (sn1_ (kw0_ HB.out)) : w.heap.size ≤ gb343)); clear HB; have HB := n0_; have BK343 := n1_; have GW343 := n2_; have GE343 := n3_; clear n0_ n1_ n2_ n3_; clear hb hbox hg) | ((with_reducible refine sp1_ (N := 5) rfl ?_); refine sn9_ ?hg (N := 5) ?hd (cs := #[.int .i64 a2_0, .bool a2_1, .string a2_2, .slice A2_3 l2_3.length c2_3]) (t := 26) ?hr ?_; (case hd => rfl); (case hg => rfl); (case hr => first | (go_simp; done) | (go_simp; rfl)); intro gb344 hg w31 hbox hb; have n0_ := A0_ (sn4_ (g := gb343) (o := .cells #[.int .i64 a1_0, .bool a1_1, .string a1_2, .slice A1_3 l1_3.length c1_3] 26 (0, 0)) (kb_ BK343.out) hb); have n1_ := A0_ (sn2_ (kw1_ HB.out GE343.out) hb); have n2_ := A0_ (hbox); have n3_ := A0_ ((by rw [hg]; exact (sn1_ (kw1_ HB.out GE343.out)) : w.heap.size ≤ gb344)); have n4_ := A0_ ((by rw [hg]; exact (sn1_ (kw1_ HB.out GE343.out)) : w.heap.size ≤ gb344)); have n5_ := A0_ ((by rw [hg]; exact sl5_ (blk_lt (g := gb343) (o := .cells #[.int .i64 a1_0, .bool a1_1, .string a1_2, .slice A1_3 l1_3.length c1_3] 26 (0, 0)) (kb_ BK343.out)) : gb343 ≠ gb344)); have n6_ := A0_ ((by rw [hg]; exact sn8_ (blk_lt (g := gb343) (o := .cells #[.int .i64 a1_0, .bool a1_1, .string a1_2, .slice A1_3 l1_3.length c1_3] 26 (0, 0)) (kb_ BK343.out)) : gb344 ≠ gb343)); clear BK343; clear HB; have BK343 := n0_; have HB := n1_; have BK344 := n2_; have GW344 := n3_; have GE344 := n4_; have NB343_344 := n5_; have NB344_343 := n6_; clear n0_ n1_ n2_ n3_ n4_ n5_ n6_; clear hb hbox hg; have hnb32 := NB343_344.out; have hnc32 := NB344_343.out; have hcz33_0 : w31.cell? ⟨gb343, 0, none⟩ = some (.int .i64 a1_0) := (blk_cell BK343.out 0).trans rfl; have hcz33_1 : w31.cell? ⟨gb343, 1, none⟩ = some (.bool a1_1) := (blk_cell BK343.out 1).trans rfl; have hcz33_2 : w31.cell? ⟨gb343, 2, none⟩ = some (.string a1_2) := (blk_cell BK343.out 2).trans rfl; have hcz33_3 : w31.cell? ⟨gb343, 3, none⟩ = some (.slice A1_3 l1_3.length c1_3) := (blk_cell BK343.out 3).trans rfl; have hfz33_0 := blk_frozen BK343.out 0; have hfz33_1 := blk_frozen BK343.out 1; have hfz33_2 := blk_frozen BK343.out 2; have hfz33_3 := blk_frozen BK343.out 3; have hcz34_0 : w31.cell? ⟨gb344, 0, none⟩ = some (.int .i64 a2_0) := (blk_cell BK344.out 0).trans rfl; have hcz34_1 : w31.cell? ⟨gb344, 1, none⟩ = some (.bool a2_1) := (blk_cell BK344.out 1).trans rfl; have hcz34_2 : w31.cell? ⟨gb344, 2, none⟩ = some (.string a2_2) := (blk_cell BK344.out 2).trans rfl; have hcz34_3 : w31.cell? ⟨gb344, 3, none⟩ = some (.slice A2_3 l2_3.length c2_3) := (blk_cell BK344.out 3).trans rfl; have hfz34_0 := blk_frozen BK344.out 0; have hfz34_1 := blk_frozen BK344.out 1; have hfz34_2 := blk_frozen BK344.out 2; have hfz34_3 := blk_frozen BK344.out 3) | (go_at_call 12; (with_reducible refine (spec_SameWords.calls k _ _ l1_3 _ _ l2_3 true _ ?side1 ?side2 ?side3 ?side4 A11.out).mono ?_); (case side1 => repeat (first | exact (Kd.C_below HR1_3.out HB.out) | (with_reducible refine sp8_ ?_ _) | (with_reducible refine sp9_ ?_ _) | (with_reducible refine sq1_ ?_))); (case side2 => exact HC1_3.out); (case side3 => repeat (first | exact (Kd.C_below HR2_3.out HB.out) | (with_reducible refine sp8_ ?_ _) | (with_reducible refine sp9_ ?_ _) | (with_reducible refine sq1_ ?_))); (case side4 => exact HC2_3.out); rintro e w35 ⟨rfl, hb⟩; have n0_ := A0_ (sn4_ (g := gb343) (o := .cells #[.int .i64 a1_0, .bool a1_1, .string a1_2, .slice A1_3 l1_3.length c1_3] 26 (0, 0)) (kb_ BK343.out) hb); have n1_ := A0_ (sn4_ (g := gb344) (o := .cells #[.int .i64 a2_0, .bool a2_1, .string a2_2, .slice A2_3 l2_3.length c2_3] 26 (0, 0)) (kb_ BK344.out) hb); have n2_ := A0_ (sn2_ (kw2_ HB.out GE343.out GE344.out) hb); clear BK343; clear BK344; clear HB; have BK343 := n0_; have BK344 := n1_; have HB := n2_; clear n0_ n1_ n2_; (try clear hb); (try clear hb2); (try clear hk); (try clear hi); have hcz36_0 : w35.cell? ⟨gb343, 0, none⟩ = some (.int .i64 a1_0) := (blk_cell BK343.out 0).trans rfl; have hcz36_1 : w35.cell? ⟨gb343, 1, none⟩ = some (.bool a1_1) := (blk_cell BK343.out 1).trans rfl; have hcz36_2 : w35.cell? ⟨gb343, 2, none⟩ = some (.string a1_2) := (blk_cell BK343.out 2).trans rfl; have hcz36_3 : w35.cell? ⟨gb343, 3, none⟩ = some (.slice A1_3 l1_3.length c1_3) := (blk_cell BK343.out 3).trans rfl; have hfz36_0 := blk_frozen BK343.out 0; have hfz36_1 := blk_frozen BK343.out 1; have hfz36_2 := blk_frozen BK343.out 2; have hfz36_3 := blk_frozen BK343.out 3; have hcz37_0 : w35.cell? ⟨gb344, 0, none⟩ = some (.int .i64 a2_0) := (blk_cell BK344.out 0).trans rfl; have hcz37_1 : w35.cell? ⟨gb344, 1, none⟩ = some (.bool a2_1) := (blk_cell BK344.out 1).trans rfl; have hcz37_2 : w35.cell? ⟨gb344, 2, none⟩ = some (.string a2_2) := (blk_cell BK344.out 2).trans rfl; have hcz37_3 : w35.cell? ⟨gb344, 3, none⟩ = some (.slice A2_3 l2_3.length c2_3) := (blk_cell BK344.out 3).trans rfl; have hfz37_0 := blk_frozen BK344.out 0; have hfz37_1 := blk_frozen BK344.out 1; have hfz37_2 := blk_frozen BK344.out 2; have hfz37_3 := blk_frozen BK344.out 3))); (go_ret); (exact ⟨by first | rfl | (simp [errW_none, errW_some] <;> rfl) | (simp [*, errW_none, errW_some] <;> rfl), by repeat (first | (with_reducible first | exact HB.out | apply sm4_ | apply sl9_ | apply sm5_ | refine sn3_ ?_ GE343.out | refine sn3_ ?_ GE344.out) | exact HB.out)⟩)
     · replace c12 := Bool.eq_false_iff.mpr c12
       subst c12; (have H1 : (some false) = some r := by rw [if_neg (show ¬ (false = true) by decide)] at H; exact H); clear H; have H := H1; clear H1; obtain rfl := Option.some.inj H; (go_enter Try.func29, Try.ntmps29); (go_wp2_with (first | ((with_reducible refine sp1_ (N := 4) rfl ?_); refine sn9_ ?hg (N := 4) ?hd (cs := #[.int .i64 a1_0, .bool a1_1, .string a1_2, .slice A1_3 l1_3.length c1_3]) (t := 26) ?hr ?_; (case hd => rfl); (case hg => rfl); (case hr => first | (go_simp; done) | (go_simp; rfl)); intro gb343 hg w38 hbox hb; have n0_ := A0_ (sn2_ (kw0_ HB.out) hb); have n1_ := A0_ (hbox); have n2_ := A0_ ((by rw [hg]; exact (sn1_ (kw0_ HB.out)) : w.heap.size ≤ gb343)); have n3_ := A0_ ((by rw [hg]; exact (sn1_ (kw0_ HB.out)) : w.heap.size ≤ gb343)); clear HB; have HB := n0_; have BK343 := n1_; have GW343 := n2_; have GE343 := n3_; clear n0_ n1_ n2_ n3_; clear hb hbox hg) | ((with_reducible refine sp1_ (N := 5) rfl ?_); refine sn9_ ?hg (N := 5) ?hd (cs := #[.int .i64 a2_0, .bool a2_1, .string a2_2, .slice A2_3 l2_3.length c2_3]) (t := 26) ?hr ?_; (case hd => rfl); (case hg => rfl); (case hr => first | (go_simp; done) | (go_simp; rfl)); intro gb344 hg w39 hbox hb; have n0_ := A0_ (sn4_ (g := gb343) (o := .cells #[.int .i64 a1_0, .bool a1_1, .string a1_2, .slice A1_3 l1_3.length c1_3] 26 (0, 0)) (kb_ BK343.out) hb); have n1_ := A0_ (sn2_ (kw1_ HB.out GE343.out) hb); have n2_ := A0_ (hbox); have n3_ := A0_ ((by rw [hg]; exact (sn1_ (kw1_ HB.out GE343.out)) : w.heap.size ≤ gb344)); have n4_ := A0_ ((by rw [hg]; exact (sn1_ (kw1_ HB.out GE343.out)) : w.heap.size ≤ gb344)); have n5_ := A0_ ((by rw [hg]; exact sl5_ (blk_lt (g := gb343) (o := .cells #[.int .i64 a1_0, .bool a1_1, .string a1_2, .slice A1_3 l1_3.length c1_3] 26 (0, 0)) (kb_ BK343.out)) : gb343 ≠ gb344)); have n6_ := A0_ ((by rw [hg]; exact sn8_ (blk_lt (g := gb343) (o := .cells #[.int .i64 a1_0, .bool a1_1, .string a1_2, .slice A1_3 l1_3.length c1_3] 26 (0, 0)) (kb_ BK343.out)) : gb344 ≠ gb343)); clear BK343; clear HB; have BK343 := n0_; have HB := n1_; have BK344 := n2_; have GW344 := n3_; have GE344 := n4_; have NB343_344 := n5_; have NB344_343 := n6_; clear n0_ n1_ n2_ n3_ n4_ n5_ n6_; clear hb hbox hg; have hnb40 := NB343_344.out; have hnc40 := NB344_343.out; have hcz41_0 : w39.cell? ⟨gb343, 0, none⟩ = some (.int .i64 a1_0) := (blk_cell BK343.out 0).trans rfl; have hcz41_1 : w39.cell? ⟨gb343, 1, none⟩ = some (.bool a1_1) := (blk_cell BK343.out 1).trans rfl; have hcz41_2 : w39.cell? ⟨gb343, 2, none⟩ = some (.string a1_2) := (blk_cell BK343.out 2).trans rfl; have hcz41_3 : w39.cell? ⟨gb343, 3, none⟩ = some (.slice A1_3 l1_3.length c1_3) := (blk_cell BK343.out 3).trans rfl; have hfz41_0 := blk_frozen BK343.out 0; have hfz41_1 := blk_frozen BK343.out 1; have hfz41_2 := blk_frozen BK343.out 2; have hfz41_3 := blk_frozen BK343.out 3; have hcz42_0 : w39.cell? ⟨gb344, 0, none⟩ = some (.int .i64 a2_0) := (blk_cell BK344.out 0).trans rfl; have hcz42_1 : w39.cell? ⟨gb344, 1, none⟩ = some (.bool a2_1) := (blk_cell BK344.out 1).trans rfl; have hcz42_2 : w39.cell? ⟨gb344, 2, none⟩ = some (.string a2_2) := (blk_cell BK344.out 2).trans rfl; have hcz42_3 : w39.cell? ⟨gb344, 3, none⟩ = some (.slice A2_3 l2_3.length c2_3) := (blk_cell BK344.out 3).trans rfl; have hfz42_0 := blk_frozen BK344.out 0; have hfz42_1 := blk_frozen BK344.out 1; have hfz42_2 := blk_frozen BK344.out 2; have hfz42_3 := blk_frozen BK344.out 3) | (go_at_call 12; (with_reducible refine (spec_SameWords.calls k _ _ l1_3 _ _ l2_3 false _ ?side1 ?side2 ?side3 ?side4 A11.out).mono ?_); (case side1 => repeat (first | exact (Kd.C_below HR1_3.out HB.out) | (with_reducible refine sp8_ ?_ _) | (with_reducible refine sp9_ ?_ _) | (with_reducible refine sq1_ ?_))); (case side2 => exact HC1_3.out); (case side3 => repeat (first | exact (Kd.C_below HR2_3.out HB.out) | (with_reducible refine sp8_ ?_ _) | (with_reducible refine sp9_ ?_ _) | (with_reducible refine sq1_ ?_))); (case side4 => exact HC2_3.out); rintro e w43 ⟨rfl, hb⟩; have n0_ := A0_ (sn4_ (g := gb343) (o := .cells #[.int .i64 a1_0, .bool a1_1, .string a1_2, .slice A1_3 l1_3.length c1_3] 26 (0, 0)) (kb_ BK343.out) hb); have n1_ := A0_ (sn4_ (g := gb344) (o := .cells #[.int .i64 a2_0, .bool a2_1, .string a2_2, .slice A2_3 l2_3.length c2_3] 26 (0, 0)) (kb_ BK344.out) hb); have n2_ := A0_ (sn2_ (kw2_ HB.out GE343.out GE344.out) hb); clear BK343; clear BK344; clear HB; have BK343 := n0_; have BK344 := n1_; have HB := n2_; clear n0_ n1_ n2_; (try clear hb); (try clear hb2); (try clear hk); (try clear hi)))); (go_ret); (exact ⟨by first | rfl | (simp [errW_none, errW_some] <;> rfl) | (simp [*, errW_none, errW_some] <;> rfl), by repeat (first | (with_reducible first | exact HB.out | apply sm4_ | apply sl9_ | apply sm5_ | refine sn3_ ?_ GE343.out | refine sn3_ ?_ GE344.out) | exact HB.out)⟩)
   · rw [if_neg c10] at H
     have c10b0 : (a1_2.toList == a2_2.toList) = false := beq_eq_false_iff_ne.mpr c10; have c10b1 : (a1_2.toList != a2_2.toList) = true := bne_iff_ne.mpr c10; obtain rfl := Option.some.inj H; (go_enter Try.func29, Try.ntmps29); (go_wp2_with (first | ((with_reducible refine sp1_ (N := 4) rfl ?_); refine sn9_ ?hg (N := 4) ?hd (cs := #[.int .i64 a1_0, .bool a1_1, .string a1_2, .slice A1_3 l1_3.length c1_3]) (t := 26) ?hr ?_; (case hd => rfl); (case hg => rfl); (case hr => first | (go_simp; done) | (go_simp; rfl)); intro gb343 hg w44 hbox hb; have n0_ := A0_ (sn2_ (kw0_ HB.out) hb); have n1_ := A0_ (hbox); have n2_ := A0_ ((by rw [hg]; exact (sn1_ (kw0_ HB.out)) : w.heap.size ≤ gb343)); have n3_ := A0_ ((by rw [hg]; exact (sn1_ (kw0_ HB.out)) : w.heap.size ≤ gb343)); clear HB; have HB := n0_; have BK343 := n1_; have GW343 := n2_; have GE343 := n3_; clear n0_ n1_ n2_ n3_; clear hb hbox hg) | ((with_reducible refine sp1_ (N := 5) rfl ?_); refine sn9_ ?hg (N := 5) ?hd (cs := #[.int .i64 a2_0, .bool a2_1, .string a2_2, .slice A2_3 l2_3.length c2_3]) (t := 26) ?hr ?_; (case hd => rfl); (case hg => rfl); (case hr => first | (go_simp; done) | (go_simp; rfl)); intro gb344 hg w45 hbox hb; have n0_ := A0_ (sn4_ (g := gb343) (o := .cells #[.int .i64 a1_0, .bool a1_1, .string a1_2, .slice A1_3 l1_3.length c1_3] 26 (0, 0)) (kb_ BK343.out) hb); have n1_ := A0_ (sn2_ (kw1_ HB.out GE343.out) hb); have n2_ := A0_ (hbox); have n3_ := A0_ ((by rw [hg]; exact (sn1_ (kw1_ HB.out GE343.out)) : w.heap.size ≤ gb344)); have n4_ := A0_ ((by rw [hg]; exact (sn1_ (kw1_ HB.out GE343.out)) : w.heap.size ≤ gb344)); have n5_ := A0_ ((by rw [hg]; exact sl5_ (blk_lt (g := gb343) (o := .cells #[.int .i64 a1_0, .bool a1_1, .string a1_2, .slice A1_3 l1_3.length c1_3] 26 (0, 0)) (kb_ BK343.out)) : gb343 ≠ gb344)); have n6_ := A0_ ((by rw [hg]; exact sn8_ (blk_lt (g := gb343) (o := .cells #[.int .i64 a1_0, .bool a1_1, .string a1_2, .slice A1_3 l1_3.length c1_3] 26 (0, 0)) (kb_ BK343.out)) : gb344 ≠ gb343)); clear BK343; clear HB; have BK343 := n0_; have HB := n1_; have BK344 := n2_; have GW344 := n3_; have GE344 := n4_; have NB343_344 := n5_; have NB344_343 := n6_; clear n0_ n1_ n2_ n3_ n4_ n5_ n6_; clear hb hbox hg; have hnb46 := NB343_344.out; have hnc46 := NB344_343.out; have hcz47_0 : w45.cell? ⟨gb343, 0, none⟩ = some (.int .i64 a1_0) := (blk_cell BK343.out 0).trans rfl; have hcz47_1 : w45.cell? ⟨gb343, 1, none⟩ = some (.bool a1_1) := (blk_cell BK343.out 1).trans rfl; have hcz47_2 : w45.cell? ⟨gb343, 2, none⟩ = some (.string a1_2) := (blk_cell BK343.out 2).trans rfl; have hcz47_3 : w45.cell? ⟨gb343, 3, none⟩ = some (.slice A1_3 l1_3.length c1_3) := (blk_cell BK343.out 3).trans rfl; have hfz47_0 := blk_frozen BK343.out 0; have hfz47_1 := blk_frozen BK343.out 1; have hfz47_2 := blk_frozen BK343.out 2; have hfz47_3 := blk_frozen BK343.out 3; have hcz48_0 : w45.cell? ⟨gb344, 0, none⟩ = some (.int .i64 a2_0) := (blk_cell BK344.out 0).trans rfl; have hcz48_1 : w45.cell? ⟨gb344, 1, none⟩ = some (.bool a2_1) := (blk_cell BK344.out 1).trans rfl; have hcz48_2 : w45.cell? ⟨gb344, 2, none⟩ = some (.string a2_2) := (blk_cell BK344.out 2).trans rfl; have hcz48_3 : w45.cell? ⟨gb344, 3, none⟩ = some (.slice A2_3 l2_3.length c2_3) := (blk_cell BK344.out 3).trans rfl; have hfz48_0 := blk_frozen BK344.out 0; have hfz48_1 := blk_frozen BK344.out 1; have hfz48_2 := blk_frozen BK344.out 2; have hfz48_3 := blk_frozen BK344.out 3))); (go_ret); (exact ⟨by first | rfl | (simp [errW_none, errW_some] <;> rfl) | (simp [*, errW_none, errW_some] <;> rfl), by repeat (first | (with_reducible first | exact HB.out | apply sm4_ | apply sl9_ | apply sm5_ | refine sn3_ ?_ GE343.out | refine sn3_ ?_ GE344.out) | exact HB.out)⟩)
def laws_wordSame.f (k : Nat) (a0 : Int) (a1_0 : Int) (a1_1 : Bool) (a1_2 : ByteArray) (l1_3 : List ByteArray) (a2_0 : Int) (a2_1 : Bool) (a2_2 : ByteArray) (l2_3 : List ByteArray) (a3 : Bool) : Option (Bool) := if a0 = 7 then (if a3 = true then ((spec_SameSays.f k a0 a1_0 a1_1 a1_2 l1_3 a2_0 a2_1 a2_2 l2_3).bind fun t348 => (some t348)) else (some true)) else ((spec_SameSays.f k a0 a1_0 a1_1 a1_2 l1_3 a2_0 a2_1 a2_2 l2_3).bind fun t349 => (some t349))
set_option maxHeartbeats 8000000 in
set_option maxRecDepth 100000 in
theorem laws_wordSame.calls (k : Nat) (a0 : Int) (a1_0 : Int) (a1_1 : Bool) (a1_2 : ByteArray) (A1_3 : Option Addr) (c1_3 : Nat) (l1_3 : List ByteArray) (a2_0 : Int) (a2_1 : Bool) (a2_2 : ByteArray) (A2_3 : Option Addr) (c2_3 : Nat) (l2_3 : List ByteArray) (a3 : Bool) (r : Bool) (w : World) (hr1_3 : Kd.C Kd.string w A1_3 l1_3.length l1_3) (hc1_3 : l1_3.length ≤ c1_3) (hr2_3 : Kd.C Kd.string w A2_3 l2_3.length l2_3) (hc2_3 : l2_3.length ≤ c2_3) (h : laws_wordSame.f k a0 a1_0 a1_1 a1_2 l1_3 a2_0 a2_1 a2_2 l2_3 a3 = some r) :
 Calls Try.prog 16 #[.int .i64 a0, .agg #[.int .i64 a1_0, .bool a1_1, .string a1_2, .slice A1_3 l1_3.length c1_3], .agg #[.int .i64 a2_0, .bool a2_1, .string a2_2, .slice A2_3 l2_3.length c2_3], .bool a3] w fun e w' => e = .returned (.bool r) ∧ Below w.heap.size w w' := by
 have hu26 := Try.underlying26
 have HR1_3 := A0_ hr1_3
 have HC1_3 := A0_ hc1_3
 clear hr1_3 hc1_3
 have HR2_3 := A0_ hr2_3
 have HC2_3 := A0_ hc2_3
 clear hr2_3 hc2_3
 have HB := A0_ (Below.refl w.heap.size w)
 have H : (if a0 = 7 then (if a3 = true then ((spec_SameSays.f k a0 a1_0 a1_1 a1_2 l1_3 a2_0 a2_1 a2_2 l2_3).bind fun t348 => (some t348)) else (some true)) else ((spec_SameSays.f k a0 a1_0 a1_1 a1_2 l1_3 a2_0 a2_1 a2_2 l2_3).bind fun t349 => (some t349))) = some r := h
 clear h
 by_cases c5 : a0 = 7
 · rw [if_pos c5] at H
   have c5b0 : (a0 == 7) = true := beq_iff_eq.mpr c5; have c5b1 : (a0 != 7) = false := bne_eq_false_iff_eq.mpr c5; clear c5; (by_cases c6 : a3 = true)
   · subst c6
     (have H1 : ((spec_SameSays.f k a0 a1_0 a1_1 a1_2 l1_3 a2_0 a2_1 a2_2 l2_3).bind fun t348 => (some t348)) = some r := by rw [if_pos rfl] at H; exact H); clear H; have H := H1; clear H1; replace H := Option.bind_eq_some_iff.mp H; obtain ⟨t348, A70, H⟩ := H; replace H : (some t348) = some r := H; have A7 := A0_ A70; clear A70; obtain rfl := Option.some.inj H; (go_enter Try.func16, Try.ntmps16); (go_wp2_with (first | ((with_reducible refine sp1_ (N := 5) rfl ?_); refine sn9_ ?hg (N := 5) ?hd (cs := #[.int .i64 a1_0, .bool a1_1, .string a1_2, .slice A1_3 l1_3.length c1_3]) (t := 26) ?hr ?_; (case hd => rfl); (case hg => rfl); (case hr => first | (go_simp; done) | (go_simp; rfl)); intro gb346 hg w8 hbox hb; have n0_ := A0_ (sn2_ (kw0_ HB.out) hb); have n1_ := A0_ (hbox); have n2_ := A0_ ((by rw [hg]; exact (sn1_ (kw0_ HB.out)) : w.heap.size ≤ gb346)); have n3_ := A0_ ((by rw [hg]; exact (sn1_ (kw0_ HB.out)) : w.heap.size ≤ gb346)); clear HB; have HB := n0_; have BK346 := n1_; have GW346 := n2_; have GE346 := n3_; clear n0_ n1_ n2_ n3_; clear hb hbox hg) | ((with_reducible refine sp1_ (N := 6) rfl ?_); refine sn9_ ?hg (N := 6) ?hd (cs := #[.int .i64 a2_0, .bool a2_1, .string a2_2, .slice A2_3 l2_3.length c2_3]) (t := 26) ?hr ?_; (case hd => rfl); (case hg => rfl); (case hr => first | (go_simp; done) | (go_simp; rfl)); intro gb347 hg w9 hbox hb; have n0_ := A0_ (sn4_ (g := gb346) (o := .cells #[.int .i64 a1_0, .bool a1_1, .string a1_2, .slice A1_3 l1_3.length c1_3] 26 (0, 0)) (kb_ BK346.out) hb); have n1_ := A0_ (sn2_ (kw1_ HB.out GE346.out) hb); have n2_ := A0_ (hbox); have n3_ := A0_ ((by rw [hg]; exact (sn1_ (kw1_ HB.out GE346.out)) : w.heap.size ≤ gb347)); have n4_ := A0_ ((by rw [hg]; exact (sn1_ (kw1_ HB.out GE346.out)) : w.heap.size ≤ gb347)); have n5_ := A0_ ((by rw [hg]; exact sl5_ (blk_lt (g := gb346) (o := .cells #[.int .i64 a1_0, .bool a1_1, .string a1_2, .slice A1_3 l1_3.length c1_3] 26 (0, 0)) (kb_ BK346.out)) : gb346 ≠ gb347)); have n6_ := A0_ ((by rw [hg]; exact sn8_ (blk_lt (g := gb346) (o := .cells #[.int .i64 a1_0, .bool a1_1, .string a1_2, .slice A1_3 l1_3.length c1_3] 26 (0, 0)) (kb_ BK346.out)) : gb347 ≠ gb346)); clear BK346; clear HB; have BK346 := n0_; have HB := n1_; have BK347 := n2_; have GW347 := n3_; have GE347 := n4_; have NB346_347 := n5_; have NB347_346 := n6_; clear n0_ n1_ n2_ n3_ n4_ n5_ n6_; clear hb hbox hg; have hnb10 := NB346_347.out; have hnc10 := NB347_346.out; have hcz11_0 : w9.cell? ⟨gb346, 0, none⟩ = some (.int .i64 a1_0) := (blk_cell BK346.out 0).trans rfl; have hcz11_1 : w9.cell? ⟨gb346, 1, none⟩ = some (.bool a1_1) := (blk_cell BK346.out 1).trans rfl; have hcz11_2 : w9.cell? ⟨gb346, 2, none⟩ = some (.string a1_2) := (blk_cell BK346.out 2).trans rfl; have hcz11_3 : w9.cell? ⟨gb346, 3, none⟩ = some (.slice A1_3 l1_3.length c1_3) := (blk_cell BK346.out 3).trans rfl; have hfz11_0 := blk_frozen BK346.out 0; have hfz11_1 := blk_frozen BK346.out 1; have hfz11_2 := blk_frozen BK346.out 2; have hfz11_3 := blk_frozen BK346.out 3; have hcz12_0 : w9.cell? ⟨gb347, 0, none⟩ = some (.int .i64 a2_0) := (blk_cell BK347.out 0).trans rfl; have hcz12_1 : w9.cell? ⟨gb347, 1, none⟩ = some (.bool a2_1) := (blk_cell BK347.out 1).trans rfl; have hcz12_2 : w9.cell? ⟨gb347, 2, none⟩ = some (.string a2_2) := (blk_cell BK347.out 2).trans rfl; have hcz12_3 : w9.cell? ⟨gb347, 3, none⟩ = some (.slice A2_3 l2_3.length c2_3) := (blk_cell BK347.out 3).trans rfl; have hfz12_0 := blk_frozen BK347.out 0; have hfz12_1 := blk_frozen BK347.out 1; have hfz12_2 := blk_frozen BK347.out 2; have hfz12_3 := blk_frozen BK347.out 3) | (go_at_call 29; (with_reducible refine (spec_SameSays.calls k a0 a1_0 a1_1 a1_2 _ _ l1_3 a2_0 a2_1 a2_2 _ _ l2_3 t348 _ ?side1 ?side2 ?side3 ?side4 A7.out).mono ?_); (case side1 => repeat (first | exact (Kd.C_below HR1_3.out HB.out) | (with_reducible refine sp8_ ?_ _) | (with_reducible refine sp9_ ?_ _) | (with_reducible refine sq1_ ?_))); (case side2 => exact HC1_3.out); (case side3 => repeat (first | exact (Kd.C_below HR2_3.out HB.out) | (with_reducible refine sp8_ ?_ _) | (with_reducible refine sp9_ ?_ _) | (with_reducible refine sq1_ ?_))); (case side4 => exact HC2_3.out); rintro e w13 ⟨rfl, hb⟩; have n0_ := A0_ (sn4_ (g := gb346) (o := .cells #[.int .i64 a1_0, .bool a1_1, .string a1_2, .slice A1_3 l1_3.length c1_3] 26 (0, 0)) (kb_ BK346.out) hb); have n1_ := A0_ (sn4_ (g := gb347) (o := .cells #[.int .i64 a2_0, .bool a2_1, .string a2_2, .slice A2_3 l2_3.length c2_3] 26 (0, 0)) (kb_ BK347.out) hb); have n2_ := A0_ (sn2_ (kw2_ HB.out GE346.out GE347.out) hb); clear BK346; clear BK347; clear HB; have BK346 := n0_; have BK347 := n1_; have HB := n2_; clear n0_ n1_ n2_; (try clear hb); (try clear hb2); (try clear hk); (try clear hi)))); (go_ret); (exact ⟨by first | rfl | (simp [errW_none, errW_some] <;> rfl) | (simp [*, errW_none, errW_some] <;> rfl), by repeat (first | (with_reducible first | exact HB.out | apply sm4_ | apply sl9_ | apply sm5_ | refine sn3_ ?_ GE346.out | refine sn3_ ?_ GE347.out) | exact HB.out)⟩)
   · replace c6 := Bool.eq_false_iff.mpr c6
     subst c6; (have H1 : (some true) = some r := by rw [if_neg (show ¬ (false = true) by decide)] at H; exact H); clear H; have H := H1; clear H1; obtain rfl := Option.some.inj H; (go_enter Try.func16, Try.ntmps16); (go_wp2_with (first | ((with_reducible refine sp1_ (N := 5) rfl ?_); refine sn9_ ?hg (N := 5) ?hd (cs := #[.int .i64 a1_0, .bool a1_1, .string a1_2, .slice A1_3 l1_3.length c1_3]) (t := 26) ?hr ?_; (case hd => rfl); (case hg => rfl); (case hr => first | (go_simp; done) | (go_simp; rfl)); intro gb346 hg w14 hbox hb; have n0_ := A0_ (sn2_ (kw0_ HB.out) hb); have n1_ := A0_ (hbox); have n2_ := A0_ ((by rw [hg]; exact (sn1_ (kw0_ HB.out)) : w.heap.size ≤ gb346)); have n3_ := A0_ ((by rw [hg]; exact (sn1_ (kw0_ HB.out)) : w.heap.size ≤ gb346)); clear HB; have HB := n0_; have BK346 := n1_; have GW346 := n2_; have GE346 := n3_; clear n0_ n1_ n2_ n3_; clear hb hbox hg) | ((with_reducible refine sp1_ (N := 6) rfl ?_); refine sn9_ ?hg (N := 6) ?hd (cs := #[.int .i64 a2_0, .bool a2_1, .string a2_2, .slice A2_3 l2_3.length c2_3]) (t := 26) ?hr ?_; (case hd => rfl); (case hg => rfl); (case hr => first | (go_simp; done) | (go_simp; rfl)); intro gb347 hg w15 hbox hb; have n0_ := A0_ (sn4_ (g := gb346) (o := .cells #[.int .i64 a1_0, .bool a1_1, .string a1_2, .slice A1_3 l1_3.length c1_3] 26 (0, 0)) (kb_ BK346.out) hb); have n1_ := A0_ (sn2_ (kw1_ HB.out GE346.out) hb); have n2_ := A0_ (hbox); have n3_ := A0_ ((by rw [hg]; exact (sn1_ (kw1_ HB.out GE346.out)) : w.heap.size ≤ gb347)); have n4_ := A0_ ((by rw [hg]; exact (sn1_ (kw1_ HB.out GE346.out)) : w.heap.size ≤ gb347)); have n5_ := A0_ ((by rw [hg]; exact sl5_ (blk_lt (g := gb346) (o := .cells #[.int .i64 a1_0, .bool a1_1, .string a1_2, .slice A1_3 l1_3.length c1_3] 26 (0, 0)) (kb_ BK346.out)) : gb346 ≠ gb347)); have n6_ := A0_ ((by rw [hg]; exact sn8_ (blk_lt (g := gb346) (o := .cells #[.int .i64 a1_0, .bool a1_1, .string a1_2, .slice A1_3 l1_3.length c1_3] 26 (0, 0)) (kb_ BK346.out)) : gb347 ≠ gb346)); clear BK346; clear HB; have BK346 := n0_; have HB := n1_; have BK347 := n2_; have GW347 := n3_; have GE347 := n4_; have NB346_347 := n5_; have NB347_346 := n6_; clear n0_ n1_ n2_ n3_ n4_ n5_ n6_; clear hb hbox hg))); (go_ret); (exact ⟨by first | rfl | (simp [errW_none, errW_some] <;> rfl) | (simp [*, errW_none, errW_some] <;> rfl), by repeat (first | (with_reducible first | exact HB.out | apply sm4_ | apply sl9_ | apply sm5_ | refine sn3_ ?_ GE346.out | refine sn3_ ?_ GE347.out) | exact HB.out)⟩)
 · rw [if_neg c5] at H
   have c5b0 : (a0 == 7) = false := beq_eq_false_iff_ne.mpr c5; have c5b1 : (a0 != 7) = true := bne_iff_ne.mpr c5; replace H := Option.bind_eq_some_iff.mp H; obtain ⟨t349, A160, H⟩ := H; replace H : (some t349) = some r := H; have A16 := A0_ A160; clear A160; obtain rfl := Option.some.inj H; (go_enter Try.func16, Try.ntmps16); (go_wp2_with (first | ((with_reducible refine sp1_ (N := 5) rfl ?_); refine sn9_ ?hg (N := 5) ?hd (cs := #[.int .i64 a1_0, .bool a1_1, .string a1_2, .slice A1_3 l1_3.length c1_3]) (t := 26) ?hr ?_; (case hd => rfl); (case hg => rfl); (case hr => first | (go_simp; done) | (go_simp; rfl)); intro gb346 hg w17 hbox hb; have n0_ := A0_ (sn2_ (kw0_ HB.out) hb); have n1_ := A0_ (hbox); have n2_ := A0_ ((by rw [hg]; exact (sn1_ (kw0_ HB.out)) : w.heap.size ≤ gb346)); have n3_ := A0_ ((by rw [hg]; exact (sn1_ (kw0_ HB.out)) : w.heap.size ≤ gb346)); clear HB; have HB := n0_; have BK346 := n1_; have GW346 := n2_; have GE346 := n3_; clear n0_ n1_ n2_ n3_; clear hb hbox hg) | ((with_reducible refine sp1_ (N := 6) rfl ?_); refine sn9_ ?hg (N := 6) ?hd (cs := #[.int .i64 a2_0, .bool a2_1, .string a2_2, .slice A2_3 l2_3.length c2_3]) (t := 26) ?hr ?_; (case hd => rfl); (case hg => rfl); (case hr => first | (go_simp; done) | (go_simp; rfl)); intro gb347 hg w18 hbox hb; have n0_ := A0_ (sn4_ (g := gb346) (o := .cells #[.int .i64 a1_0, .bool a1_1, .string a1_2, .slice A1_3 l1_3.length c1_3] 26 (0, 0)) (kb_ BK346.out) hb); have n1_ := A0_ (sn2_ (kw1_ HB.out GE346.out) hb); have n2_ := A0_ (hbox); have n3_ := A0_ ((by rw [hg]; exact (sn1_ (kw1_ HB.out GE346.out)) : w.heap.size ≤ gb347)); have n4_ := A0_ ((by rw [hg]; exact (sn1_ (kw1_ HB.out GE346.out)) : w.heap.size ≤ gb347)); have n5_ := A0_ ((by rw [hg]; exact sl5_ (blk_lt (g := gb346) (o := .cells #[.int .i64 a1_0, .bool a1_1, .string a1_2, .slice A1_3 l1_3.length c1_3] 26 (0, 0)) (kb_ BK346.out)) : gb346 ≠ gb347)); have n6_ := A0_ ((by rw [hg]; exact sn8_ (blk_lt (g := gb346) (o := .cells #[.int .i64 a1_0, .bool a1_1, .string a1_2, .slice A1_3 l1_3.length c1_3] 26 (0, 0)) (kb_ BK346.out)) : gb347 ≠ gb346)); clear BK346; clear HB; have BK346 := n0_; have HB := n1_; have BK347 := n2_; have GW347 := n3_; have GE347 := n4_; have NB346_347 := n5_; have NB347_346 := n6_; clear n0_ n1_ n2_ n3_ n4_ n5_ n6_; clear hb hbox hg; have hnb19 := NB346_347.out; have hnc19 := NB347_346.out; have hcz20_0 : w18.cell? ⟨gb346, 0, none⟩ = some (.int .i64 a1_0) := (blk_cell BK346.out 0).trans rfl; have hcz20_1 : w18.cell? ⟨gb346, 1, none⟩ = some (.bool a1_1) := (blk_cell BK346.out 1).trans rfl; have hcz20_2 : w18.cell? ⟨gb346, 2, none⟩ = some (.string a1_2) := (blk_cell BK346.out 2).trans rfl; have hcz20_3 : w18.cell? ⟨gb346, 3, none⟩ = some (.slice A1_3 l1_3.length c1_3) := (blk_cell BK346.out 3).trans rfl; have hfz20_0 := blk_frozen BK346.out 0; have hfz20_1 := blk_frozen BK346.out 1; have hfz20_2 := blk_frozen BK346.out 2; have hfz20_3 := blk_frozen BK346.out 3; have hcz21_0 : w18.cell? ⟨gb347, 0, none⟩ = some (.int .i64 a2_0) := (blk_cell BK347.out 0).trans rfl; have hcz21_1 : w18.cell? ⟨gb347, 1, none⟩ = some (.bool a2_1) := (blk_cell BK347.out 1).trans rfl; have hcz21_2 : w18.cell? ⟨gb347, 2, none⟩ = some (.string a2_2) := (blk_cell BK347.out 2).trans rfl; have hcz21_3 : w18.cell? ⟨gb347, 3, none⟩ = some (.slice A2_3 l2_3.length c2_3) := (blk_cell BK347.out 3).trans rfl; have hfz21_0 := blk_frozen BK347.out 0; have hfz21_1 := blk_frozen BK347.out 1; have hfz21_2 := blk_frozen BK347.out 2; have hfz21_3 := blk_frozen BK347.out 3) | (go_at_call 29; (with_reducible refine (spec_SameSays.calls k a0 a1_0 a1_1 a1_2 _ _ l1_3 a2_0 a2_1 a2_2 _ _ l2_3 t349 _ ?side1 ?side2 ?side3 ?side4 A16.out).mono ?_); (case side1 => repeat (first | exact (Kd.C_below HR1_3.out HB.out) | (with_reducible refine sp8_ ?_ _) | (with_reducible refine sp9_ ?_ _) | (with_reducible refine sq1_ ?_))); (case side2 => exact HC1_3.out); (case side3 => repeat (first | exact (Kd.C_below HR2_3.out HB.out) | (with_reducible refine sp8_ ?_ _) | (with_reducible refine sp9_ ?_ _) | (with_reducible refine sq1_ ?_))); (case side4 => exact HC2_3.out); rintro e w22 ⟨rfl, hb⟩; have n0_ := A0_ (sn4_ (g := gb346) (o := .cells #[.int .i64 a1_0, .bool a1_1, .string a1_2, .slice A1_3 l1_3.length c1_3] 26 (0, 0)) (kb_ BK346.out) hb); have n1_ := A0_ (sn4_ (g := gb347) (o := .cells #[.int .i64 a2_0, .bool a2_1, .string a2_2, .slice A2_3 l2_3.length c2_3] 26 (0, 0)) (kb_ BK347.out) hb); have n2_ := A0_ (sn2_ (kw2_ HB.out GE346.out GE347.out) hb); clear BK346; clear BK347; clear HB; have BK346 := n0_; have BK347 := n1_; have HB := n2_; clear n0_ n1_ n2_; (try clear hb); (try clear hb2); (try clear hk); (try clear hi)))); (go_ret); (exact ⟨by first | rfl | (simp [errW_none, errW_some] <;> rfl) | (simp [*, errW_none, errW_some] <;> rfl), by repeat (first | (with_reducible first | exact HB.out | apply sm4_ | apply sl9_ | apply sm5_ | refine sn3_ ?_ GE346.out | refine sn3_ ?_ GE347.out) | exact HB.out)⟩)
end Go.Proofs.Ytkgbflcbeeghoaa.QFnTrieRuns

namespace Go.Proofs.Ytkgbflcbeeghoaa.QFnTrieRuns
open Go.RowKit Go.Proofs.YtkgbflcbeeghoaaW.PrintWords Go.Proofs.YtkgbflcbeeghoaaW.PrintLast Go.Proofs.YtkgbflcbeeghoaaW.PrintMore
attribute [local go_sem] max2_int min2_int max_two min_two max_three min_three max_four min_four   -- for this text's walks alone
set_option linter.unusedVariables false
set_option linter.unusedSimpArgs false
def laws_FnTrieRuns.l0 : Nat → List (S30) → List (S26) → List (S26) → Bool → Int → Option (Bool)
 | 0, _, _, _, _, _ => none
 | k + 1, x0, x3, x4, x5, x6 => if x6 < (x4.length : Int) then (if 0 ≤ x6 then (if x6 < (x0.length : Int) then (if x6 < (x3.length : Int) then ((laws_wordSame.f k ((rd_T30 x0 x6).f0) ((rd_T26 x3 x6).f0) ((rd_T26 x3 x6).f1) ((rd_T26 x3 x6).f2) ((rd_T26 x3 x6).f3) ((rd_T26 x4 x6).f0) ((rd_T26 x4 x6).f1) ((rd_T26 x4 x6).f2) ((rd_T26 x4 x6).f3) x5).bind fun t361 => (if t361 = true then (laws_FnTrieRuns.l0 k x0 x3 x4 x5 (wrap64 (x6 + 1))) else (some false))) else (none)) else (none)) else (none)) else (some true)
def laws_FnTrieRuns.f (k : Nat) (l0 : List (S30)) : Option (Bool) := (laws_zzFits6.f k l0).bind fun t350 => (if t350 = true then ((impl_TrieRun.f l0).bind fun t351 => ((spec_Said.f k l0).bind fun t354 => ((spec_Removed.f k l0).bind fun t357 => (if (t351.length : Int) = (t354.length : Int) then (laws_FnTrieRuns.l0 k l0 t351 t354 t357 0) else (some false))))) else (some true))
def laws_FnTrieRuns.T9 : Bool × List (List Nat × List Nat) := (true, [([], []), ([], []), ([0, 1], [0, 1]), ([2], [2]), ([3], [3]), ([], []), ([], []), ([5, 6], [5, 6]), ([7], [7]), ([], []), ([], []), ([9, 10], [9, 10]), ([11], [11]), ([], []), ([4, 8, 12, 13], [4, 8, 12, 13]), ([14], [14])])
def laws_FnTrieRuns.B9 : List Nat := [0, 0, 3, 7, 15, 0, 0, 96, 224, 0, 0, 1536, 3584, 0, 16383, 32767]
theorem laws_FnTrieRuns.tab9 : rtab .any (opsOf Try.f5 9) = laws_FnTrieRuns.T9 := by kernel_rfl
theorem laws_FnTrieRuns.bits9 : waitsOk laws_FnTrieRuns.T9.2 laws_FnTrieRuns.B9 = true := by kernel_rfl
set_option maxHeartbeats 8000000 in
set_option maxRecDepth 100000 in
theorem laws_FnTrieRuns.calls (k : Nat) (A0 : Option Addr) (c0 : Nat) (l0 : List (S30)) (r : Bool) (w : World) (hr0 : Kd.C k30 w A0 l0.length l0) (hc0 : l0.length ≤ c0) (h : laws_FnTrieRuns.f k l0 = some r) :
 Calls Try.prog 5 #[.slice A0 l0.length c0] w fun e w' => e = .returned (.bool r) ∧ Below w.heap.size w w' := by
 have hu26 := Try.underlying26
 have HR0 := A0_ hr0
 have HC0 := A0_ hc0
 clear hr0 hc0
 have HB := A0_ (Below.refl w.heap.size w)
 have H : ((laws_zzFits6.f k l0).bind fun t350 => (if t350 = true then ((impl_TrieRun.f l0).bind fun t351 => ((spec_Said.f k l0).bind fun t354 => ((spec_Removed.f k l0).bind fun t357 => (if (t351.length : Int) = (t354.length : Int) then (laws_FnTrieRuns.l0 k l0 t351 t354 t357 0) else (some false))))) else (some true))) = some r := h
 clear h
 replace H := Option.bind_eq_some_iff.mp H
 obtain ⟨t350, A20, H⟩ := H
 replace H : (if t350 = true then ((impl_TrieRun.f l0).bind fun t351 => ((spec_Said.f k l0).bind fun t354 => ((spec_Removed.f k l0).bind fun t357 => (if (t351.length : Int) = (t354.length : Int) then (laws_FnTrieRuns.l0 k l0 t351 t354 t357 0) else (some false))))) else (some true)) = some r := H
 have A2 := A0_ A20
 clear A20
 by_cases c3 : t350 = true
 · subst c3
   (have H1 : ((impl_TrieRun.f l0).bind fun t351 => ((spec_Said.f k l0).bind fun t354 => ((spec_Removed.f k l0).bind fun t357 => (if (t351.length : Int) = (t354.length : Int) then (laws_FnTrieRuns.l0 k l0 t351 t354 t357 0) else (some false))))) = some r := by rw [if_pos rfl] at H; exact H); clear H; have H := H1; clear H1; replace H := Option.bind_eq_some_iff.mp H; obtain ⟨t351, A40, H⟩ := H; replace H : ((spec_Said.f k l0).bind fun t354 => ((spec_Removed.f k l0).bind fun t357 => (if (t351.length : Int) = (t354.length : Int) then (laws_FnTrieRuns.l0 k l0 t351 t354 t357 0) else (some false)))) = some r := H; have A4 := A0_ A40; clear A40; replace H := Option.bind_eq_some_iff.mp H; obtain ⟨t354, A50, H⟩ := H; replace H : ((spec_Removed.f k l0).bind fun t357 => (if (t351.length : Int) = (t354.length : Int) then (laws_FnTrieRuns.l0 k l0 t351 t354 t357 0) else (some false))) = some r := H; have A5 := A0_ A50; clear A50; replace H := Option.bind_eq_some_iff.mp H; obtain ⟨t357, A60, H⟩ := H; replace H : (if (t351.length : Int) = (t354.length : Int) then (laws_FnTrieRuns.l0 k l0 t351 t354 t357 0) else (some false)) = some r := H; have A6 := A0_ A60; clear A60; (by_cases c7 : (t351.length : Int) = (t354.length : Int))
   · rw [if_pos c7] at H
     have c7b0 : ((t351.length : Int) == (t354.length : Int)) = true := beq_iff_eq.mpr c7; have c7b1 : ((t351.length : Int) != (t354.length : Int)) = false := bne_eq_false_iff_eq.mpr c7; (have c7b2 : (t351.length == t354.length) = true := by first | simpa using c7 | (simp at c7 ⊢; omega)); clear c7; have H' := A0_ H; clear H; (go_enter Try.func5, Try.ntmps5); (go_wp2_with (first | ((with_reducible refine gate_callee (f := 9) rfl ?_); refine goesL_ (some 8) rfl rfl Try.func9 (by kernel_rfl) rfl #[.slice A0 l0.length c0] rfl (by (try simp only [List.map_toArray, List.map_cons, List.map_nil]); first | done | rfl | (simp only [List.length_drop, sp2_]; rfl)) ?_; (with_reducible refine (laws_zzFits6.calls k _ _ l0 true _ ?side1 ?side2 A2.out).mono ?_); (case side1 => repeat (first | exact HR0.out | (with_reducible refine sp8_ ?_ _) | (with_reducible refine sp9_ ?_ _) | (with_reducible refine sq1_ ?_))); (case side2 => exact HC0.out); rintro e w8 ⟨rfl, hb⟩; refine ⟨_, rfl, ?_⟩; have n0_ := A0_ (sn2_ (kw0_ HB.out) hb); clear HB; have HB := n0_; clear n0_; (try clear hb); (try clear hb2); (try clear hk); (try clear hi)) | ((with_reducible refine gate_callee (f := 14) rfl ?_); refine goesL_ (some 11) rfl rfl Try.func14 (by kernel_rfl) rfl #[.slice A0 l0.length c0] rfl (by (try simp only [List.map_toArray, List.map_cons, List.map_nil]); first | done | rfl | (simp only [List.length_drop, sp2_]; rfl)) ?_; (with_reducible refine (impl_TrieRun.calls _ _ l0 t351 _ ?side1 ?side2 A4.out).mono ?_); (case side1 => repeat (first | exact (Kd.C_below HR0.out HB.out) | (with_reducible refine sp8_ ?_ _) | (with_reducible refine sp9_ ?_ _) | (with_reducible refine sq1_ ?_))); (case side2 => exact HC0.out); rintro e w9 ⟨v352, rfl, ho0, hb⟩; refine ⟨_, rfl, ?_⟩; have n0_ := A0_ (Kd.N_lower (Kd.N_mono (ok' := fun k_ => True) (Kd.S_N (Kd.S_bound ho0)) (fun k_ hk_ => trivial)) (sn1_ (kw0_ HB.out))); have n1_ := A0_ (sn2_ (kw0_ HB.out) hb); clear HB; have HO353 := n0_; have HB := n1_; clear n0_ n1_; (try clear hb); (try clear hb2); (try clear hk); (try clear hi); (try clear ho0)) | ((with_reducible refine gate_callee (f := 15) rfl ?_); refine goesL_ (some 13) rfl rfl Try.func15 (by kernel_rfl) rfl #[.slice A0 l0.length c0] rfl (by (try simp only [List.map_toArray, List.map_cons, List.map_nil]); first | done | rfl | (simp only [List.length_drop, sp2_]; rfl)) ?_; (with_reducible refine (spec_Said.calls k _ _ l0 t354 _ ?side1 ?side2 A5.out).mono ?_); (case side1 => repeat (first | exact (Kd.C_below HR0.out HB.out) | (with_reducible refine sp8_ ?_ _) | (with_reducible refine sp9_ ?_ _) | (with_reducible refine sq1_ ?_))); (case side2 => exact HC0.out); rintro e w10 ⟨v355, rfl, ho0, hb⟩; refine ⟨_, rfl, ?_⟩; have n0_ := A0_ (Kd.N_elder' (kn_ HO353.out) (Kd.N_base ho0) hb); have n1_ := A0_ (Kd.N_lower (Kd.N_mono (ok' := fun k_ => some k_ ≠ (v352 : Value).ownBlock) ho0 (fun k_ hk_ => (Kd.fresh' (Kd.N_lt (kn_ HO353.out)) k_ hk_))) (sn1_ (kw0_ HB.out))); have n2_ := A0_ (sn2_ (kw0_ HB.out) hb); clear HO353; clear HB; have HO353 := n0_; have HO356 := n1_; have HB := n2_; clear n0_ n1_ n2_; (try clear hb); (try clear hb2); (try clear hk); (try clear hi); (try clear ho0)) | ((with_reducible refine gate_callee (f := 11) rfl ?_); refine goesL_ (some 15) rfl rfl Try.func11 (by kernel_rfl) rfl #[.slice A0 l0.length c0] rfl (by (try simp only [List.map_toArray, List.map_cons, List.map_nil]); first | done | rfl | (simp only [List.length_drop, sp2_]; rfl)) ?_; (with_reducible refine (spec_Removed.calls k _ _ l0 t357 _ ?side1 ?side2 A6.out).mono ?_); (case side1 => repeat (first | exact (Kd.C_below HR0.out HB.out) | (with_reducible refine sp8_ ?_ _) | (with_reducible refine sp9_ ?_ _) | (with_reducible refine sq1_ ?_))); (case side2 => exact HC0.out); rintro e w11 ⟨rfl, hb⟩; refine ⟨_, rfl, ?_⟩; have n0_ := A0_ (Kd.N_below (kn_ HO353.out) hb); have n1_ := A0_ (Kd.N_below (kn_ HO356.out) hb); have n2_ := A0_ (sn2_ (kw0_ HB.out) hb); clear HO353; clear HO356; clear HB; have HO353 := n0_; have HO356 := n1_; have HB := n2_; clear n0_ n1_ n2_; (try clear hb); (try clear hb2); (try clear hk); (try clear hi); obtain ⟨Ao12, co12, eo12⟩ := Kd.N_slice HO353.out; subst eo12; obtain ⟨Ao13, co13, eo13⟩ := Kd.N_slice HO356.out; subst eo13))); (go_loopg [6] k (fun kq v6 w' => ∃ (x6_1 : Int), v6 = .int .i64 x6_1 ∧ Aside0 (laws_FnTrieRuns.l0 kq l0 t351 t354 t357 x6_1 = some r) ∧ Aside0 (kq ≤ k) ∧ Aside0 (Kd.N k26 26 w' w.heap.size (fun k_ => some k_ ≠ ((.slice Ao13 t354.length co13) : Value).ownBlock) (.slice Ao12 t351.length co12) t351) ∧ Aside0 (Kd.N k26 26 w' w.heap.size (fun k_ => some k_ ≠ ((.slice Ao12 t351.length co12) : Value).ownBlock) (.slice Ao13 t354.length co13) t354) ∧ Aside0 (Below w.heap.size w w')))
     case atStart => exact ⟨(0), (by first | rfl | (simp; done) | (simp [*]; done)), H', ⟨Nat.le_refl _⟩, ⟨by (with_reducible repeat (first | apply sp6_ | apply sp5_ | apply sp7_)); exact Kd.N_mono HO353.out (fun _ hk => hk.2)⟩, ⟨by (with_reducible repeat (first | apply sp6_ | apply sp5_ | apply sp7_)); exact HO356.out⟩, ⟨by repeat (first | (with_reducible first | exact HB.out | apply sm4_ | apply sl9_ | apply sm5_) | exact HB.out)⟩⟩
     case round =>
      clear H'; (try clear c1); (try clear p2); (try clear c3); (try clear c5); (try clear c7); (try clear c7b0); (try clear c7b1); (try clear c7b2); (try clear c9); (try clear c11); obtain ⟨x6_1, rfl, HA, HK1, HO_3, HO_4, HB⟩ := hrel
      cases gk with
      | zero => exact absurd HA.out (by simp [laws_FnTrieRuns.l0])
      | succ k1 =>
       have H := HA.out; clear HA; (simp only [laws_FnTrieRuns.l0] at H); (by_cases c14 : x6_1 < (t354.length : Int))
       · rw [if_pos c14] at H
         have c14b0 : decide (x6_1 < (t354.length : Int)) = true := decide_eq_true c14; clear c14; (by_cases c15 : 0 ≤ x6_1)
         · rw [if_pos c15] at H
           have c15b0 : decide (0 ≤ x6_1) = true := decide_eq_true c15; clear c15; (by_cases c16 : x6_1 < (l0.length : Int))
           · rw [if_pos c16] at H
             have c16b0 : decide (x6_1 < (l0.length : Int)) = true := decide_eq_true c16; clear c16; (by_cases c17 : x6_1 < (t351.length : Int))
             · rw [if_pos c17] at H
               have c17b0 : decide (x6_1 < (t351.length : Int)) = true := decide_eq_true c17; clear c17; replace H := Option.bind_eq_some_iff.mp H; obtain ⟨t361, A180, H⟩ := H; replace H : (if t361 = true then (laws_FnTrieRuns.l0 k1 l0 t351 t354 t357 (wrap64 (x6_1 + 1))) else (some false)) = some r := H; have A18 := A0_ A180; clear A180; (by_cases c19 : t361 = true)
               · subst c19
                 (have H1 : (laws_FnTrieRuns.l0 k1 l0 t351 t354 t357 (wrap64 (x6_1 + 1))) = some r := by rw [if_pos rfl] at H; exact H); clear H; have H := H1; clear H1; have H' := A0_ H; clear H; (try go_wp2); have n0_ := A0_ (sp7_ HO_3.out); have n1_ := A0_ (sp7_ HO_4.out); have n2_ := A0_ (sm5_ HB.out); clear HO_3 HO_4 HB; have HO_3 := n0_; have HO_4 := n1_; have HB := n2_; clear n0_ n1_ n2_; have p358 : 0 ≤ (x6_1 : Int) := od_ (by assumption); have q358 : x6_1 < (l0.length : Int) := od_ (by assumption); obtain ⟨ad358, e358, hx358_0, hx358_1, hx358_2⟩ := at_T30 HR0.out x6_1 p358 q358; have hw358_2 := hx358_2; have hw358_1 := hx358_1; have hw358_0 := hx358_0; (cases e358); replace hx358_0 := (HB.out.cell (bl_ w _ hx358_0)).trans hx358_0; replace hx358_1 := (HB.out.cell (bl_ w _ hx358_1)).trans hx358_1; replace hx358_2 := (HB.out.cell (bl_ w _ hx358_2)).trans hx358_2; replace p358 := eq_true p358; replace q358 := eq_true q358; have p359 : 0 ≤ (x6_1 : Int) := od_ (by assumption); have q359 : x6_1 < (t351.length : Int) := od_ (by assumption); obtain ⟨ad359, A359_3, c359_3, e359, hx359_0, hx359_1, hx359_2, hx359_3, hl359_3, hi359_3⟩ := at_T26 (Kd.N_reads' HO_3.out).2.2 x6_1 p359 q359; (cases e359); (obtain ⟨ce359, hce359, hMe359, hcc359⟩ := Kd.N_get HO_3.out z26 x6_1 p359 (by first | exact q359 | exact od_ (by assumption) | (have e_ := (Kd.N_reads' HO_3.out).1; omega))); obtain ⟨ua359_3, uc359_3, rfl, ul359_3, ge359_3⟩ := k26_openF hMe359; have hv359_3 := hcc359 3 _ rfl; (rw [add_field _ _ 3 (by omega)] at hv359_3); replace hv359_3 := Option.some.inj (hv359_3.symm.trans hx359_3); (injection hv359_3 with hva_ hvn_ hvc_); (rw [hva_] at ge359_3); (rw [hvc_] at ul359_3); have HL359_3 := A0_ (show Kd.V Kd.string 9 _ w.heap.size _ _ ((rd_T26 t351 x6_1).f3) from Kd.V_mk ul359_3 ge359_3); clear hva_ hvn_ hvc_ ge359_3 ul359_3 hcc359 hce359; have HR359_3 := A0_ hi359_3; have HC359_3 := A0_ hl359_3; clear hi359_3 hl359_3; replace p359 := eq_true p359; replace q359 := eq_true q359; have p360 : 0 ≤ (x6_1 : Int) := od_ (by assumption); have q360 : x6_1 < (t354.length : Int) := od_ (by assumption); obtain ⟨ad360, A360_3, c360_3, e360, hx360_0, hx360_1, hx360_2, hx360_3, hl360_3, hi360_3⟩ := at_T26 (Kd.N_reads' HO_4.out).2.2 x6_1 p360 q360; (cases e360); (obtain ⟨ce360, hce360, hMe360, hcc360⟩ := Kd.N_get HO_4.out z26 x6_1 p360 (by first | exact q360 | exact od_ (by assumption) | (have e_ := (Kd.N_reads' HO_4.out).1; omega))); obtain ⟨ua360_3, uc360_3, rfl, ul360_3, ge360_3⟩ := k26_openF hMe360; have hv360_3 := hcc360 3 _ rfl; (rw [add_field _ _ 3 (by omega)] at hv360_3); replace hv360_3 := Option.some.inj (hv360_3.symm.trans hx360_3); (injection hv360_3 with hva_ hvn_ hvc_); (rw [hva_] at ge360_3); (rw [hvc_] at ul360_3); have HL360_3 := A0_ (show Kd.V Kd.string 9 _ w.heap.size _ _ ((rd_T26 t354 x6_1).f3) from Kd.V_mk ul360_3 ge360_3); clear hva_ hvn_ hvc_ ge360_3 ul360_3 hcc360 hce360; have HR360_3 := A0_ hi360_3; have HC360_3 := A0_ hl360_3; clear hi360_3 hl360_3; replace p360 := eq_true p360; replace q360 := eq_true q360; (refine start_ (n := 16) (S := fun w' => w'.cell? (ad358.add ((x6_1).toNat * 3)) = some (.int .i64 ((rd_T30 l0 x6_1).f0)) ∧ w'.cell? ⟨(ad358.add ((x6_1).toNat * 3)).block, (ad358.add ((x6_1).toNat * 3)).off + 1, none⟩ = some (.string ((rd_T30 l0 x6_1).f1)) ∧ w'.cell? ⟨(ad358.add ((x6_1).toNat * 3)).block, (ad358.add ((x6_1).toNat * 3)).off + 2, none⟩ = some (.int .i64 ((rd_T30 l0 x6_1).f2)) ∧ w'.cell? (ad359.add ((x6_1).toNat * 4)) = some (.int .i64 ((rd_T26 t351 x6_1).f0)) ∧ w'.cell? ⟨(ad359.add ((x6_1).toNat * 4)).block, (ad359.add ((x6_1).toNat * 4)).off + 1, none⟩ = some (.bool ((rd_T26 t351 x6_1).f1)) ∧ w'.cell? ⟨(ad359.add ((x6_1).toNat * 4)).block, (ad359.add ((x6_1).toNat * 4)).off + 2, none⟩ = some (.string ((rd_T26 t351 x6_1).f2)) ∧ w'.cell? ⟨(ad359.add ((x6_1).toNat * 4)).block, (ad359.add ((x6_1).toNat * 4)).off + 3, none⟩ = some (.slice A359_3 ((rd_T26 t351 x6_1).f3).length c359_3) ∧ w'.cell? (ad360.add ((x6_1).toNat * 4)) = some (.int .i64 ((rd_T26 t354 x6_1).f0)) ∧ w'.cell? ⟨(ad360.add ((x6_1).toNat * 4)).block, (ad360.add ((x6_1).toNat * 4)).off + 1, none⟩ = some (.bool ((rd_T26 t354 x6_1).f1)) ∧ w'.cell? ⟨(ad360.add ((x6_1).toNat * 4)).block, (ad360.add ((x6_1).toNat * 4)).off + 2, none⟩ = some (.string ((rd_T26 t354 x6_1).f2)) ∧ w'.cell? ⟨(ad360.add ((x6_1).toNat * 4)).block, (ad360.add ((x6_1).toNat * 4)).off + 3, none⟩ = some (.slice A360_3 ((rd_T26 t354 x6_1).f3).length c360_3)) (ds := []) #[f_, f_, f_, f_, f_, f_, f_, f_, f_, f_, f_, f_, f_, f_, f_, f_] (by kernel_rfl) rfl rfl ⟨((HB.out.cell (bl_ w _ hw358_0)).trans hw358_0), ((HB.out.cell (bl_ w _ hw358_1)).trans hw358_1), ((HB.out.cell (bl_ w _ hw358_2)).trans hw358_2), hx359_0, hx359_1, hx359_2, hx359_3, hx360_0, hx360_1, hx360_2, hx360_3⟩ (fun hHeld => ?_); refine with_tabW laws_FnTrieRuns.tab9 laws_FnTrieRuns.bits9 (fun HT_ HW_ => ?_)); (generalize wr.drew = w20 at HO_3 HO_4 HB HL359_3 HL360_3 HR359_3 HR360_3 hx358_0 hx358_1 hx358_2 hx359_0 hx359_1 hx359_2 hx359_3 hx360_0 hx360_1 hx360_2 hx360_3 hHeld ⊢); refine pure_ (i := 0) (N := some 27) (v := ?_) (a' := ?_) #[t_, f_, f_, f_, f_, f_, f_, f_, f_, f_, f_, f_, f_, f_, f_, f_] rfl rfl (any_of HT_.out (by kernel_rfl)) (fun _ _ _ h => h) (Or.inl ⟨by rfl, ?_⟩) ?_ ?_; rotate_left
                 · intro w'
                   (go_simp); (with_reducible rfl)
                 rotate_left
                 · simp only [Act.put, sl1_, sl2_, sl3_, i64_w, i32_w]
                   rfl
                 refine pure_ (i := 1) (N := some 28) (v := ?_) (a' := ?_) #[t_, t_, f_, f_, f_, f_, f_, f_, f_, f_, f_, f_, f_, f_, f_, f_] rfl rfl (any_of HT_.out (by kernel_rfl)) (fun _ _ _ h => h) (Or.inl ⟨by rfl, ?_⟩) ?_ ?_; rotate_left
                 · intro w'
                   (go_simp); (with_reducible rfl)
                 rotate_left
                 · simp only [Act.put, sl1_, sl2_, sl3_, i64_w, i32_w]
                   rfl
                 refine pure_ (i := 2) (N := some 29) (v := ?_) (a' := ?_) #[t_, t_, t_, f_, f_, f_, f_, f_, f_, f_, f_, f_, f_, f_, f_, f_] rfl rfl (any_of HT_.out (by kernel_rfl)) (fun _ _ _ h => h) (Or.inl ⟨by rfl, ?_⟩) ?_ ?_; rotate_left
                 · intro w'
                   (go_simp); (with_reducible rfl)
                 rotate_left
                 · simp only [Act.put, sl1_, sl2_, sl3_, i64_w, i32_w]
                   rfl
                 refine pure_ (i := 3) (N := some 30) (v := ?_) (a' := ?_) #[t_, t_, t_, t_, f_, f_, f_, f_, f_, f_, f_, f_, f_, f_, f_, f_] rfl rfl (any_of HT_.out (by kernel_rfl)) (fun _ _ _ h => h) (Or.inl ⟨by rfl, ?_⟩) ?_ ?_; rotate_left
                 · intro w'
                   (go_simp); (with_reducible rfl)
                 rotate_left
                 · simp only [Act.put, sl1_, sl2_, sl3_, i64_w, i32_w]
                   rfl
                 refine pure_ (i := 5) (N := some 32) (v := ?_) (a' := ?_) #[t_, t_, t_, t_, f_, t_, f_, f_, f_, f_, f_, f_, f_, f_, f_, f_] rfl rfl (any_of HT_.out (by kernel_rfl)) (fun _ _ _ h => h) (Or.inl ⟨by rfl, ?_⟩) ?_ ?_; rotate_left
                 · intro w'
                   (go_simp); (with_reducible rfl)
                 rotate_left
                 · simp only [Act.put, sl1_, sl2_, sl3_, i64_w, i32_w]
                   rfl
                 refine pure_ (i := 6) (N := some 33) (v := ?_) (a' := ?_) #[t_, t_, t_, t_, f_, t_, t_, f_, f_, f_, f_, f_, f_, f_, f_, f_] rfl rfl (any_of HT_.out (by kernel_rfl)) (fun _ _ _ h => h) (Or.inl ⟨by rfl, ?_⟩) ?_ ?_; rotate_left
                 · intro w'
                   (go_simp); (with_reducible rfl)
                 rotate_left
                 · simp only [Act.put, sl1_, sl2_, sl3_, i64_w, i32_w]
                   rfl
                 refine pure_ (i := 7) (N := some 34) (v := ?_) (a' := ?_) #[t_, t_, t_, t_, f_, t_, t_, t_, f_, f_, f_, f_, f_, f_, f_, f_] rfl rfl (any_of HT_.out (by kernel_rfl)) (fun _ _ _ h => h) (Or.inl ⟨by rfl, ?_⟩) ?_ ?_; rotate_left
                 · intro w'
                   (go_simp); (with_reducible rfl)
                 rotate_left
                 · simp only [Act.put, sl1_, sl2_, sl3_, i64_w, i32_w]
                   rfl
                 refine pure_ (i := 9) (N := some 36) (v := ?_) (a' := ?_) #[t_, t_, t_, t_, f_, t_, t_, t_, f_, t_, f_, f_, f_, f_, f_, f_] rfl rfl (any_of HT_.out (by kernel_rfl)) (fun _ _ _ h => h) (Or.inl ⟨by rfl, ?_⟩) ?_ ?_; rotate_left
                 · intro w'
                   (go_simp); (with_reducible rfl)
                 rotate_left
                 · simp only [Act.put, sl1_, sl2_, sl3_, i64_w, i32_w]
                   rfl
                 refine pure_ (i := 10) (N := some 37) (v := ?_) (a' := ?_) #[t_, t_, t_, t_, f_, t_, t_, t_, f_, t_, t_, f_, f_, f_, f_, f_] rfl rfl (any_of HT_.out (by kernel_rfl)) (fun _ _ _ h => h) (Or.inl ⟨by rfl, ?_⟩) ?_ ?_; rotate_left
                 · intro w'
                   (go_simp); (with_reducible rfl)
                 rotate_left
                 · simp only [Act.put, sl1_, sl2_, sl3_, i64_w, i32_w]
                   rfl
                 refine pure_ (i := 11) (N := some 38) (v := ?_) (a' := ?_) #[t_, t_, t_, t_, f_, t_, t_, t_, f_, t_, t_, t_, f_, f_, f_, f_] rfl rfl (any_of HT_.out (by kernel_rfl)) (fun _ _ _ h => h) (Or.inl ⟨by rfl, ?_⟩) ?_ ?_; rotate_left
                 · intro w'
                   (go_simp); (with_reducible rfl)
                 rotate_left
                 · simp only [Act.put, sl1_, sl2_, sl3_, i64_w, i32_w]
                   rfl
                 refine pure_ (i := 13) (N := some 40) (v := ?_) (a' := ?_) #[t_, t_, t_, t_, f_, t_, t_, t_, f_, t_, t_, t_, f_, t_, f_, f_] rfl rfl (any_of HT_.out (by kernel_rfl)) (fun _ _ _ h => h) (Or.inl ⟨by rfl, ?_⟩) ?_ ?_; rotate_left
                 · intro w'
                   (go_simp); (with_reducible rfl)
                 rotate_left
                 · simp only [Act.put, sl1_, sl2_, sl3_, i64_w, i32_w]
                   rfl
                 refine take_ (i := 4) (N := some 31) (v := ?_) (a' := ?_) #[t_, t_, t_, t_, t_, t_, t_, t_, f_, t_, t_, t_, f_, t_, f_, f_] rfl rfl (take_ofW HT_.out HW_.out (by kernel_rfl)) (fun _ _ _ h => h) (Or.inl ⟨by rfl, ?_⟩) hHeld ?_ ?_; rotate_left
                 · rintro w' ⟨s0, s1, s2, s3, s4, s5, s6, s7, s8, s9, s10⟩
                   (go_simp); (with_reducible rfl)
                 rotate_left
                 · simp only [Act.put, sl1_, sl2_, sl3_, i64_w, i32_w]
                   rfl
                 refine take_ (i := 8) (N := some 35) (v := ?_) (a' := ?_) #[t_, t_, t_, t_, t_, t_, t_, t_, t_, t_, t_, t_, f_, t_, f_, f_] rfl rfl (take_ofW HT_.out HW_.out (by kernel_rfl)) (fun _ _ _ h => h) (Or.inl ⟨by rfl, ?_⟩) hHeld ?_ ?_; rotate_left
                 · rintro w' ⟨s0, s1, s2, s3, s4, s5, s6, s7, s8, s9, s10⟩
                   (go_simp); (with_reducible rfl)
                 rotate_left
                 · simp only [Act.put, sl1_, sl2_, sl3_, i64_w, i32_w]
                   rfl
                 refine take_ (i := 12) (N := some 39) (v := ?_) (a' := ?_) #[t_, t_, t_, t_, t_, t_, t_, t_, t_, t_, t_, t_, t_, t_, f_, f_] rfl rfl (take_ofW HT_.out HW_.out (by kernel_rfl)) (fun _ _ _ h => h) (Or.inl ⟨by rfl, ?_⟩) hHeld ?_ ?_; rotate_left
                 · rintro w' ⟨s0, s1, s2, s3, s4, s5, s6, s7, s8, s9, s10⟩
                   (go_simp); (with_reducible rfl)
                 rotate_left
                 · simp only [Act.put, sl1_, sl2_, sl3_, i64_w, i32_w]
                   rfl
                 refine one_ (i := 14) (N := some 41) #[t_, t_, t_, t_, t_, t_, t_, t_, t_, t_, t_, t_, t_, t_, t_, f_] rfl rfl (one_of HT_.out (by kernel_rfl)) (by decide) (fun K hK => ?_); (refine goes_ Try.func16 (by kernel_rfl) rfl #[.int .i64 ((rd_T30 l0 x6_1).f0), .agg #[.int .i64 ((rd_T26 t351 x6_1).f0), .bool ((rd_T26 t351 x6_1).f1), .string ((rd_T26 t351 x6_1).f2), .slice A359_3 ((rd_T26 t351 x6_1).f3).length c359_3], .agg #[.int .i64 ((rd_T26 t354 x6_1).f0), .bool ((rd_T26 t354 x6_1).f1), .string ((rd_T26 t354 x6_1).f2), .slice A360_3 ((rd_T26 t354 x6_1).f3).length c360_3], .bool t357] (by rfl) rfl rfl (by (try simp only [List.map_toArray, List.map_cons, List.map_nil]); first | done | rfl | (simp only [List.length_drop, sp2_]; rfl)) ?_); (with_reducible refine (laws_wordSame.calls k1 ((rd_T30 l0 x6_1).f0) ((rd_T26 t351 x6_1).f0) ((rd_T26 t351 x6_1).f1) ((rd_T26 t351 x6_1).f2) _ _ ((rd_T26 t351 x6_1).f3) ((rd_T26 t354 x6_1).f0) ((rd_T26 t354 x6_1).f1) ((rd_T26 t354 x6_1).f2) _ _ ((rd_T26 t354 x6_1).f3) t357 true _ ?side1 ?side2 ?side3 ?side4 A18.out).mono ?_); ((case side1 => repeat (first | exact (by repeat (first | (with_reducible exact HR359_3.out) | (with_reducible refine sp8_ ?_ _) | (with_reducible refine sp9_ ?_ _) | (with_reducible refine sq1_ ?_) | exact HR359_3.out)) | (with_reducible refine sp8_ ?_ _) | (with_reducible refine sp9_ ?_ _) | (with_reducible refine sq1_ ?_)))); ((case side2 => exact HC359_3.out)); ((case side3 => repeat (first | exact (by repeat (first | (with_reducible exact HR360_3.out) | (with_reducible refine sp8_ ?_ _) | (with_reducible refine sp9_ ?_ _) | (with_reducible refine sq1_ ?_) | exact HR360_3.out)) | (with_reducible refine sp8_ ?_ _) | (with_reducible refine sp9_ ?_ _) | (with_reducible refine sq1_ ?_)))); ((case side4 => exact HC360_3.out)); (rintro e w21 ⟨rfl, hb⟩); have HS3_ := (hb.cell (bl_ _ _ (hHeld.2.2.2.1))).trans (hHeld.2.2.2.1); have HS4_ := (hb.cell (bl_ _ _ (hHeld.2.2.2.2.1))).trans (hHeld.2.2.2.2.1); have HS5_ := (hb.cell (bl_ _ _ (hHeld.2.2.2.2.2.1))).trans (hHeld.2.2.2.2.2.1); have HS6_ := (hb.cell (bl_ _ _ (hHeld.2.2.2.2.2.2.1))).trans (hHeld.2.2.2.2.2.2.1); have HS7_ := (hb.cell (bl_ _ _ (hHeld.2.2.2.2.2.2.2.1))).trans (hHeld.2.2.2.2.2.2.2.1); have HS8_ := (hb.cell (bl_ _ _ (hHeld.2.2.2.2.2.2.2.2.1))).trans (hHeld.2.2.2.2.2.2.2.2.1); have HS9_ := (hb.cell (bl_ _ _ (hHeld.2.2.2.2.2.2.2.2.2.1))).trans (hHeld.2.2.2.2.2.2.2.2.2.1); have HS10_ := (hb.cell (bl_ _ _ (hHeld.2.2.2.2.2.2.2.2.2.2))).trans (hHeld.2.2.2.2.2.2.2.2.2.2); refine ⟨_, rfl, ?_⟩; have n0_ := A0_ (Kd.N_below (kn_ HO_3.out) hb); have n1_ := A0_ (Kd.N_below (kn_ HO_4.out) hb); have n2_ := A0_ (sn6_ (kv_ HL359_3.out) hb); have n3_ := A0_ (sn6_ (kv_ HL360_3.out) hb); (have n4_ := A0_ (Kd.C_below (by repeat (first | (with_reducible exact HR359_3.out) | (with_reducible refine sp8_ ?_ _) | (with_reducible refine sp9_ ?_ _) | (with_reducible refine sq1_ ?_) | exact HR359_3.out)) hb)); (have n5_ := A0_ (Kd.C_below (by repeat (first | (with_reducible exact HR360_3.out) | (with_reducible refine sp8_ ?_ _) | (with_reducible refine sp9_ ?_ _) | (with_reducible refine sq1_ ?_) | exact HR360_3.out)) hb)); have n6_ := A0_ (sn2_ (kw0_ HB.out) hb); clear HO_3 HO_4 HL359_3 HL360_3 HR359_3 HR360_3 HB; have HO_3 := n0_; have HO_4 := n1_; have HL359_3 := n2_; have HL360_3 := n3_; have HR359_3 := n4_; have HR360_3 := n5_; have HB := n6_; clear n0_ n1_ n2_ n3_ n4_ n5_ n6_; ((try clear hb)); ((try clear hb2)); ((try clear hk)); ((try clear hi)); refine hK.out _ _ ⟨((HB.out.cell (bl_ w _ hw358_0)).trans hw358_0), ((HB.out.cell (bl_ w _ hw358_1)).trans hw358_1), ((HB.out.cell (bl_ w _ hw358_2)).trans hw358_2), HS3_, HS4_, HS5_, HS6_, HS7_, HS8_, HS9_, HS10_⟩ (fun hHeld => ?_); clear hK K; refine norm_ (a' := ?_) ?_ ?_; rotate_left
                 · show Act.put _ (some 41) _ = _
                   (simp only [Act.put, sl1_, sl2_, sl3_, i64_w, i32_w]); (rfl)
                 refine pure_ (i := 15) (N := some 42) (v := ?_) (a' := ?_) #[t_, t_, t_, t_, t_, t_, t_, t_, t_, t_, t_, t_, t_, t_, t_, t_] rfl rfl (any_of HT_.out (by kernel_rfl)) (fun _ _ _ h => h) (Or.inl ⟨by rfl, ?_⟩) ?_ ?_; rotate_left
                 · intro w'
                   (go_simp); (with_reducible rfl)
                 rotate_left
                 · simp only [Act.put, sl1_, sl2_, sl3_, i64_w, i32_w]
                   rfl
                 refine done_ (done_of HT_.out (by kernel_rfl)) ?_; (try go_wp2); (go_roundg k1)
                 case measure => have := HK1.out; omega
                 case rel => exact ⟨(wrap64 (x6_1 + 1)), (by first | rfl | (simp; done) | (simp [*]; done)), H', ⟨by have := HK1.out; omega⟩, ⟨by (with_reducible repeat (first | apply sp6_ | apply sp5_ | apply sp7_)); exact HO_3.out⟩, ⟨by (with_reducible repeat (first | apply sp6_ | apply sp5_ | apply sp7_)); exact HO_4.out⟩, ⟨by repeat (first | (with_reducible first | exact HB.out | apply sm4_ | apply sl9_ | apply sm5_) | exact HB.out)⟩⟩
               · replace c19 := Bool.eq_false_iff.mpr c19
                 subst c19; (have H1 : (some false) = some r := by rw [if_neg (show ¬ (false = true) by decide)] at H; exact H); clear H; have H := H1; clear H1; obtain rfl := Option.some.inj H; (try go_wp2); have n0_ := A0_ (sp7_ HO_3.out); have n1_ := A0_ (sp7_ HO_4.out); have n2_ := A0_ (sm5_ HB.out); clear HO_3 HO_4 HB; have HO_3 := n0_; have HO_4 := n1_; have HB := n2_; clear n0_ n1_ n2_; have p358 : 0 ≤ (x6_1 : Int) := od_ (by assumption); have q358 : x6_1 < (l0.length : Int) := od_ (by assumption); obtain ⟨ad358, e358, hx358_0, hx358_1, hx358_2⟩ := at_T30 HR0.out x6_1 p358 q358; have hw358_2 := hx358_2; have hw358_1 := hx358_1; have hw358_0 := hx358_0; (cases e358); replace hx358_0 := (HB.out.cell (bl_ w _ hx358_0)).trans hx358_0; replace hx358_1 := (HB.out.cell (bl_ w _ hx358_1)).trans hx358_1; replace hx358_2 := (HB.out.cell (bl_ w _ hx358_2)).trans hx358_2; replace p358 := eq_true p358; replace q358 := eq_true q358; have p359 : 0 ≤ (x6_1 : Int) := od_ (by assumption); have q359 : x6_1 < (t351.length : Int) := od_ (by assumption); obtain ⟨ad359, A359_3, c359_3, e359, hx359_0, hx359_1, hx359_2, hx359_3, hl359_3, hi359_3⟩ := at_T26 (Kd.N_reads' HO_3.out).2.2 x6_1 p359 q359; (cases e359); (obtain ⟨ce359, hce359, hMe359, hcc359⟩ := Kd.N_get HO_3.out z26 x6_1 p359 (by first | exact q359 | exact od_ (by assumption) | (have e_ := (Kd.N_reads' HO_3.out).1; omega))); obtain ⟨ua359_3, uc359_3, rfl, ul359_3, ge359_3⟩ := k26_openF hMe359; have hv359_3 := hcc359 3 _ rfl; (rw [add_field _ _ 3 (by omega)] at hv359_3); replace hv359_3 := Option.some.inj (hv359_3.symm.trans hx359_3); (injection hv359_3 with hva_ hvn_ hvc_); (rw [hva_] at ge359_3); (rw [hvc_] at ul359_3); have HL359_3 := A0_ (show Kd.V Kd.string 9 _ w.heap.size _ _ ((rd_T26 t351 x6_1).f3) from Kd.V_mk ul359_3 ge359_3); clear hva_ hvn_ hvc_ ge359_3 ul359_3 hcc359 hce359; have HR359_3 := A0_ hi359_3; have HC359_3 := A0_ hl359_3; clear hi359_3 hl359_3; replace p359 := eq_true p359; replace q359 := eq_true q359; have p360 : 0 ≤ (x6_1 : Int) := od_ (by assumption); have q360 : x6_1 < (t354.length : Int) := od_ (by assumption); obtain ⟨ad360, A360_3, c360_3, e360, hx360_0, hx360_1, hx360_2, hx360_3, hl360_3, hi360_3⟩ := at_T26 (Kd.N_reads' HO_4.out).2.2 x6_1 p360 q360; (cases e360); (obtain ⟨ce360, hce360, hMe360, hcc360⟩ := Kd.N_get HO_4.out z26 x6_1 p360 (by first | exact q360 | exact od_ (by assumption) | (have e_ := (Kd.N_reads' HO_4.out).1; omega))); obtain ⟨ua360_3, uc360_3, rfl, ul360_3, ge360_3⟩ := k26_openF hMe360; have hv360_3 := hcc360 3 _ rfl; (rw [add_field _ _ 3 (by omega)] at hv360_3); replace hv360_3 := Option.some.inj (hv360_3.symm.trans hx360_3); (injection hv360_3 with hva_ hvn_ hvc_); (rw [hva_] at ge360_3); (rw [hvc_] at ul360_3); have HL360_3 := A0_ (show Kd.V Kd.string 9 _ w.heap.size _ _ ((rd_T26 t354 x6_1).f3) from Kd.V_mk ul360_3 ge360_3); clear hva_ hvn_ hvc_ ge360_3 ul360_3 hcc360 hce360; have HR360_3 := A0_ hi360_3; have HC360_3 := A0_ hl360_3; clear hi360_3 hl360_3; replace p360 := eq_true p360; replace q360 := eq_true q360; (refine start_ (n := 16) (S := fun w' => w'.cell? (ad358.add ((x6_1).toNat * 3)) = some (.int .i64 ((rd_T30 l0 x6_1).f0)) ∧ w'.cell? ⟨(ad358.add ((x6_1).toNat * 3)).block, (ad358.add ((x6_1).toNat * 3)).off + 1, none⟩ = some (.string ((rd_T30 l0 x6_1).f1)) ∧ w'.cell? ⟨(ad358.add ((x6_1).toNat * 3)).block, (ad358.add ((x6_1).toNat * 3)).off + 2, none⟩ = some (.int .i64 ((rd_T30 l0 x6_1).f2)) ∧ w'.cell? (ad359.add ((x6_1).toNat * 4)) = some (.int .i64 ((rd_T26 t351 x6_1).f0)) ∧ w'.cell? ⟨(ad359.add ((x6_1).toNat * 4)).block, (ad359.add ((x6_1).toNat * 4)).off + 1, none⟩ = some (.bool ((rd_T26 t351 x6_1).f1)) ∧ w'.cell? ⟨(ad359.add ((x6_1).toNat * 4)).block, (ad359.add ((x6_1).toNat * 4)).off + 2, none⟩ = some (.string ((rd_T26 t351 x6_1).f2)) ∧ w'.cell? ⟨(ad359.add ((x6_1).toNat * 4)).block, (ad359.add ((x6_1).toNat * 4)).off + 3, none⟩ = some (.slice A359_3 ((rd_T26 t351 x6_1).f3).length c359_3) ∧ w'.cell? (ad360.add ((x6_1).toNat * 4)) = some (.int .i64 ((rd_T26 t354 x6_1).f0)) ∧ w'.cell? ⟨(ad360.add ((x6_1).toNat * 4)).block, (ad360.add ((x6_1).toNat * 4)).off + 1, none⟩ = some (.bool ((rd_T26 t354 x6_1).f1)) ∧ w'.cell? ⟨(ad360.add ((x6_1).toNat * 4)).block, (ad360.add ((x6_1).toNat * 4)).off + 2, none⟩ = some (.string ((rd_T26 t354 x6_1).f2)) ∧ w'.cell? ⟨(ad360.add ((x6_1).toNat * 4)).block, (ad360.add ((x6_1).toNat * 4)).off + 3, none⟩ = some (.slice A360_3 ((rd_T26 t354 x6_1).f3).length c360_3)) (ds := []) #[f_, f_, f_, f_, f_, f_, f_, f_, f_, f_, f_, f_, f_, f_, f_, f_] (by kernel_rfl) rfl rfl ⟨((HB.out.cell (bl_ w _ hw358_0)).trans hw358_0), ((HB.out.cell (bl_ w _ hw358_1)).trans hw358_1), ((HB.out.cell (bl_ w _ hw358_2)).trans hw358_2), hx359_0, hx359_1, hx359_2, hx359_3, hx360_0, hx360_1, hx360_2, hx360_3⟩ (fun hHeld => ?_); refine with_tabW laws_FnTrieRuns.tab9 laws_FnTrieRuns.bits9 (fun HT_ HW_ => ?_)); (generalize wr.drew = w22 at HO_3 HO_4 HB HL359_3 HL360_3 HR359_3 HR360_3 hx358_0 hx358_1 hx358_2 hx359_0 hx359_1 hx359_2 hx359_3 hx360_0 hx360_1 hx360_2 hx360_3 hHeld ⊢); refine pure_ (i := 0) (N := some 27) (v := ?_) (a' := ?_) #[t_, f_, f_, f_, f_, f_, f_, f_, f_, f_, f_, f_, f_, f_, f_, f_] rfl rfl (any_of HT_.out (by kernel_rfl)) (fun _ _ _ h => h) (Or.inl ⟨by rfl, ?_⟩) ?_ ?_; rotate_left
                 · intro w'
                   (go_simp); (with_reducible rfl)
                 rotate_left
                 · simp only [Act.put, sl1_, sl2_, sl3_, i64_w, i32_w]
                   rfl
                 refine pure_ (i := 1) (N := some 28) (v := ?_) (a' := ?_) #[t_, t_, f_, f_, f_, f_, f_, f_, f_, f_, f_, f_, f_, f_, f_, f_] rfl rfl (any_of HT_.out (by kernel_rfl)) (fun _ _ _ h => h) (Or.inl ⟨by rfl, ?_⟩) ?_ ?_; rotate_left
                 · intro w'
                   (go_simp); (with_reducible rfl)
                 rotate_left
                 · simp only [Act.put, sl1_, sl2_, sl3_, i64_w, i32_w]
                   rfl
                 refine pure_ (i := 2) (N := some 29) (v := ?_) (a' := ?_) #[t_, t_, t_, f_, f_, f_, f_, f_, f_, f_, f_, f_, f_, f_, f_, f_] rfl rfl (any_of HT_.out (by kernel_rfl)) (fun _ _ _ h => h) (Or.inl ⟨by rfl, ?_⟩) ?_ ?_; rotate_left
                 · intro w'
                   (go_simp); (with_reducible rfl)
                 rotate_left
                 · simp only [Act.put, sl1_, sl2_, sl3_, i64_w, i32_w]
                   rfl
                 refine pure_ (i := 3) (N := some 30) (v := ?_) (a' := ?_) #[t_, t_, t_, t_, f_, f_, f_, f_, f_, f_, f_, f_, f_, f_, f_, f_] rfl rfl (any_of HT_.out (by kernel_rfl)) (fun _ _ _ h => h) (Or.inl ⟨by rfl, ?_⟩) ?_ ?_; rotate_left
                 · intro w'
                   (go_simp); (with_reducible rfl)
                 rotate_left
                 · simp only [Act.put, sl1_, sl2_, sl3_, i64_w, i32_w]
                   rfl
                 refine pure_ (i := 5) (N := some 32) (v := ?_) (a' := ?_) #[t_, t_, t_, t_, f_, t_, f_, f_, f_, f_, f_, f_, f_, f_, f_, f_] rfl rfl (any_of HT_.out (by kernel_rfl)) (fun _ _ _ h => h) (Or.inl ⟨by rfl, ?_⟩) ?_ ?_; rotate_left
                 · intro w'
                   (go_simp); (with_reducible rfl)
                 rotate_left
                 · simp only [Act.put, sl1_, sl2_, sl3_, i64_w, i32_w]
                   rfl
                 refine pure_ (i := 6) (N := some 33) (v := ?_) (a' := ?_) #[t_, t_, t_, t_, f_, t_, t_, f_, f_, f_, f_, f_, f_, f_, f_, f_] rfl rfl (any_of HT_.out (by kernel_rfl)) (fun _ _ _ h => h) (Or.inl ⟨by rfl, ?_⟩) ?_ ?_; rotate_left
                 · intro w'
                   (go_simp); (with_reducible rfl)
                 rotate_left
                 · simp only [Act.put, sl1_, sl2_, sl3_, i64_w, i32_w]
                   rfl
                 refine pure_ (i := 7) (N := some 34) (v := ?_) (a' := ?_) #[t_, t_, t_, t_, f_, t_, t_, t_, f_, f_, f_, f_, f_, f_, f_, f_] rfl rfl (any_of HT_.out (by kernel_rfl)) (fun _ _ _ h => h) (Or.inl ⟨by rfl, ?_⟩) ?_ ?_; rotate_left
                 · intro w'
                   (go_simp); (with_reducible rfl)
                 rotate_left
                 · simp only [Act.put, sl1_, sl2_, sl3_, i64_w, i32_w]
                   rfl
                 refine pure_ (i := 9) (N := some 36) (v := ?_) (a' := ?_) #[t_, t_, t_, t_, f_, t_, t_, t_, f_, t_, f_, f_, f_, f_, f_, f_] rfl rfl (any_of HT_.out (by kernel_rfl)) (fun _ _ _ h => h) (Or.inl ⟨by rfl, ?_⟩) ?_ ?_; rotate_left
                 · intro w'
                   (go_simp); (with_reducible rfl)
                 rotate_left
                 · simp only [Act.put, sl1_, sl2_, sl3_, i64_w, i32_w]
                   rfl
                 refine pure_ (i := 10) (N := some 37) (v := ?_) (a' := ?_) #[t_, t_, t_, t_, f_, t_, t_, t_, f_, t_, t_, f_, f_, f_, f_, f_] rfl rfl (any_of HT_.out (by kernel_rfl)) (fun _ _ _ h => h) (Or.inl ⟨by rfl, ?_⟩) ?_ ?_; rotate_left
                 · intro w'
                   (go_simp); (with_reducible rfl)
                 rotate_left
                 · simp only [Act.put, sl1_, sl2_, sl3_, i64_w, i32_w]
                   rfl
                 refine pure_ (i := 11) (N := some 38) (v := ?_) (a' := ?_) #[t_, t_, t_, t_, f_, t_, t_, t_, f_, t_, t_, t_, f_, f_, f_, f_] rfl rfl (any_of HT_.out (by kernel_rfl)) (fun _ _ _ h => h) (Or.inl ⟨by rfl, ?_⟩) ?_ ?_; rotate_left
                 · intro w'
                   (go_simp); (with_reducible rfl)
                 rotate_left
                 · simp only [Act.put, sl1_, sl2_, sl3_, i64_w, i32_w]
                   rfl
                 refine pure_ (i := 13) (N := some 40) (v := ?_) (a' := ?_) #[t_, t_, t_, t_, f_, t_, t_, t_, f_, t_, t_, t_, f_, t_, f_, f_] rfl rfl (any_of HT_.out (by kernel_rfl)) (fun _ _ _ h => h) (Or.inl ⟨by rfl, ?_⟩) ?_ ?_; rotate_left
                 · intro w'
                   (go_simp); (with_reducible rfl)
                 rotate_left
                 · simp only [Act.put, sl1_, sl2_, sl3_, i64_w, i32_w]
                   rfl
                 refine take_ (i := 4) (N := some 31) (v := ?_) (a' := ?_) #[t_, t_, t_, t_, t_, t_, t_, t_, f_, t_, t_, t_, f_, t_, f_, f_] rfl rfl (take_ofW HT_.out HW_.out (by kernel_rfl)) (fun _ _ _ h => h) (Or.inl ⟨by rfl, ?_⟩) hHeld ?_ ?_; rotate_left
                 · rintro w' ⟨s0, s1, s2, s3, s4, s5, s6, s7, s8, s9, s10⟩
                   (go_simp); (with_reducible rfl)
                 rotate_left
                 · simp only [Act.put, sl1_, sl2_, sl3_, i64_w, i32_w]
                   rfl
                 refine take_ (i := 8) (N := some 35) (v := ?_) (a' := ?_) #[t_, t_, t_, t_, t_, t_, t_, t_, t_, t_, t_, t_, f_, t_, f_, f_] rfl rfl (take_ofW HT_.out HW_.out (by kernel_rfl)) (fun _ _ _ h => h) (Or.inl ⟨by rfl, ?_⟩) hHeld ?_ ?_; rotate_left
                 · rintro w' ⟨s0, s1, s2, s3, s4, s5, s6, s7, s8, s9, s10⟩
                   (go_simp); (with_reducible rfl)
                 rotate_left
                 · simp only [Act.put, sl1_, sl2_, sl3_, i64_w, i32_w]
                   rfl
                 refine take_ (i := 12) (N := some 39) (v := ?_) (a' := ?_) #[t_, t_, t_, t_, t_, t_, t_, t_, t_, t_, t_, t_, t_, t_, f_, f_] rfl rfl (take_ofW HT_.out HW_.out (by kernel_rfl)) (fun _ _ _ h => h) (Or.inl ⟨by rfl, ?_⟩) hHeld ?_ ?_; rotate_left
                 · rintro w' ⟨s0, s1, s2, s3, s4, s5, s6, s7, s8, s9, s10⟩
                   (go_simp); (with_reducible rfl)
                 rotate_left
                 · simp only [Act.put, sl1_, sl2_, sl3_, i64_w, i32_w]
                   rfl
                 refine one_ (i := 14) (N := some 41) #[t_, t_, t_, t_, t_, t_, t_, t_, t_, t_, t_, t_, t_, t_, t_, f_] rfl rfl (one_of HT_.out (by kernel_rfl)) (by decide) (fun K hK => ?_); (refine goes_ Try.func16 (by kernel_rfl) rfl #[.int .i64 ((rd_T30 l0 x6_1).f0), .agg #[.int .i64 ((rd_T26 t351 x6_1).f0), .bool ((rd_T26 t351 x6_1).f1), .string ((rd_T26 t351 x6_1).f2), .slice A359_3 ((rd_T26 t351 x6_1).f3).length c359_3], .agg #[.int .i64 ((rd_T26 t354 x6_1).f0), .bool ((rd_T26 t354 x6_1).f1), .string ((rd_T26 t354 x6_1).f2), .slice A360_3 ((rd_T26 t354 x6_1).f3).length c360_3], .bool t357] (by rfl) rfl rfl (by (try simp only [List.map_toArray, List.map_cons, List.map_nil]); first | done | rfl | (simp only [List.length_drop, sp2_]; rfl)) ?_); (with_reducible refine (laws_wordSame.calls k1 ((rd_T30 l0 x6_1).f0) ((rd_T26 t351 x6_1).f0) ((rd_T26 t351 x6_1).f1) ((rd_T26 t351 x6_1).f2) _ _ ((rd_T26 t351 x6_1).f3) ((rd_T26 t354 x6_1).f0) ((rd_T26 t354 x6_1).f1) ((rd_T26 t354 x6_1).f2) _ _ ((rd_T26 t354 x6_1).f3) t357 false _ ?side1 ?side2 ?side3 ?side4 A18.out).mono ?_); ((case side1 => repeat (first | exact (by repeat (first | (with_reducible exact HR359_3.out) | (with_reducible refine sp8_ ?_ _) | (with_reducible refine sp9_ ?_ _) | (with_reducible refine sq1_ ?_) | exact HR359_3.out)) | (with_reducible refine sp8_ ?_ _) | (with_reducible refine sp9_ ?_ _) | (with_reducible refine sq1_ ?_)))); ((case side2 => exact HC359_3.out)); ((case side3 => repeat (first | exact (by repeat (first | (with_reducible exact HR360_3.out) | (with_reducible refine sp8_ ?_ _) | (with_reducible refine sp9_ ?_ _) | (with_reducible refine sq1_ ?_) | exact HR360_3.out)) | (with_reducible refine sp8_ ?_ _) | (with_reducible refine sp9_ ?_ _) | (with_reducible refine sq1_ ?_)))); ((case side4 => exact HC360_3.out)); (rintro e w23 ⟨rfl, hb⟩); have HS3_ := (hb.cell (bl_ _ _ (hHeld.2.2.2.1))).trans (hHeld.2.2.2.1); have HS4_ := (hb.cell (bl_ _ _ (hHeld.2.2.2.2.1))).trans (hHeld.2.2.2.2.1); have HS5_ := (hb.cell (bl_ _ _ (hHeld.2.2.2.2.2.1))).trans (hHeld.2.2.2.2.2.1); have HS6_ := (hb.cell (bl_ _ _ (hHeld.2.2.2.2.2.2.1))).trans (hHeld.2.2.2.2.2.2.1); have HS7_ := (hb.cell (bl_ _ _ (hHeld.2.2.2.2.2.2.2.1))).trans (hHeld.2.2.2.2.2.2.2.1); have HS8_ := (hb.cell (bl_ _ _ (hHeld.2.2.2.2.2.2.2.2.1))).trans (hHeld.2.2.2.2.2.2.2.2.1); have HS9_ := (hb.cell (bl_ _ _ (hHeld.2.2.2.2.2.2.2.2.2.1))).trans (hHeld.2.2.2.2.2.2.2.2.2.1); have HS10_ := (hb.cell (bl_ _ _ (hHeld.2.2.2.2.2.2.2.2.2.2))).trans (hHeld.2.2.2.2.2.2.2.2.2.2); refine ⟨_, rfl, ?_⟩; have n0_ := A0_ (Kd.N_below (kn_ HO_3.out) hb); have n1_ := A0_ (Kd.N_below (kn_ HO_4.out) hb); have n2_ := A0_ (sn6_ (kv_ HL359_3.out) hb); have n3_ := A0_ (sn6_ (kv_ HL360_3.out) hb); (have n4_ := A0_ (Kd.C_below (by repeat (first | (with_reducible exact HR359_3.out) | (with_reducible refine sp8_ ?_ _) | (with_reducible refine sp9_ ?_ _) | (with_reducible refine sq1_ ?_) | exact HR359_3.out)) hb)); (have n5_ := A0_ (Kd.C_below (by repeat (first | (with_reducible exact HR360_3.out) | (with_reducible refine sp8_ ?_ _) | (with_reducible refine sp9_ ?_ _) | (with_reducible refine sq1_ ?_) | exact HR360_3.out)) hb)); have n6_ := A0_ (sn2_ (kw0_ HB.out) hb); clear HO_3 HO_4 HL359_3 HL360_3 HR359_3 HR360_3 HB; have HO_3 := n0_; have HO_4 := n1_; have HL359_3 := n2_; have HL360_3 := n3_; have HR359_3 := n4_; have HR360_3 := n5_; have HB := n6_; clear n0_ n1_ n2_ n3_ n4_ n5_ n6_; ((try clear hb)); ((try clear hb2)); ((try clear hk)); ((try clear hi)); refine hK.out _ _ ⟨((HB.out.cell (bl_ w _ hw358_0)).trans hw358_0), ((HB.out.cell (bl_ w _ hw358_1)).trans hw358_1), ((HB.out.cell (bl_ w _ hw358_2)).trans hw358_2), HS3_, HS4_, HS5_, HS6_, HS7_, HS8_, HS9_, HS10_⟩ (fun hHeld => ?_); clear hK K; refine norm_ (a' := ?_) ?_ ?_; rotate_left
                 · show Act.put _ (some 41) _ = _
                   (simp only [Act.put, sl1_, sl2_, sl3_, i64_w, i32_w]); (rfl)
                 refine pure_ (i := 15) (N := some 42) (v := ?_) (a' := ?_) #[t_, t_, t_, t_, t_, t_, t_, t_, t_, t_, t_, t_, t_, t_, t_, t_] rfl rfl (any_of HT_.out (by kernel_rfl)) (fun _ _ _ h => h) (Or.inl ⟨by rfl, ?_⟩) ?_ ?_; rotate_left
                 · intro w'
                   (go_simp); (with_reducible rfl)
                 rotate_left
                 · simp only [Act.put, sl1_, sl2_, sl3_, i64_w, i32_w]
                   rfl
                 refine done_ (done_of HT_.out (by kernel_rfl)) ?_; (try go_wp2); (go_ret); (exact ⟨by first | rfl | (simp [errW_none, errW_some] <;> rfl) | (simp [*, errW_none, errW_some] <;> rfl), by repeat (first | (with_reducible first | exact HB.out | apply sm4_ | apply sl9_ | apply sm5_) | exact HB.out)⟩)
             · rw [if_neg c17] at H
               exact absurd H (by simp)
           · rw [if_neg c16] at H
             exact absurd H (by simp)
         · rw [if_neg c15] at H
           exact absurd H (by simp)
       · rw [if_neg c14] at H
         have c14b0 : decide (x6_1 < (t354.length : Int)) = false := decide_eq_false c14; clear c14; obtain rfl := Option.some.inj H; (go_wp2); (go_ret); (exact ⟨by first | rfl | (simp [errW_none, errW_some] <;> rfl) | (simp [*, errW_none, errW_some] <;> rfl), by repeat (first | (with_reducible first | exact HB.out | apply sm4_ | apply sl9_ | apply sm5_) | exact HB.out)⟩)
   · rw [if_neg c7] at H
     have c7b0 : ((t351.length : Int) == (t354.length : Int)) = false := beq_eq_false_iff_ne.mpr c7; have c7b1 : ((t351.length : Int) != (t354.length : Int)) = true := bne_iff_ne.mpr c7; (have c7b2 : (t351.length == t354.length) = false := by first | simpa using c7 | (simp at c7 ⊢; omega)); obtain rfl := Option.some.inj H; (go_enter Try.func5, Try.ntmps5); (go_wp2_with (first | ((with_reducible refine gate_callee (f := 9) rfl ?_); refine goesL_ (some 8) rfl rfl Try.func9 (by kernel_rfl) rfl #[.slice A0 l0.length c0] rfl (by (try simp only [List.map_toArray, List.map_cons, List.map_nil]); first | done | rfl | (simp only [List.length_drop, sp2_]; rfl)) ?_; (with_reducible refine (laws_zzFits6.calls k _ _ l0 true _ ?side1 ?side2 A2.out).mono ?_); (case side1 => repeat (first | exact HR0.out | (with_reducible refine sp8_ ?_ _) | (with_reducible refine sp9_ ?_ _) | (with_reducible refine sq1_ ?_))); (case side2 => exact HC0.out); rintro e w24 ⟨rfl, hb⟩; refine ⟨_, rfl, ?_⟩; have n0_ := A0_ (sn2_ (kw0_ HB.out) hb); clear HB; have HB := n0_; clear n0_; (try clear hb); (try clear hb2); (try clear hk); (try clear hi)) | ((with_reducible refine gate_callee (f := 14) rfl ?_); refine goesL_ (some 11) rfl rfl Try.func14 (by kernel_rfl) rfl #[.slice A0 l0.length c0] rfl (by (try simp only [List.map_toArray, List.map_cons, List.map_nil]); first | done | rfl | (simp only [List.length_drop, sp2_]; rfl)) ?_; (with_reducible refine (impl_TrieRun.calls _ _ l0 t351 _ ?side1 ?side2 A4.out).mono ?_); (case side1 => repeat (first | exact (Kd.C_below HR0.out HB.out) | (with_reducible refine sp8_ ?_ _) | (with_reducible refine sp9_ ?_ _) | (with_reducible refine sq1_ ?_))); (case side2 => exact HC0.out); rintro e w25 ⟨v352, rfl, ho0, hb⟩; refine ⟨_, rfl, ?_⟩; have n0_ := A0_ (Kd.N_lower (Kd.N_mono (ok' := fun k_ => True) (Kd.S_N (Kd.S_bound ho0)) (fun k_ hk_ => trivial)) (sn1_ (kw0_ HB.out))); have n1_ := A0_ (sn2_ (kw0_ HB.out) hb); clear HB; have HO353 := n0_; have HB := n1_; clear n0_ n1_; (try clear hb); (try clear hb2); (try clear hk); (try clear hi); (try clear ho0)) | ((with_reducible refine gate_callee (f := 15) rfl ?_); refine goesL_ (some 13) rfl rfl Try.func15 (by kernel_rfl) rfl #[.slice A0 l0.length c0] rfl (by (try simp only [List.map_toArray, List.map_cons, List.map_nil]); first | done | rfl | (simp only [List.length_drop, sp2_]; rfl)) ?_; (with_reducible refine (spec_Said.calls k _ _ l0 t354 _ ?side1 ?side2 A5.out).mono ?_); (case side1 => repeat (first | exact (Kd.C_below HR0.out HB.out) | (with_reducible refine sp8_ ?_ _) | (with_reducible refine sp9_ ?_ _) | (with_reducible refine sq1_ ?_))); (case side2 => exact HC0.out); rintro e w26 ⟨v355, rfl, ho0, hb⟩; refine ⟨_, rfl, ?_⟩; have n0_ := A0_ (Kd.N_elder' (kn_ HO353.out) (Kd.N_base ho0) hb); have n1_ := A0_ (Kd.N_lower (Kd.N_mono (ok' := fun k_ => some k_ ≠ (v352 : Value).ownBlock) ho0 (fun k_ hk_ => (Kd.fresh' (Kd.N_lt (kn_ HO353.out)) k_ hk_))) (sn1_ (kw0_ HB.out))); have n2_ := A0_ (sn2_ (kw0_ HB.out) hb); clear HO353; clear HB; have HO353 := n0_; have HO356 := n1_; have HB := n2_; clear n0_ n1_ n2_; (try clear hb); (try clear hb2); (try clear hk); (try clear hi); (try clear ho0)) | ((with_reducible refine gate_callee (f := 11) rfl ?_); refine goesL_ (some 15) rfl rfl Try.func11 (by kernel_rfl) rfl #[.slice A0 l0.length c0] rfl (by (try simp only [List.map_toArray, List.map_cons, List.map_nil]); first | done | rfl | (simp only [List.length_drop, sp2_]; rfl)) ?_; (with_reducible refine (spec_Removed.calls k _ _ l0 t357 _ ?side1 ?side2 A6.out).mono ?_); (case side1 => repeat (first | exact (Kd.C_below HR0.out HB.out) | (with_reducible refine sp8_ ?_ _) | (with_reducible refine sp9_ ?_ _) | (with_reducible refine sq1_ ?_))); (case side2 => exact HC0.out); rintro e w27 ⟨rfl, hb⟩; refine ⟨_, rfl, ?_⟩; have n0_ := A0_ (Kd.N_below (kn_ HO353.out) hb); have n1_ := A0_ (Kd.N_below (kn_ HO356.out) hb); have n2_ := A0_ (sn2_ (kw0_ HB.out) hb); clear HO353; clear HO356; clear HB; have HO353 := n0_; have HO356 := n1_; have HB := n2_; clear n0_ n1_ n2_; (try clear hb); (try clear hb2); (try clear hk); (try clear hi); obtain ⟨Ao28, co28, eo28⟩ := Kd.N_slice HO353.out; subst eo28; obtain ⟨Ao29, co29, eo29⟩ := Kd.N_slice HO356.out; subst eo29))); (go_ret); (exact ⟨by first | rfl | (simp [errW_none, errW_some] <;> rfl) | (simp [*, errW_none, errW_some] <;> rfl), by repeat (first | (with_reducible first | exact HB.out | apply sm4_ | apply sl9_ | apply sm5_) | exact HB.out)⟩)
 · replace c3 := Bool.eq_false_iff.mpr c3
   subst c3; (have H1 : (some true) = some r := by rw [if_neg (show ¬ (false = true) by decide)] at H; exact H); clear H; have H := H1; clear H1; obtain rfl := Option.some.inj H; (go_enter Try.func5, Try.ntmps5); (go_wp2_with (first | ((with_reducible refine gate_callee (f := 9) rfl ?_); refine goesL_ (some 8) rfl rfl Try.func9 (by kernel_rfl) rfl #[.slice A0 l0.length c0] rfl (by (try simp only [List.map_toArray, List.map_cons, List.map_nil]); first | done | rfl | (simp only [List.length_drop, sp2_]; rfl)) ?_; (with_reducible refine (laws_zzFits6.calls k _ _ l0 false _ ?side1 ?side2 A2.out).mono ?_); (case side1 => repeat (first | exact HR0.out | (with_reducible refine sp8_ ?_ _) | (with_reducible refine sp9_ ?_ _) | (with_reducible refine sq1_ ?_))); (case side2 => exact HC0.out); rintro e w30 ⟨rfl, hb⟩; refine ⟨_, rfl, ?_⟩; have n0_ := A0_ (sn2_ (kw0_ HB.out) hb); clear HB; have HB := n0_; clear n0_; (try clear hb); (try clear hb2); (try clear hk); (try clear hi)))); (go_ret); (exact ⟨by first | rfl | (simp [errW_none, errW_some] <;> rfl) | (simp [*, errW_none, errW_some] <;> rfl), by repeat (first | (with_reducible first | exact HB.out | apply sm4_ | apply sl9_ | apply sm5_) | exact HB.out)⟩)
end Go.Proofs.Ytkgbflcbeeghoaa.QFnTrieRuns

namespace Go.Proofs.Ytkgbflcbeeghoaa.Pure
open Go Go.RowKit Go.IntWalk Go.Proofs.Ytkgbflcbeeghoaa.QFnTrieRuns Go.Proofs.YtkgbflcbeeghoaaW.PrintWords Go.Proofs.YtkgbflcbeeghoaaW.PrintLast
theorem w1 (q : Nat) (h : q ≤ 1099511627776) : wrap64 ((q : Int) + 1) = ((q + 1 : Nat) : Int) := by rw [wrap64_in _ (by omega)]; rfl
theorem wm (q : Nat) (h : q ≤ 1099511627776) : wrap64 (((q + 1 : Nat) : Int) - 1) = (q : Int) := by rw [wrap64_in _ (by omega)]; omega
theorem rd_word {l : List S30} {i : Nat} {x : S30} (h : l[i]? = some x) : rd_T30 l (i : Int) = x := by simp [rd_T30, List.getD_eq_getElem?_getD, h]
theorem rd_str {l : List ByteArray} {i : Nat} (h : i < l.length) : rdOf ByteArray.empty l (i : Int) = l[i] := by simp [rdOf, List.getD_eq_getElem?_getD, h]
/-- All texts of a script are short. -/
def short (l : List S30) : Bool := l.all fun x => decide (x.f1.size ≤ 2147483647)
theorem fits6_row (l : List S30) (hl : l.length ≤ 2147483647) (d : Nat) : ∀ j : Nat, j + d = l.length → Ev (fun k => laws_zzFits6.l0 k l (l.length : Int) (j : Int)) (short (l.drop j)) := by
  induction d with
  | zero =>
    intro j hj
    refine Ev.step (f := fun _ => some (short (l.drop j))) (fun k => ?_) (Ev.now _)
    simp only [laws_zzFits6.l0]
    rw [if_neg (by omega), List.drop_eq_nil_of_le (by omega)]
    rfl
  | succ d ih =>
    intro j hj
    have hjl : j < l.length := by omega
    have hx : l[j]? = some l[j] := List.getElem?_eq_getElem hjl
    have hd : l.drop j = l[j] :: l.drop (j + 1) := List.drop_eq_getElem_cons hjl
    generalize l[j] = x at hx hd
    by_cases q : x.f1.size ≤ 2147483647
    · have e : short (l.drop j) = short (l.drop (j + 1)) := by rw [hd]; simp [short, q]
      rw [e]
      refine Ev.step (fun k => ?_) (ih (j + 1) (by omega))
      simp only [laws_zzFits6.l0]
      rw [if_pos (by omega), if_pos (by omega), if_pos (by omega), rd_word hx]
      unfold laws_zzFits7.f
      rw [if_neg (by omega), Option.bind_some, if_pos rfl, w1 j (by omega)]
    · have e : short (l.drop j) = false := by rw [hd]; simp [short, q]
      rw [e]
      refine Ev.step (f := fun _ => some false) (fun k => ?_) (Ev.now _)
      simp only [laws_zzFits6.l0]
      rw [if_pos (by omega), if_pos (by omega), if_pos (by omega), rd_word hx]
      unfold laws_zzFits7.f
      rw [if_pos (by omega), Option.bind_some, if_neg (by simp)]
theorem fits6_ev (l : List S30) (hl : l.length ≤ 2147483647) : Ev (fun k => laws_zzFits6.f k l) (short l) := by
  refine Ev.congr (fun k => ?_) (fits6_row l hl l.length 0 (Nat.zero_add _))
  unfold laws_zzFits6.f
  rw [if_neg (by omega)]
  rfl
theorem fits6_long (l : List S30) (hl : ¬ l.length ≤ 2147483647) (k : Nat) : laws_zzFits6.f k l = some false := by
  unfold laws_zzFits6.f
  rw [if_pos (by omega)]
theorem toList_wd (s : ByteArray) : s.toList = Trie.wd s := ByteArray.toList_eq s
theorem pre_take : ∀ (h t : TriePure.W), TriePure.T.pre h t = decide (t.take h.length = h)
  | [], t => by simp [TriePure.T.pre]
  | a :: h, [] => by simp [TriePure.T.pre]
  | a :: h, b :: t => by
    have := pre_take h t
    simp only [TriePure.T.pre, List.length_cons, List.take_succ_cons, List.cons.injEq]
    rw [this]
    by_cases q : a = b
    · subst q; simp
    · simp [q, Ne.symm q]
theorem begins_ev (a b : ByteArray) : spec_Begins.f a b = some (TriePure.T.pre (Trie.wd b) (Trie.wd a)) := by
  unfold spec_Begins.f
  by_cases q : b.size ≤ a.size
  · rw [if_pos (by omega), if_pos (by omega), if_pos (by omega), pre_take]
    have h1 : (a.extract 0 ((b.size : Int)).toNat).toList = (Trie.wd a).take (Trie.wd b).length := by
      rw [toList_wd]
      simp [Trie.wd]
    rw [h1, toList_wd]
    congr 1
    rw [Bool.eq_iff_iff, beq_iff_eq, decide_eq_true_iff]
  · rw [if_neg (by omega), pre_take]
    congr 1
    symm
    rw [decide_eq_false_iff_not]
    intro e
    have := congrArg List.length e
    simp [Trie.wd] at this
    omega
theorem with_row (l : List ByteArray) (h : ByteArray) (hl : l.length ≤ 1099511627776) (d : Nat) : ∀ (j : Nat) (o : List ByteArray), j + d = l.length → o.length ≤ j → Ev (fun k => spec_With.l0 k l h o (j : Int)) (o ++ (l.drop j).filter (fun t => TriePure.T.pre (Trie.wd h) (Trie.wd t))) := by
  induction d with
  | zero =>
    intro j o hj _
    refine Ev.step (f := fun _ => some (o ++ (l.drop j).filter (fun t => TriePure.T.pre (Trie.wd h) (Trie.wd t)))) (fun k => ?_) (Ev.now _)
    simp only [spec_With.l0]
    rw [if_neg (by omega), List.drop_eq_nil_of_le (by omega)]
    simp
  | succ d ih =>
    intro j o hj ho
    have hjl : j < l.length := by omega
    have hd : l.drop j = l[j] :: l.drop (j + 1) := List.drop_eq_getElem_cons hjl
    cases q : TriePure.T.pre (Trie.wd h) (Trie.wd l[j]) with
    | true =>
      have e : o ++ (l.drop j).filter (fun t => TriePure.T.pre (Trie.wd h) (Trie.wd t)) = (o ++ [l[j]]) ++ (l.drop (j + 1)).filter (fun t => TriePure.T.pre (Trie.wd h) (Trie.wd t)) := by rw [hd, List.filter_cons_of_pos (p := fun t => TriePure.T.pre (Trie.wd h) (Trie.wd t)) q, List.append_assoc]; rfl
      rw [e]
      refine Ev.step (fun k => ?_) (ih (j + 1) (o ++ [l[j]]) (by omega) (by simp; omega))
      simp only [spec_With.l0]
      rw [if_pos (by omega), if_pos (by omega), rd_str hjl, begins_ev, Option.bind_some, q, if_pos rfl, if_pos (by omega), w1 j (by omega)]
    | false =>
      have e : o ++ (l.drop j).filter (fun t => TriePure.T.pre (Trie.wd h) (Trie.wd t)) = o ++ (l.drop (j + 1)).filter (fun t => TriePure.T.pre (Trie.wd h) (Trie.wd t)) := by rw [hd, List.filter_cons_of_neg (by rw [q]; simp)]
      rw [e]
      refine Ev.step (fun k => ?_) (ih (j + 1) o (by omega) (by omega))
      simp only [spec_With.l0]
      rw [if_pos (by omega), if_pos (by omega), rd_str hjl, begins_ev, Option.bind_some, q, if_neg (by simp), w1 j (by omega)]
theorem with_ev (l : List ByteArray) (h : ByteArray) (hl : l.length ≤ 1099511627776) : Ev (fun k => spec_With.f k l h) (l.filter (fun t => TriePure.T.pre (Trie.wd h) (Trie.wd t))) := with_row l h hl l.length 0 [] (Nat.zero_add _) (Nat.zero_le _)
/-- Texts are sorted, somehow. -/
theorem rise_row (l : List ByteArray) (hl : l.length ≤ 1099511627776) (d : Nat) : ∀ (j : Nat) (o : List ByteArray), j + d = l.length → o.length = j → ∃ r, r.length = l.length ∧ Ev (fun k => spec_Rising.l0 k l o (j : Int)) r := by
  induction d with
  | zero =>
    intro j o hj ho
    refine ⟨o, by omega, Ev.step (f := fun _ => some o) (fun k => ?_) (Ev.now _)⟩
    simp only [spec_Rising.l0]
    rw [if_neg (by omega)]
  | succ d ih =>
    intro j o hj ho
    have hjl : j < l.length := by omega
    have inner : ∀ i : Nat, i ≤ o.length → ∃ r, r.length = l.length ∧ Ev (fun k => spec_Rising.l1 k l o (j : Int) (i : Int)) r := by
      intro i
      induction i with
      | zero =>
        intro _
        obtain ⟨r, hr, hE⟩ := ih (j + 1) (([] ++ o.take 0) ++ [l[j]] ++ o.drop 0) (by omega) (by simp; omega)
        refine ⟨r, hr, Ev.step (fun k => ?_) hE⟩
        simp only [spec_Rising.l1]
        rw [if_neg (by omega), Option.bind_some, if_pos (by omega), if_pos (by omega), Option.bind_some, if_pos (by simp), Option.bind_some, if_pos (by omega), if_pos (by omega), if_pos (by simp), Option.bind_some, Option.bind_some, if_pos (by simp; omega), rd_str hjl, w1 j (by omega)]
        rfl
      | succ i ih2 =>
        intro hi
        have hio : i < o.length := by omega
        by_cases q : (Op.bytesLess ((l[j]).toList) ((o[i]).toList)) = true
        · obtain ⟨r, hr, hE⟩ := ih2 (by omega)
          refine ⟨r, hr, Ev.step (fun k => ?_) hE⟩
          simp only [spec_Rising.l1]
          rw [if_pos (by omega), wm i (by omega), if_pos (by omega), if_pos (by omega), if_pos (by omega), if_pos (by omega), rd_str hjl, rd_str hio, if_pos q]
        · obtain ⟨r, hr, hE⟩ := ih (j + 1) (([] ++ o.take (i + 1)) ++ [l[j]] ++ o.drop (i + 1)) (by omega) (by simp; omega)
          refine ⟨r, hr, Ev.step (fun k => ?_) hE⟩
          simp only [spec_Rising.l1]
          rw [if_pos (by omega), wm i (by omega), if_pos (by omega), if_pos (by omega), if_pos (by omega), if_pos (by omega), rd_str hjl, rd_str hio, if_neg q, Option.bind_some, if_pos (by omega), if_pos (by omega), Option.bind_some, Int.toNat_natCast, if_pos (by simp; omega), Option.bind_some, if_pos (by simp; omega), Option.bind_some, Option.bind_some, if_pos (by simp; omega), w1 j (by omega)]
    obtain ⟨r, hr, hE⟩ := inner o.length (Nat.le_refl _)
    refine ⟨r, hr, Ev.step (fun k => ?_) hE⟩
    simp only [spec_Rising.l0]
    rw [if_pos (by omega)]
theorem rise_ev (l : List ByteArray) (hl : l.length ≤ 1099511627776) : ∃ r, r.length = l.length ∧ Ev (fun k => spec_Rising.f k l) r := rise_row l hl l.length 0 [] (Nat.zero_add _) rfl
theorem same_words_row (xs : List ByteArray) (hl : xs.length ≤ 1099511627776) (d : Nat) : ∀ j : Nat, j + d = xs.length → Ev (fun k => spec_SameWords.l0 k xs xs j) true := by
  induction d with
  | zero =>
    intro j hj
    refine Ev.step (f := fun _ => some true) (fun k => ?_) (Ev.now _)
    simp only [spec_SameWords.l0]
    rw [if_neg (by omega)]
  | succ d ih =>
    intro j hj
    refine Ev.step (fun k => ?_) (ih (j + 1) (by omega))
    simp only [spec_SameWords.l0]
    rw [if_pos (by omega), if_pos (by omega), if_pos (by omega), if_pos (by first | rfl | trivial), w1 j (by omega)]
theorem same_words (l : List ByteArray) (hl : l.length ≤ 1099511627776) : Ev (fun k => spec_SameWords.f k l l) true := by
  obtain ⟨r, hr, K1, h1⟩ := rise_ev l hl
  obtain ⟨K2, h2⟩ := same_words_row r (by omega) r.length 0 (Nat.zero_add _)
  refine ⟨K1 + K2, fun k hk => ?_⟩
  have h1' : spec_Rising.f k l = some r := h1 k (by omega)
  have h2' : spec_SameWords.l0 k r r ((0 : Nat) : Int) = some true := h2 k (by omega)
  show spec_SameWords.f k l l = some true
  unfold spec_SameWords.f
  rw [h1', Option.bind_some, Option.bind_some, if_pos rfl]
  exact h2'
/-- What KeysWithPrefix tells, of any head. -/
theorem keysOf_eq {i : Nat} {t : TriePure.T} (h : Trie.Okt i t) (s : ByteArray) : Trie.keysOf t s = ((TriePure.heads (TriePure.T.words t)).filter (TriePure.T.pre (Trie.wd s))).map Trie.st := by
  unfold Trie.keysOf
  split
  · rename_i h0
    rw [Trie.wd_nil h0]
    unfold Trie.keysT Trie.texts TriePure.heads
    rw [List.filter_eq_self.2 (fun p _ => by simp [TriePure.T.pre]), List.map_map]
    rfl
  · rename_i h0
    obtain ⟨k, ks, e⟩ := Trie.wd_cons h0
    rw [e, TriePure.T.from_words t k ks h.ord]
theorem wd_st (p : TriePure.W) : Trie.wd (Trie.st p) = p := by simp [Trie.wd, Trie.st]
abbrev ks (l : TriePure.R) : List ByteArray := l.map (fun p => Trie.st p.1)
abbrev vs (l : TriePure.R) : List Int := l.map (fun p => p.2)
theorem less_lt : ∀ x y : List UInt8, Op.bytesLess x y = TriePure.lt x y
  | [], [] => rfl
  | _ :: _, [] => rfl
  | [], _ :: _ => rfl
  | a :: x, b :: y => by
    simp only [Op.bytesLess, TriePure.lt]
    rw [less_lt x y]
    by_cases h : a < b
    · simp [h]
    · by_cases k : b < a
      · have e : (a == b) = false := beq_eq_false_iff_ne.2 (TriePure.u_ne k).symm
        simp [h, k, e]
      · have e := TriePure.u_same h k
        subst e
        simp [h]
theorem less_st (p : TriePure.W) (s : ByteArray) : Op.bytesLess (Trie.st p).toList s.toList = TriePure.lt p (Trie.wd s) := by rw [toList_wd, toList_wd, wd_st, less_lt]
theorem same_st (p : TriePure.W) (s : ByteArray) : ((Trie.st p).toList == s.toList) = decide (p = Trie.wd s) := by
  rw [toList_wd, toList_wd, wd_st, Bool.eq_iff_iff, beq_iff_eq, decide_eq_true_iff]
/-- How many words stand ahead of one, and whether it stands there. -/
def rank (w : TriePure.W) : TriePure.R → Nat
  | [] => 0
  | p :: l => if TriePure.lt p.1 w = true then rank w l + 1 else 0
def here (w : TriePure.W) : TriePure.R → Bool
  | [] => false
  | p :: l => if TriePure.lt p.1 w = true then here w l else decide (p.1 = w)
theorem rank_le (w : TriePure.W) : ∀ l : TriePure.R, rank w l ≤ l.length
  | [] => Nat.le_refl _
  | p :: l => by
    have := rank_le w l
    simp only [rank, List.length_cons]
    split <;> omega
theorem rank_lt (w : TriePure.W) : ∀ l : TriePure.R, here w l = true → rank w l < l.length
  | [], h => by simp [here] at h
  | p :: l, h => by
    simp only [rank, here, List.length_cons] at h ⊢
    split
    · rename_i q
      rw [if_pos q] at h
      have := rank_lt w l h
      omega
    · omega
theorem ins_here (w : TriePure.W) (v : Int) : ∀ l : TriePure.R, here w l = true → ks (TriePure.ins w v l) = ks l ∧ vs (TriePure.ins w v l) = (vs l).take (rank w l) ++ v :: (vs l).drop (rank w l + 1)
  | [], h => by simp [here] at h
  | p :: l, h => by
    simp only [here, rank, TriePure.ins] at h ⊢
    split
    · rename_i q
      rw [if_pos q] at h
      obtain ⟨a, b⟩ := ins_here w v l h
      simp only [ks, vs, List.map_cons, List.take_succ_cons, List.drop_succ_cons, List.cons_append] at a b ⊢
      exact ⟨by rw [a], by rw [b]⟩
    · rename_i q
      rw [if_neg q] at h
      rw [if_pos (of_decide_eq_true h)]
      exact ⟨rfl, rfl⟩
theorem ins_new (w : TriePure.W) (v : Int) : ∀ l : TriePure.R, here w l = false → ks (TriePure.ins w v l) = (ks l).take (rank w l) ++ Trie.st w :: (ks l).drop (rank w l) ∧ vs (TriePure.ins w v l) = (vs l).take (rank w l) ++ v :: (vs l).drop (rank w l)
  | [], _ => ⟨rfl, rfl⟩
  | p :: l, h => by
    simp only [here, rank, TriePure.ins] at h ⊢
    split
    · rename_i q
      rw [if_pos q] at h
      obtain ⟨a, b⟩ := ins_new w v l h
      simp only [ks, vs, List.map_cons, List.take_succ_cons, List.drop_succ_cons, List.cons_append] at a b ⊢
      exact ⟨by rw [a], by rw [b]⟩
    · rename_i q
      rw [if_neg q] at h
      rw [if_neg (of_decide_eq_false h)]
      exact ⟨rfl, rfl⟩
theorem rest_ne {w : TriePure.W} {p : TriePure.W × Int} {l : TriePure.R} (hu : TriePure.Up (p :: l)) (q : ¬ TriePure.lt p.1 w = true) : ∀ x ∈ l, x.1 ≠ w := fun x hx e => by
  have h := (List.pairwise_cons.1 hu).1 x hx
  rw [e] at h
  exact q h
theorem out_here (w : TriePure.W) : ∀ l : TriePure.R, TriePure.Up l → here w l = true → TriePure.out w l = l.take (rank w l) ++ l.drop (rank w l + 1)
  | [], _, h => by simp [here] at h
  | p :: l, hu, h => by
    simp only [here, rank] at h ⊢
    split
    · rename_i q
      rw [if_pos q] at h
      have e : TriePure.out w (p :: l) = p :: TriePure.out w l := List.filter_cons_of_pos (by simpa using TriePure.lt_ne q)
      rw [e, out_here w l (List.pairwise_cons.1 hu).2 h]
      rfl
    · rename_i q
      rw [if_neg q] at h
      have e : TriePure.out w (p :: l) = TriePure.out w l := List.filter_cons_of_neg (by simpa using of_decide_eq_true h)
      rw [e, TriePure.out_none (rest_ne hu q)]
      rfl
theorem out_not (w : TriePure.W) : ∀ l : TriePure.R, TriePure.Up l → here w l = false → TriePure.out w l = l
  | [], _, _ => rfl
  | p :: l, hu, h => by
    simp only [here] at h
    split at h
    · rename_i q
      have e : TriePure.out w (p :: l) = p :: TriePure.out w l := List.filter_cons_of_pos (by simpa using TriePure.lt_ne q)
      rw [e, out_not w l (List.pairwise_cons.1 hu).2 h]
    · rename_i q
      refine TriePure.out_none (fun x hx => ?_)
      rcases List.mem_cons.1 hx with e | hx
      · rw [e]; exact of_decide_eq_false h
      · exact rest_ne hu q x hx
theorem look_rank (w : TriePure.W) : ∀ l : TriePure.R, TriePure.Up l → TriePure.look w l = if here w l = true then (vs l)[rank w l]? else none
  | [], _ => rfl
  | p :: l, hu => by
    by_cases q : TriePure.lt p.1 w = true
    · have e : TriePure.look w (p :: l) = TriePure.look w l := by
        unfold TriePure.look
        rw [List.find?_cons_of_neg (by simpa using TriePure.lt_ne q)]
      have e1 : here w (p :: l) = here w l := if_pos q
      have e2 : rank w (p :: l) = rank w l + 1 := if_pos q
      rw [e, look_rank w l (List.pairwise_cons.1 hu).2, e1, e2]
      rfl
    · have e1 : here w (p :: l) = decide (p.1 = w) := if_neg q
      have e2 : rank w (p :: l) = 0 := if_neg q
      rw [e1, e2]
      by_cases h : p.1 = w
      · unfold TriePure.look
        rw [List.find?_cons_of_pos (by simpa using h), decide_eq_true h, if_pos rfl]
        rfl
      · have e : TriePure.look w (p :: l) = TriePure.look w l := by
          unfold TriePure.look
          rw [List.find?_cons_of_neg (by simpa using h)]
        rw [e, decide_eq_false h, if_neg (by simp)]
        unfold TriePure.look
        rw [List.find?_eq_none.2 (fun x hx => by simpa using rest_ne hu q x hx)]
        rfl
theorem at_row (l : TriePure.R) (s : ByteArray) (hl : l.length ≤ 1099511627776) (d : Nat) : ∀ j : Nat, j + d = l.length → Ev (fun k => spec_Words_at.l0 k s (j : Int) (ks l) (vs l)) (((j + rank (Trie.wd s) (l.drop j) : Nat) : Int), here (Trie.wd s) (l.drop j)) := by
  have hk : (ks l).length = l.length := List.length_map ..
  induction d with
  | zero =>
    intro j hj
    refine Ev.step (f := fun _ => some (((j + rank (Trie.wd s) (l.drop j) : Nat) : Int), here (Trie.wd s) (l.drop j))) (fun k => ?_) (Ev.now _)
    simp only [spec_Words_at.l0]
    rw [if_neg (by omega), List.drop_eq_nil_of_le (by omega)]
    rfl
  | succ d ih =>
    intro j hj
    have hjl : j < l.length := by omega
    have hd : l.drop j = l[j] :: l.drop (j + 1) := List.drop_eq_getElem_cons hjl
    have hr : rdOf ByteArray.empty (ks l) (j : Int) = Trie.st l[j].1 := by rw [rd_str (by omega)]; exact List.getElem_map ..
    by_cases q : TriePure.lt l[j].1 (Trie.wd s) = true
    · have e : (((j + rank (Trie.wd s) (l.drop j) : Nat) : Int), here (Trie.wd s) (l.drop j)) = (((j + 1 + rank (Trie.wd s) (l.drop (j + 1)) : Nat) : Int), here (Trie.wd s) (l.drop (j + 1))) := by
        rw [hd]
        simp only [rank, here, if_pos q]
        congr 2
        omega
      rw [e]
      refine Ev.step (fun k => ?_) (ih (j + 1) (by omega))
      simp only [spec_Words_at.l0]
      rw [if_pos (by omega), if_pos (by omega), hr, less_st, if_pos q, w1 j (by omega)]
    · refine Ev.step (f := fun _ => some (((j + rank (Trie.wd s) (l.drop j) : Nat) : Int), here (Trie.wd s) (l.drop j))) (fun k => ?_) (Ev.now _)
      simp only [spec_Words_at.l0]
      rw [if_pos (by omega), if_pos (by omega), hr, less_st, if_neg q, same_st, hd]
      simp only [rank, here, if_neg q]
      rfl
theorem at_ev (l : TriePure.R) (s : ByteArray) (hl : l.length ≤ 1099511627776) : Ev (fun k => spec_Words_at.f k (ks l) (vs l) s) ((rank (Trie.wd s) l : Int), here (Trie.wd s) l) := by
  have h := at_row l s hl l.length 0 (Nat.zero_add _)
  rw [List.drop_zero, Nat.zero_add] at h
  exact h
def tell (o : Option Int) : Int × Bool := match o with
  | none => (0, false)
  | some v => (v, true)
theorem get_ev (l : TriePure.R) (s : ByteArray) (hl : l.length ≤ 1099511627776) (hu : TriePure.Up l) : Ev (fun k => spec_Words_Get.f k (ks l) (vs l) s) (tell (TriePure.look (Trie.wd s) l)) := by
  obtain ⟨K, h⟩ := at_ev l s hl
  refine ⟨K, fun k hk => ?_⟩
  have h' : spec_Words_at.f k (ks l) (vs l) s = some ((rank (Trie.wd s) l : Int), here (Trie.wd s) l) := h k hk
  show spec_Words_Get.f k (ks l) (vs l) s = _
  unfold spec_Words_Get.f
  rw [h', Option.bind_some, look_rank _ l hu]
  have hv : (vs l).length = l.length := List.length_map ..
  cases q : here (Trie.wd s) l with
  | false =>
    rw [if_neg (by simp), if_neg (by simp)]
    rfl
  | true =>
    have hr := rank_lt _ l q
    rw [if_pos rfl, if_pos rfl, if_pos (by omega), if_pos (by omega), List.getElem?_eq_getElem (by omega)]
    simp [tell, rd, List.getD_eq_getElem?_getD, hr]
theorem cut_ev (l : List Int) (i : Nat) (hi : i < l.length) (hl : l.length ≤ 1099511627776) : spec_cut.f l (i : Int) = some (l.take i ++ l.drop (i + 1)) := by
  unfold spec_cut.f
  rw [Option.bind_some, if_pos (by omega), if_pos (by omega), if_pos (by simp; omega), Option.bind_some, w1 i (by omega), if_pos (by omega), if_pos (by omega), if_pos (by simp; omega)]
  rfl
theorem put_ev (l : List Int) (i : Nat) (v : Int) (hi : i ≤ l.length) (hl : l.length ≤ 1099511627776) : spec_put.f l (i : Int) v = some (l.take i ++ v :: l.drop i) := by
  unfold spec_put.f
  rw [Option.bind_some, if_pos (by omega), if_pos (by omega), if_pos (by simp; omega), Option.bind_some, if_pos (by simp; omega), Option.bind_some, if_pos (by simp; omega)]
  simp
/-- What Put makes of words by definition. -/
def putW (s : ByteArray) (v : Int) (l : TriePure.R) : TriePure.R := if s.size = 0 then l else TriePure.ins (Trie.wd s) v l
theorem toList_nil (s : ByteArray) : s.toList = [] ↔ s.size = 0 := by
  rw [toList_wd]
  constructor
  · intro h
    simpa [Trie.wd] using congrArg List.length h
  · exact fun h => Trie.wd_nil h
theorem putW_ev (l : TriePure.R) (s : ByteArray) (v : Int) (hl : l.length ≤ 1099511627776) : Ev (fun k => spec_Words_Put.f k (ks l) (vs l) s v) (ks (putW s v l), vs (putW s v l)) := by
  obtain ⟨K, h⟩ := at_ev l s hl
  refine ⟨K, fun k hk => ?_⟩
  have h' : spec_Words_at.f k (ks l) (vs l) s = some ((rank (Trie.wd s) l : Int), here (Trie.wd s) l) := h k hk
  show spec_Words_Put.f k (ks l) (vs l) s v = _
  unfold spec_Words_Put.f putW
  rw [h', Option.bind_some]
  have hv : (vs l).length = l.length := List.length_map ..
  have hkl : (ks l).length = l.length := List.length_map ..
  by_cases z : s.size = 0
  · rw [if_pos ((toList_nil s).2 z), if_pos z]
  · rw [if_neg (fun e => z ((toList_nil s).1 e)), if_neg z]
    cases q : here (Trie.wd s) l with
    | true =>
      have hr := rank_lt _ l q
      obtain ⟨e1, e2⟩ := ins_here (Trie.wd s) v l q
      dsimp only
      rw [if_pos rfl, cut_ev _ _ (by omega) (by omega), Option.bind_some, put_ev _ _ _ (by simp; omega) (by simp; omega), Option.bind_some, e1, e2]
      have hm : min (rank (Trie.wd s) l) (vs l).length = rank (Trie.wd s) l := by omega
      rw [List.take_append_of_le_length (by simp; omega), List.take_take, Nat.min_self, List.drop_append_of_le_length (by simp; omega), List.drop_eq_nil_of_le (by simp; omega), List.nil_append]
    | false =>
      have hr := rank_le (Trie.wd s) l
      obtain ⟨e1, e2⟩ := ins_new (Trie.wd s) v l q
      dsimp only
      rw [if_neg (by simp), Option.bind_some, if_pos (by omega), if_pos (by omega), Option.bind_some, Int.toNat_natCast, if_pos (by simp; omega), Option.bind_some, if_pos (by simp; omega), Option.bind_some, Option.bind_some, if_pos (by simp; omega), put_ev _ _ _ (by omega) (by omega), Option.bind_some, e1, e2]
      simp [Trie.st, Trie.wd]
theorem remW_ev (l : TriePure.R) (s : ByteArray) (hl : l.length ≤ 1099511627776) (hu : TriePure.Up l) : Ev (fun k => spec_Words_Remove.f k (ks l) (vs l) s) (ks (TriePure.out (Trie.wd s) l), vs (TriePure.out (Trie.wd s) l)) := by
  obtain ⟨K, h⟩ := at_ev l s hl
  refine ⟨K, fun k hk => ?_⟩
  have h' : spec_Words_at.f k (ks l) (vs l) s = some ((rank (Trie.wd s) l : Int), here (Trie.wd s) l) := h k hk
  show spec_Words_Remove.f k (ks l) (vs l) s = _
  unfold spec_Words_Remove.f
  rw [h', Option.bind_some]
  have hv : (vs l).length = l.length := List.length_map ..
  have hkl : (ks l).length = l.length := List.length_map ..
  cases q : here (Trie.wd s) l with
  | true =>
    have hr := rank_lt _ l q
    dsimp only
    rw [if_pos rfl, Option.bind_some, if_pos (by omega), if_pos (by omega), Option.bind_some, Int.toNat_natCast, if_pos (by simp; omega), Option.bind_some, w1 _ (by omega), if_pos (by omega), if_pos (by omega), Option.bind_some, Int.toNat_natCast, if_pos (by simp; omega), cut_ev _ _ (by omega) (by omega), Option.bind_some, out_here _ l hu q]
    simp [ks, vs, List.map_take, List.map_drop]
  | false =>
    dsimp only
    rw [if_neg (by simp), out_not _ l hu q]
theorem st_size (p : TriePure.W) : (Trie.st p).size = p.length := by
  show p.toArray.size = _
  simp
theorem most_cons (q p : TriePure.W) (l : List TriePure.W) : TriePure.T.most q (p :: l) = if TriePure.T.pre p q = true then max p.length (TriePure.T.most q l) else TriePure.T.most q l := by
  unfold TriePure.T.most
  by_cases h : TriePure.T.pre p q = true
  · rw [if_pos h, List.filter_cons_of_pos (p := fun p => TriePure.T.pre p q) h]
    rfl
  · rw [if_neg h, List.filter_cons_of_neg (p := fun p => TriePure.T.pre p q) h]
theorem long_row (l : TriePure.R) (s : ByteArray) (hl : l.length ≤ 1099511627776) (d : Nat) : ∀ (j m : Nat) (b : Bool), j + d = l.length → m ≤ (Trie.wd s).length → (b = false → m = 0) →
    ∃ b', Ev (fun k => spec_Longest.l0 k (ks l) s (Trie.st ((Trie.wd s).take m)) b (j : Int)) (Trie.st ((Trie.wd s).take (max m (TriePure.T.most (Trie.wd s) (TriePure.heads (l.drop j))))), b') := by
  have hk : (ks l).length = l.length := List.length_map ..
  have hw : (Trie.wd s).length = s.size := by simp [Trie.wd]
  induction d with
  | zero =>
    intro j m b hj hm _
    refine ⟨b, Ev.step (f := fun _ => some (Trie.st ((Trie.wd s).take (max m (TriePure.T.most (Trie.wd s) (TriePure.heads (l.drop j))))), b)) (fun k => ?_) (Ev.now _)⟩
    simp only [spec_Longest.l0]
    rw [if_neg (by omega), List.drop_eq_nil_of_le (by omega)]
    simp [TriePure.heads, TriePure.T.most]
  | succ d ih =>
    intro j m b hj hm hb
    have hjl : j < l.length := by omega
    have hd : TriePure.heads (l.drop j) = l[j].1 :: TriePure.heads (l.drop (j + 1)) := congrArg TriePure.heads (List.drop_eq_getElem_cons hjl)
    have hr : rdOf ByteArray.empty (ks l) (j : Int) = Trie.st l[j].1 := by rw [rd_str (by omega)]; exact List.getElem_map ..
    rw [hd, most_cons]
    generalize l[j].1 = p at hr
    by_cases q : TriePure.T.pre p (Trie.wd s) = true
    · have hp : (Trie.wd s).take p.length = p := by rw [pre_take] at q; exact of_decide_eq_true q
      have hpl : p.length ≤ (Trie.wd s).length := by
        have := congrArg List.length hp
        rw [List.length_take] at this
        omega
      have hsz : (Trie.st p).size = p.length := st_size p
      have hsm : (Trie.st ((Trie.wd s).take m)).size = m := by rw [st_size, List.length_take]; omega
      rw [if_pos q]
      have new : m ≤ p.length → (∀ k, spec_Longest.l0 (k + 1) (ks l) s (Trie.st ((Trie.wd s).take m)) b (j : Int) = spec_Longest.l0 k (ks l) s (Trie.st p) true ((j + 1 : Nat) : Int)) → ∃ b', Ev (fun k => spec_Longest.l0 k (ks l) s (Trie.st ((Trie.wd s).take m)) b (j : Int)) (Trie.st ((Trie.wd s).take (max m (max p.length (TriePure.T.most (Trie.wd s) (TriePure.heads (l.drop (j + 1))))))), b') := fun hle hst => by
        obtain ⟨b', hE⟩ := ih (j + 1) p.length true (by omega) hpl (fun e => by cases e)
        refine ⟨b', ?_⟩
        rw [show max m (max p.length (TriePure.T.most (Trie.wd s) (TriePure.heads (l.drop (j + 1))))) = max p.length (TriePure.T.most (Trie.wd s) (TriePure.heads (l.drop (j + 1)))) by omega]
        rw [hp] at hE
        exact Ev.step hst hE
      cases b with
      | false =>
        refine new (by rw [hb rfl]; omega) (fun k => ?_)
        simp only [spec_Longest.l0]
        rw [if_pos (by omega), if_pos (by omega), hr, begins_ev, Option.bind_some, wd_st, if_pos q, if_neg (by simp), w1 j (by omega)]
      | true =>
        by_cases c : p.length > m
        · refine new (by omega) (fun k => ?_)
          simp only [spec_Longest.l0]
          rw [if_pos (by omega), if_pos (by omega), hr, begins_ev, Option.bind_some, wd_st, if_pos q, if_pos trivial, hsz, hsm, if_pos (by omega), w1 j (by omega)]
        · obtain ⟨b', hE⟩ := ih (j + 1) m true (by omega) hm hb
          refine ⟨b', ?_⟩
          rw [show max m (max p.length (TriePure.T.most (Trie.wd s) (TriePure.heads (l.drop (j + 1))))) = max m (TriePure.T.most (Trie.wd s) (TriePure.heads (l.drop (j + 1)))) by omega]
          refine Ev.step (fun k => ?_) hE
          simp only [spec_Longest.l0]
          rw [if_pos (by omega), if_pos (by omega), hr, begins_ev, Option.bind_some, wd_st, if_pos q, if_pos trivial, hsz, hsm, if_neg (by omega), w1 j (by omega)]
    · rw [if_neg q]
      obtain ⟨b', hE⟩ := ih (j + 1) m b (by omega) hm hb
      refine ⟨b', Ev.step (fun k => ?_) hE⟩
      simp only [spec_Longest.l0]
      rw [if_pos (by omega), if_pos (by omega), hr, begins_ev, Option.bind_some, wd_st, if_neg q, w1 j (by omega)]
theorem long_ev (l : TriePure.R) (s : ByteArray) (hl : l.length ≤ 1099511627776) : ∃ b, Ev (fun k => spec_Longest.f k (ks l) s) (Trie.st ((Trie.wd s).take (TriePure.T.most (Trie.wd s) (TriePure.heads l))), b) := by
  obtain ⟨b, h⟩ := long_row l s hl l.length 0 0 false (Nat.zero_add _) (Nat.zero_le _) (fun _ => rfl)
  rw [List.drop_zero, Nat.zero_max] at h
  exact ⟨b, h⟩
theorem toldT_len : ∀ (a : List Trie.Wd3) (p : Int × TriePure.T), (Trie.toldT p a).length = a.length
  | [], _ => rfl
  | _ :: a, _ => congrArg (· + 1) (toldT_len a _)
/-- What a trie is behind a script. -/
theorem okt_run : ∀ (l : List Trie.Wd3) (i : Nat) (n : Int) (t : TriePure.T), Trie.Okt i t → (-(i : Int) ≤ n ∧ n ≤ i) → (∀ a ∈ l, a.2.1.size ≤ 1099511627776) → Trie.Okt (i + l.length) (Trie.runT (n, t) l).2 ∧ -((i + l.length : Nat) : Int) ≤ (Trie.runT (n, t) l).1 ∧ (Trie.runT (n, t) l).1 ≤ ((i + l.length : Nat) : Int)
  | [], i, n, t, h, hn, _ => ⟨h, hn⟩
  | (d, s, v) :: l, i, n, t, h, hn, hs => by
    have hs0 : s.size ≤ 1099511627776 := hs _ List.mem_cons_self
    obtain ⟨n', t', e, h1, h2⟩ : ∃ n' t', Trie.stepT (n, t) (d, s, v) = (n', t') ∧ Trie.Okt (i + 1) t' ∧ (-((i + 1 : Nat) : Int) ≤ n' ∧ n' ≤ ((i + 1 : Nat) : Int)) := by
      unfold Trie.stepT
      dsimp only
      split
      · obtain ⟨a, b, c⟩ := h.put (v := v) hn hs0
        exact ⟨(Trie.putT s v (n, t)).1, (Trie.putT s v (n, t)).2, rfl, a, by omega, by omega⟩
      · split
        · obtain ⟨a, b, c⟩ := h.rem (s := s) hn
          exact ⟨(Trie.remT s (n, t)).1, (Trie.remT s (n, t)).2, rfl, a, by omega, by omega⟩
        · exact ⟨_, _, rfl, h.more, by omega, by omega⟩
    have hr := okt_run l (i + 1) n' t' h1 h2 (fun a ha => hs a (List.mem_cons_of_mem _ ha))
    rw [show i + ((d, s, v) :: l).length = i + 1 + l.length by simp only [List.length_cons]; omega]
    show Trie.Okt _ (Trie.runT (Trie.stepT (n, t) (d, s, v)) l).2 ∧ _ ≤ (Trie.runT (Trie.stepT (n, t) (d, s, v)) l).1 ∧ (Trie.runT (Trie.stepT (n, t) (d, s, v)) l).1 ≤ _
    rw [e]
    exact hr
theorem okt_nil : Trie.Okt 0 .nil := ⟨trivial, trivial, fun p hp => by simp [TriePure.T.words] at hp, Nat.le_refl _⟩
/-- What a step makes of the words, and what it tells, by definition. -/
def newW (x : S30) (l : TriePure.R) : TriePure.R := if x.f0 = 0 then putW x.f1 x.f2 l else if x.f0 = 1 then TriePure.out (Trie.wd x.f1) l else l
def sayW (x : S30) (l : TriePure.R) : Trie.Say4 :=
  if x.f0 = 2 then ((tell (TriePure.look (Trie.wd x.f1) l)).1, (tell (TriePure.look (Trie.wd x.f1) l)).2, (⟨#[]⟩ : ByteArray), []) else if x.f0 = 3 then (0, (tell (TriePure.look (Trie.wd x.f1) l)).2, (⟨#[]⟩ : ByteArray), []) else if x.f0 = 4 then (0, false, (⟨#[]⟩ : ByteArray), ks l)
  else if x.f0 = 5 then (0, false, (⟨#[]⟩ : ByteArray), (ks l).filter (fun t => TriePure.T.pre (Trie.wd x.f1) (Trie.wd t))) else if x.f0 = 6 then (0, false, Trie.st ((Trie.wd x.f1).take (TriePure.T.most (Trie.wd x.f1) (TriePure.heads l))), []) else if x.f0 = 7 then ((l.length : Int), false, (⟨#[]⟩ : ByteArray), []) else (0, false, (⟨#[]⟩ : ByteArray), [])
theorem up_out (w : TriePure.W) {l : TriePure.R} (h : TriePure.Up l) : TriePure.Up (TriePure.out w l) := List.Pairwise.filter _ h
theorem no_empty (t : TriePure.T) : ∀ p ∈ TriePure.T.words t, p.1 ≠ [] := fun p hp e => by
  obtain ⟨k, ks, e1, _⟩ := TriePure.T.words_head t p hp
  rw [e] at e1
  cases e1
theorem words_put (n : Int) {t : TriePure.T} (ho : TriePure.T.Ord t) (s : ByteArray) (v : Int) : TriePure.T.words (Trie.putT s v (n, t)).2 = putW s v (TriePure.T.words t) := by
  unfold Trie.putT putW
  by_cases z : s.size = 0
  · rw [if_pos z, if_pos z]
  · rw [if_neg z, if_neg z]
    obtain ⟨k, ks, e⟩ := Trie.wd_cons z
    show TriePure.T.words (TriePure.T.put v t (Trie.wd s)) = _
    rw [e, TriePure.T.words_put v t k ks ho]
theorem words_rem (n : Int) {t : TriePure.T} (ho : TriePure.T.Ord t) (s : ByteArray) : TriePure.T.words (Trie.remT s (n, t)).2 = TriePure.out (Trie.wd s) (TriePure.T.words t) := by
  unfold Trie.remT
  by_cases z : s.size = 0
  · rw [if_pos z, Trie.wd_nil z, TriePure.out_none (no_empty t)]
  · rw [if_neg z]
    obtain ⟨k, ks, e⟩ := Trie.wd_cons z
    show TriePure.T.words (TriePure.T.rem t (Trie.wd s)) = _
    rw [e, (TriePure.T.rem_all t k ks ho).1]
theorem words_new (n : Int) {t : TriePure.T} (ho : TriePure.T.Ord t) (x : S30) : TriePure.T.words (Trie.stepT (n, t) (word_of x)).2 = newW x (TriePure.T.words t) := by
  unfold Trie.stepT newW
  show TriePure.T.words (if x.f0 = 0 then Trie.putT x.f1 x.f2 (n, t) else if x.f0 = 1 then Trie.remT x.f1 (n, t) else (n, t)).2 = _
  split
  · exact words_put n ho _ _
  · split
    · exact words_rem n ho _
    · rfl
theorem look_empty {l : TriePure.R} (h : ∀ p ∈ l, p.1 ≠ []) : TriePure.look [] l = none := by
  unfold TriePure.look
  rw [List.find?_eq_none.2 (fun x hx => by simpa using h x hx)]
  rfl
theorem got_tell {t : TriePure.T} (ho : TriePure.T.Ord t) (s : ByteArray) : Trie.got t (Trie.wd s) = tell (TriePure.look (Trie.wd s) (TriePure.T.words t)) := by
  have h : TriePure.T.find t (Trie.wd s) = TriePure.look (Trie.wd s) (TriePure.T.words t) := by
    by_cases z : s.size = 0
    · rw [Trie.wd_nil z, Trie.find_nil, look_empty (no_empty t)]
    · obtain ⟨k, ks, e⟩ := Trie.wd_cons z
      rw [e, TriePure.T.find_look t k ks ho]
  unfold Trie.got tell
  rw [h]
  cases TriePure.look (Trie.wd s) (TriePure.T.words t) <;> rfl
theorem st_take (s : ByteArray) (m : Nat) : s.extract 0 m = Trie.st ((Trie.wd s).take m) := by
  rw [← Trie.st_wd (s.extract 0 m)]
  congr 1
  simp [Trie.wd]
theorem ks_words (t : TriePure.T) : Trie.keysT t = ks (TriePure.T.words t) := by
  unfold Trie.keysT Trie.texts
  exact List.map_congr_left (fun p _ => by simp)
theorem ks_with {i : Nat} {t : TriePure.T} (h : Trie.Okt i t) (s : ByteArray) : Trie.keysOf t s = (ks (TriePure.T.words t)).filter (fun x => TriePure.T.pre (Trie.wd s) (Trie.wd x)) := by
  rw [keysOf_eq h]
  unfold ks TriePure.heads
  rw [List.filter_map, List.filter_map, List.map_map]
  congr 1
theorem long_same {t : TriePure.T} (ho : TriePure.T.Ord t) (s : ByteArray) : Trie.longS t s = Trie.st ((Trie.wd s).take (TriePure.T.most (Trie.wd s) (TriePure.heads (TriePure.T.words t)))) := by
  unfold Trie.longS
  rw [TriePure.T.long_most t _ 0 0 ho, Nat.zero_add, st_take]
  congr 2
  split
  · rename_i h; rw [h]
  · rfl
theorem tell_same {i : Nat} {t : TriePure.T} (h : Trie.Okt i t) (n : Int) (x : S30) (hx : x.f0 = 7 → n = ((TriePure.T.words t).length : Int)) : Trie.tellT (n, t) (word_of x) = sayW x (TriePure.T.words t) := by
  unfold Trie.tellT sayW word_of
  dsimp only
  rw [got_tell h.ord, ks_words, ks_with h, long_same h.ord]
  by_cases q : x.f0 = 7
  · rw [hx q]
  · rw [if_neg q, if_neg q]
/-- All texts that are removed are there then. -/
def goneW : TriePure.R → List S30 → Bool
  | _, [] => true
  | l, x :: xs => if x.f0 = 1 ∧ (tell (TriePure.look (Trie.wd x.f1) l)).2 = false then false else goneW (newW x l) xs
def saidW : TriePure.R → List S30 → List Trie.Say4
  | _, [] => []
  | l, x :: xs => sayW x l :: saidW (newW x l) xs
theorem saidW_len : ∀ (xs : List S30) (l : TriePure.R), (saidW l xs).length = xs.length
  | [], _ => rfl
  | _ :: xs, _ => congrArg (· + 1) (saidW_len xs _)
theorem out_len {w : TriePure.W} : ∀ {l : TriePure.R}, TriePure.Up l → (tell (TriePure.look w l)).2 = true → (TriePure.out w l).length + 1 = l.length := fun {l} hu h => by
  rw [look_rank w l hu] at h
  cases q : here w l with
  | false => rw [q, if_neg (by simp)] at h; cases h
  | true =>
    have := rank_lt w l q
    rw [out_here w l hu q, List.length_append, List.length_take, List.length_drop]
    omega
theorem ins_len {w : TriePure.W} {v : Int} {l : TriePure.R} (hu : TriePure.Up l) : (TriePure.ins w v l).length = if (tell (TriePure.look w l)).2 = true then l.length else l.length + 1 := by
  have hlen : (ks (TriePure.ins w v l)).length = (TriePure.ins w v l).length := List.length_map ..
  have hk : (ks l).length = l.length := List.length_map ..
  have hv : (vs l).length = l.length := List.length_map ..
  rw [look_rank w l hu]
  cases q : here w l with
  | false =>
    have := rank_le w l
    rw [if_neg (show ¬ (false = true) by simp)]
    show _ = if false = true then _ else _
    rw [if_neg (by simp), ← hlen, (ins_new w v l q).1, List.length_append, List.length_cons, List.length_take, List.length_drop]
    omega
  | true =>
    have := rank_lt w l q
    rw [if_pos rfl, List.getElem?_eq_getElem (by omega)]
    show _ = if true = true then _ else _
    rw [if_pos rfl, ← hlen, (ins_here w v l q).1, hk]
theorem count_new {t : TriePure.T} (ho : TriePure.T.Ord t) (n : Int) (x : S30) (hn : n = ((TriePure.T.words t).length : Int)) (hx : ¬ (x.f0 = 1 ∧ (tell (TriePure.look (Trie.wd x.f1) (TriePure.T.words t))).2 = false)) :
    (Trie.stepT (n, t) (word_of x)).1 = ((newW x (TriePure.T.words t)).length : Int) := by
  have hu := TriePure.T.up_words ho
  unfold Trie.stepT newW
  show (if x.f0 = 0 then Trie.putT x.f1 x.f2 (n, t) else if x.f0 = 1 then Trie.remT x.f1 (n, t) else (n, t)).1 = _
  by_cases q : x.f0 = 0
  · rw [if_pos q, if_pos q]
    unfold Trie.putT putW
    by_cases z : x.f1.size = 0
    · rw [if_pos z, if_pos z]; exact hn
    · rw [if_neg z, if_neg z, ins_len hu, got_tell ho]
      show (if _ then n else n + 1) = _
      split
      · exact hn
      · rw [hn]; rfl
  · rw [if_neg q, if_neg q]
    by_cases q1 : x.f0 = 1
    · rw [if_pos q1, if_pos q1]
      have hg : (tell (TriePure.look (Trie.wd x.f1) (TriePure.T.words t))).2 = true := by
        cases e : (tell (TriePure.look (Trie.wd x.f1) (TriePure.T.words t))).2 with
        | true => rfl
        | false => exact absurd ⟨q1, e⟩ hx
      have hl := out_len hu hg
      unfold Trie.remT
      by_cases z : x.f1.size = 0
      · rw [Trie.wd_nil z, look_empty (no_empty t)] at hg
        cases hg
      · rw [if_neg z]
        show n - 1 = _
        omega
    · rw [if_neg q1, if_neg q1]; exact hn
theorem okt_step {i : Nat} {n : Int} {t : TriePure.T} (h : Trie.Okt i t) (hn : -(i : Int) ≤ n ∧ n ≤ i) (x : S30) (hs : x.f1.size ≤ 1099511627776) :
    Trie.Okt (i + 1) (Trie.stepT (n, t) (word_of x)).2 ∧ -((i + 1 : Nat) : Int) ≤ (Trie.stepT (n, t) (word_of x)).1 ∧ (Trie.stepT (n, t) (word_of x)).1 ≤ ((i + 1 : Nat) : Int) := by
  have := okt_run [word_of x] i n t h hn (fun a ha => by rw [List.mem_singleton] at ha; subst ha; exact hs)
  exact this
theorem same_at : ∀ (xs : List S30) (i : Nat) (n : Int) (t : TriePure.T) (b : Bool), Trie.Okt i t → (-(i : Int) ≤ n ∧ n ≤ i) → (∀ x ∈ xs, x.f1.size ≤ 1099511627776) → (b = true → n = ((TriePure.T.words t).length : Int) ∧ goneW (TriePure.T.words t) xs = true) →
    ∀ (j : Nat) (x : S30), xs[j]? = some x → ∃ n' t', Trie.Okt (i + xs.length) t' ∧ (Trie.toldT (n, t) (xs.map word_of))[j]? = some (Trie.tellT (n', t') (word_of x)) ∧ (saidW (TriePure.T.words t) xs)[j]? = some (sayW x (TriePure.T.words t')) ∧ (b = true → n' = ((TriePure.T.words t').length : Int))
  | [], _, _, _, _, _, _, _, _, j, x, hj => by simp at hj
  | x :: xs, i, n, t, b, h, hn, hs, hb, 0, y, hj => by
    obtain rfl : x = y := by simpa using hj
    exact ⟨n, t, ⟨h.ord, h.used, h.long, Nat.le_trans h.many (Nat.le_add_right _ _)⟩, rfl, rfl, fun e => (hb e).1⟩
  | x :: xs, i, n, t, b, h, hn, hs, hb, j + 1, y, hj => by
    have hk := okt_step h hn x (hs x List.mem_cons_self)
    have hw := words_new n h.ord x
    obtain ⟨n', t', h1, h2, h3, h4⟩ := same_at xs (i + 1) (Trie.stepT (n, t) (word_of x)).1 (Trie.stepT (n, t) (word_of x)).2 b hk.1 hk.2 (fun a ha => hs a (List.mem_cons_of_mem _ ha)) (fun e => by
      obtain ⟨e1, e2⟩ := hb e
      unfold goneW at e2
      by_cases q : x.f0 = 1 ∧ (tell (TriePure.look (Trie.wd x.f1) (TriePure.T.words t))).2 = false
      · rw [if_pos q] at e2; cases e2
      · rw [if_neg q] at e2
        rw [hw]
        exact ⟨count_new h.ord n x e1 q, e2⟩) j y hj
    rw [hw] at h3
    refine ⟨n', t', ?_, h2, h3, h4⟩
    rw [show i + (x :: xs).length = i + 1 + xs.length by simp only [List.length_cons]; omega]
    exact h1
theorem step_ev (l : TriePure.R) (x : S30) (hl : l.length ≤ 1099511627776) (hu : TriePure.Up l) : Ev (fun k => spec_Words_Step.f k (ks l) (vs l) x.f0 x.f1 x.f2) (ks (newW x l), vs (newW x l), sayW x l) := by
  have hkl : (ks l).length = l.length := List.length_map ..
  unfold newW sayW
  by_cases q0 : x.f0 = 0
  · obtain ⟨K, h⟩ := putW_ev l x.f1 x.f2 hl
    refine ⟨K, fun k hk => ?_⟩
    have h' : spec_Words_Put.f k (ks l) (vs l) x.f1 x.f2 = _ := h k hk
    show spec_Words_Step.f k (ks l) (vs l) x.f0 x.f1 x.f2 = _
    unfold spec_Words_Step.f
    rw [if_pos q0, h', Option.bind_some, if_pos q0, q0]
    rfl
  by_cases q1 : x.f0 = 1
  · obtain ⟨K, h⟩ := remW_ev l x.f1 hl hu
    refine ⟨K, fun k hk => ?_⟩
    have h' : spec_Words_Remove.f k (ks l) (vs l) x.f1 = _ := h k hk
    show spec_Words_Step.f k (ks l) (vs l) x.f0 x.f1 x.f2 = _
    unfold spec_Words_Step.f
    rw [if_neg q0, if_pos q1, h', Option.bind_some, if_neg q0, if_pos q1, q1]
    rfl
  rw [if_neg q0, if_neg q1]
  by_cases q2 : x.f0 = 2
  · obtain ⟨K, h⟩ := get_ev l x.f1 hl hu
    refine ⟨K, fun k hk => ?_⟩
    have h' : spec_Words_Get.f k (ks l) (vs l) x.f1 = _ := h k hk
    show spec_Words_Step.f k (ks l) (vs l) x.f0 x.f1 x.f2 = _
    unfold spec_Words_Step.f
    rw [if_neg q0, if_neg q1, if_pos q2, h', Option.bind_some, if_pos q2]
  by_cases q3 : x.f0 = 3
  · obtain ⟨K, h⟩ := get_ev l x.f1 hl hu
    refine ⟨K, fun k hk => ?_⟩
    have h' : spec_Words_Get.f k (ks l) (vs l) x.f1 = _ := h k hk
    show spec_Words_Step.f k (ks l) (vs l) x.f0 x.f1 x.f2 = _
    unfold spec_Words_Step.f
    rw [if_neg q0, if_neg q1, if_neg q2, if_pos q3, h', Option.bind_some, if_neg q2, if_pos q3]
  by_cases q4 : x.f0 = 4
  · refine ⟨0, fun k _ => ?_⟩
    show spec_Words_Step.f k (ks l) (vs l) x.f0 x.f1 x.f2 = _
    unfold spec_Words_Step.f
    rw [if_neg q0, if_neg q1, if_neg q2, if_neg q3, if_pos q4, if_neg q2, if_neg q3, if_pos q4]
  by_cases q5 : x.f0 = 5
  · obtain ⟨K, h⟩ := with_ev (ks l) x.f1 (by omega)
    refine ⟨K, fun k hk => ?_⟩
    have h' : spec_With.f k (ks l) x.f1 = _ := h k hk
    show spec_Words_Step.f k (ks l) (vs l) x.f0 x.f1 x.f2 = _
    unfold spec_Words_Step.f
    rw [if_neg q0, if_neg q1, if_neg q2, if_neg q3, if_neg q4, if_pos q5, h', Option.bind_some, if_neg q2, if_neg q3, if_neg q4, if_pos q5]
  by_cases q6 : x.f0 = 6
  · obtain ⟨b, K, h⟩ := long_ev l x.f1 hl
    refine ⟨K, fun k hk => ?_⟩
    have h' : spec_Longest.f k (ks l) x.f1 = _ := h k hk
    show spec_Words_Step.f k (ks l) (vs l) x.f0 x.f1 x.f2 = _
    unfold spec_Words_Step.f
    rw [if_neg q0, if_neg q1, if_neg q2, if_neg q3, if_neg q4, if_neg q5, if_pos q6, h', Option.bind_some, if_neg q2, if_neg q3, if_neg q4, if_neg q5, if_pos q6]
  refine ⟨0, fun k _ => ?_⟩
  show spec_Words_Step.f k (ks l) (vs l) x.f0 x.f1 x.f2 = _
  unfold spec_Words_Step.f
  rw [if_neg q0, if_neg q1, if_neg q2, if_neg q3, if_neg q4, if_neg q5, if_neg q6, if_neg q2, if_neg q3, if_neg q4, if_neg q5, if_neg q6]
  by_cases q7 : x.f0 = 7
  · rw [if_pos q7, if_pos q7, hkl]
  · rw [if_neg q7, if_neg q7]
theorem up_ins {w : TriePure.W} {v : Int} : ∀ {l : TriePure.R}, TriePure.Up l → TriePure.Up (TriePure.ins w v l)
  | [], _ => by simp [TriePure.ins, TriePure.Up]
  | p :: l, h => by
    obtain ⟨h1, h2⟩ := List.pairwise_cons.1 h
    simp only [TriePure.ins]
    split
    · rename_i q
      refine List.pairwise_cons.2 ⟨fun y hy => ?_, up_ins h2⟩
      rcases Trie.ins_mem w v l y hy with e | ⟨z, hz, e⟩
      · rw [e]; exact q
      · rw [← e]; exact h1 z hz
    · split
      · exact List.pairwise_cons.2 ⟨h1, h2⟩
      · rename_i q q2
        have hl : TriePure.lt w p.1 = true := TriePure.lt_tot _ _ (by simpa using q) q2
        refine List.pairwise_cons.2 ⟨fun y hy => ?_, h⟩
        rcases List.mem_cons.1 hy with e | hy
        · rw [e]; exact hl
        · exact TriePure.lt_tr _ _ _ hl (h1 y hy)
theorem up_new (x : S30) {l : TriePure.R} (h : TriePure.Up l) : TriePure.Up (newW x l) := by
  unfold newW putW
  split
  · split
    · exact h
    · exact up_ins h
  · split
    · exact up_out _ h
    · exact h
theorem len_new (x : S30) (l : TriePure.R) : (newW x l).length ≤ l.length + 1 := by
  unfold newW putW
  split
  · split
    · omega
    · exact Trie.ins_len _ _ _
  · split
    · exact Nat.le_succ_of_le (List.length_filter_le _ _)
    · omega
theorem said_row (xs : List S30) (hl : xs.length ≤ 2147483647) (d : Nat) : ∀ (j : Nat) (l : TriePure.R) (o : List S26), j + d = xs.length → l.length ≤ j → TriePure.Up l → o.length ≤ j → Ev (fun k => spec_Said.l0 k xs o (j : Int) (ks l) (vs l)) (o ++ (saidW l (xs.drop j)).map say_of) := by
  induction d with
  | zero =>
    intro j l o hj _ _ _
    refine Ev.step (f := fun _ => some (o ++ (saidW l (xs.drop j)).map say_of)) (fun k => ?_) (Ev.now _)
    simp only [spec_Said.l0]
    rw [if_neg (by omega), List.drop_eq_nil_of_le (by omega)]
    simp [saidW]
  | succ d ih =>
    intro j l o hj hlj hu ho
    have hjl : j < xs.length := by omega
    have hx : xs[j]? = some xs[j] := List.getElem?_eq_getElem hjl
    have hd : xs.drop j = xs[j] :: xs.drop (j + 1) := List.drop_eq_getElem_cons hjl
    generalize xs[j] = x at hx hd
    have hn := len_new x l
    obtain ⟨K1, h1⟩ := step_ev l x (by omega) hu
    obtain ⟨K2, h2⟩ := ih (j + 1) (newW x l) (o ++ [say_of (sayW x l)]) (by omega) (by omega) (up_new x hu) (by simp; omega)
    refine ⟨K1 + K2 + 1, fun k hk => ?_⟩
    obtain ⟨m, rfl⟩ : ∃ m, k = m + 1 := ⟨k - 1, by omega⟩
    have h1' : spec_Words_Step.f m (ks l) (vs l) x.f0 x.f1 x.f2 = _ := h1 m (by omega)
    have h2' : spec_Said.l0 m xs (o ++ [say_of (sayW x l)]) ((j + 1 : Nat) : Int) (ks (newW x l)) (vs (newW x l)) = _ := h2 m (by omega)
    show spec_Said.l0 (m + 1) xs o (j : Int) (ks l) (vs l) = _
    simp only [spec_Said.l0]
    rw [if_pos (by omega), if_pos (by omega), rd_word hx, h1', Option.bind_some, if_pos (by omega), w1 j (by omega)]
    refine h2'.trans ?_
    rw [hd]
    simp [saidW]
theorem said_ev (xs : List S30) (hl : xs.length ≤ 2147483647) : Ev (fun k => spec_Said.f k xs) ((saidW [] xs).map say_of) := said_row xs hl xs.length 0 [] [] (Nat.zero_add _) (Nat.le_refl _) List.Pairwise.nil (Nat.le_refl _)
theorem gone_row (xs : List S30) (hl : xs.length ≤ 2147483647) (d : Nat) : ∀ (j : Nat) (l : TriePure.R), j + d = xs.length → l.length ≤ j → TriePure.Up l → Ev (fun k => spec_Removed.l0 k xs (j : Int) (ks l) (vs l)) (goneW l (xs.drop j)) := by
  induction d with
  | zero =>
    intro j l hj _ _
    refine Ev.step (f := fun _ => some (goneW l (xs.drop j))) (fun k => ?_) (Ev.now _)
    simp only [spec_Removed.l0]
    rw [if_neg (by omega), List.drop_eq_nil_of_le (by omega)]
    rfl
  | succ d ih =>
    intro j l hj hlj hu
    have hjl : j < xs.length := by omega
    have hx : xs[j]? = some xs[j] := List.getElem?_eq_getElem hjl
    have hd : xs.drop j = xs[j] :: xs.drop (j + 1) := List.drop_eq_getElem_cons hjl
    generalize xs[j] = x at hx hd
    have hn := len_new x l
    obtain ⟨K0, h0⟩ := get_ev l x.f1 (by omega) hu
    obtain ⟨K1, h1⟩ := step_ev l x (by omega) hu
    obtain ⟨K2, h2⟩ := ih (j + 1) (newW x l) (by omega) (by omega) (up_new x hu)
    refine ⟨K0 + K1 + K2 + 1, fun k hk => ?_⟩
    obtain ⟨m, rfl⟩ : ∃ m, k = m + 1 := ⟨k - 1, by omega⟩
    have h0' : spec_Words_Get.f m (ks l) (vs l) x.f1 = _ := h0 m (by omega)
    have h1' : spec_Words_Step.f m (ks l) (vs l) x.f0 x.f1 x.f2 = _ := h1 m (by omega)
    have h2' : spec_Removed.l0 m xs ((j + 1 : Nat) : Int) (ks (newW x l)) (vs (newW x l)) = _ := h2 m (by omega)
    show spec_Removed.l0 (m + 1) xs (j : Int) (ks l) (vs l) = _
    simp only [spec_Removed.l0]
    rw [if_pos (by omega), if_pos (by omega), rd_word hx, h0', Option.bind_some, hd]
    simp only [goneW]
    by_cases q : x.f0 = 1
    · rw [if_pos q]
      cases g : (tell (TriePure.look (Trie.wd x.f1) l)).2 with
      | true => rw [if_pos rfl, h1', Option.bind_some, w1 j (by omega), if_neg (by simp)]; exact h2'
      | false => rw [if_neg (by simp), if_pos ⟨q, rfl⟩]
    · rw [if_neg q, h1', Option.bind_some, w1 j (by omega), if_neg (fun e => q e.1)]; exact h2'
theorem gone_ev (xs : List S30) (hl : xs.length ≤ 2147483647) : Ev (fun k => spec_Removed.f k xs) (goneW [] xs) := gone_row xs hl xs.length 0 [] (Nat.zero_add _) (Nat.le_refl _) List.Pairwise.nil
theorem same_says (d v : Int) (b : Bool) (s : ByteArray) (l : List ByteArray) (hl : l.length ≤ 1099511627776) : Ev (fun k => spec_SameSays.f k d v b s l v b s l) true := by
  obtain ⟨K, h⟩ := same_words l hl
  refine ⟨K, fun k hk => ?_⟩
  have h' : spec_SameWords.f k l l = some true := h k hk
  show spec_SameSays.f k d v b s l v b s l = some true
  unfold spec_SameSays.f
  rw [if_neg (by simp), if_pos rfl, h', Option.bind_some, if_pos rfl]
  simp
theorem keys_len (x : S30) (l : TriePure.R) : (sayW x l).2.2.2.length ≤ l.length := by
  have hkl : (ks l).length = l.length := List.length_map ..
  unfold sayW
  repeat' split
  all_goals first | exact Nat.zero_le _ | exact Nat.le_of_eq hkl | exact Nat.le_trans (List.length_filter_le _ _) (Nat.le_of_eq hkl)
theorem word_same {i : Nat} {n : Int} {t : TriePure.T} (h : Trie.Okt i t) (hi : i ≤ 1099511627776) (x : S30) (b : Bool) (hb : b = true → n = ((TriePure.T.words t).length : Int)) :
    Ev (fun k => laws_wordSame.f k x.f0 (say_of (Trie.tellT (n, t) (word_of x))).f0 (say_of (Trie.tellT (n, t) (word_of x))).f1 (say_of (Trie.tellT (n, t) (word_of x))).f2 (say_of (Trie.tellT (n, t) (word_of x))).f3 (say_of (sayW x (TriePure.T.words t))).f0 (say_of (sayW x (TriePure.T.words t))).f1 (say_of (sayW x (TriePure.T.words t))).f2 (say_of (sayW x (TriePure.T.words t))).f3 b) true := by
  have hm := h.many
  have hk := keys_len x (TriePure.T.words t)
  by_cases q : x.f0 = 7 ∧ b = false
  · refine ⟨0, fun k _ => ?_⟩
    show laws_wordSame.f k _ _ _ _ _ _ _ _ _ _ = _
    unfold laws_wordSame.f
    rw [if_pos q.1, q.2, if_neg (by simp)]
  · have e : Trie.tellT (n, t) (word_of x) = sayW x (TriePure.T.words t) := tell_same h n x (fun e => hb (by
      cases b with
      | true => rfl
      | false => exact absurd ⟨e, rfl⟩ q))
    rw [e]
    obtain ⟨K, hh⟩ := same_says x.f0 (say_of (sayW x (TriePure.T.words t))).f0 (say_of (sayW x (TriePure.T.words t))).f1 (say_of (sayW x (TriePure.T.words t))).f2 (say_of (sayW x (TriePure.T.words t))).f3 (Nat.le_trans hk (Nat.le_trans hm hi))
    refine ⟨K, fun k hk => ?_⟩
    have h' := hh k hk
    dsimp only at h'
    show laws_wordSame.f k _ _ _ _ _ _ _ _ _ _ = _
    unfold laws_wordSame.f
    rw [h', Option.bind_some]
    by_cases q7 : x.f0 = 7
    · rw [if_pos q7, if_pos (by cases b with | true => rfl | false => exact absurd ⟨q7, rfl⟩ q)]
    · rw [if_neg q7]
theorem rd_says {l : List S26} {i : Nat} {x : S26} (h : l[i]? = some x) : rd_T26 l (i : Int) = x := by simp [rd_T26, List.getD_eq_getElem?_getD, h]
theorem law_row (l : List S30) (hl : l.length ≤ 2147483647) (hs : ∀ x ∈ l, x.f1.size ≤ 1099511627776) (d : Nat) : ∀ j : Nat, j + d = l.length → Ev (fun k => laws_FnTrieRuns.l0 k l ((Trie.toldT (0, .nil) (l.map word_of)).map say_of) ((saidW [] l).map say_of) (goneW [] l) (j : Int)) true := by
  have hg : ((Trie.toldT (0, .nil) (l.map word_of)).map say_of).length = l.length := by rw [List.length_map, toldT_len, List.length_map]
  have hw : ((saidW [] l).map say_of).length = l.length := by rw [List.length_map, saidW_len]
  induction d with
  | zero =>
    intro j hj
    refine Ev.step (f := fun _ => some true) (fun k => ?_) (Ev.now _)
    simp only [laws_FnTrieRuns.l0]
    rw [if_neg (by omega)]
  | succ d ih =>
    intro j hj
    have hjl : j < l.length := by omega
    have hx : l[j]? = some l[j] := List.getElem?_eq_getElem hjl
    generalize l[j] = x at hx
    obtain ⟨n, t, h1, h2, h3, h4⟩ := same_at l 0 0 .nil (goneW [] l) okt_nil (by simp) hs (fun e => ⟨rfl, e⟩) j x hx
    have h2' : ((Trie.toldT (0, .nil) (l.map word_of)).map say_of)[j]? = some (say_of (Trie.tellT (n, t) (word_of x))) := by rw [List.getElem?_map, h2]; rfl
    have h3' : ((saidW [] l).map say_of)[j]? = some (say_of (sayW x (TriePure.T.words t))) := by
      rw [List.getElem?_map]
      exact congrArg (Option.map say_of) h3
    obtain ⟨K1, e1⟩ := word_same h1 (by omega) x (goneW [] l) h4
    obtain ⟨K2, e2⟩ := ih (j + 1) (by omega)
    refine ⟨K1 + K2 + 1, fun k hk => ?_⟩
    obtain ⟨m, rfl⟩ : ∃ m, k = m + 1 := ⟨k - 1, by omega⟩
    have e1' := e1 m (by omega)
    have e2' := e2 m (by omega)
    dsimp only at e1' e2'
    show laws_FnTrieRuns.l0 (m + 1) _ _ _ _ _ = _
    simp only [laws_FnTrieRuns.l0]
    rw [if_pos (by omega), if_pos (by omega), if_pos (by omega), if_pos (by omega), rd_word hx, rd_says h2', rd_says h3', e1', Option.bind_some, if_pos rfl, w1 j (by omega)]
    exact e2'
theorem FnTrieRuns (l : List S30) : ∃ k, laws_FnTrieRuns.f k l = some true := by
  by_cases hl : l.length ≤ 2147483647
  · obtain ⟨K0, h0⟩ := fits6_ev l hl
    cases hq : short l with
    | false =>
      refine ⟨K0, ?_⟩
      have h0' : laws_zzFits6.f K0 l = some false := by rw [← hq]; exact h0 _ (by omega)
      unfold laws_FnTrieRuns.f
      rw [h0', Option.bind_some, if_neg (by simp)]
    | true =>
      have hs : ∀ x ∈ l, x.f1.size ≤ 1099511627776 := fun x hx => by
        have : x.f1.size ≤ 2147483647 := by simpa using List.all_eq_true.1 hq x hx
        omega
      obtain ⟨K1, h1⟩ := said_ev l hl
      obtain ⟨K2, h2⟩ := gone_ev l hl
      obtain ⟨K3, h3⟩ := law_row l hl hs l.length 0 (Nat.zero_add _)
      refine ⟨K0 + K1 + K2 + K3, ?_⟩
      have h0' : laws_zzFits6.f (K0 + K1 + K2 + K3) l = some true := by rw [← hq]; exact h0 _ (by omega)
      have h1' := h1 (K0 + K1 + K2 + K3) (by omega)
      have h2' := h2 (K0 + K1 + K2 + K3) (by omega)
      have h3' := h3 (K0 + K1 + K2 + K3) (by omega)
      dsimp only at h1' h2' h3'
      have hf : impl_TrieRun.f l = some ((Trie.toldT (0, .nil) (l.map word_of)).map say_of) := by
        unfold impl_TrieRun.f
        rw [if_pos ⟨by omega, List.all_eq_true.2 (fun y hy => by simpa using hs y hy)⟩]
      unfold laws_FnTrieRuns.f
      rw [h0', Option.bind_some, if_pos rfl, hf, Option.bind_some, h1', Option.bind_some, h2', Option.bind_some, if_pos (by simp [toldT_len, saidW_len])]
      exact h3'
  · refine ⟨1, ?_⟩
    unfold laws_FnTrieRuns.f
    rw [fits6_long l hl, Option.bind_some, if_neg (by simp)]
end Go.Proofs.Ytkgbflcbeeghoaa.Pure

namespace Go.Proofs.Ytkgbflcbeeghoaa.Open
open Go Go.Deep Go.Joins Go.ChangeShapes Go.WideShapes Go.ChangeAt Go.RowKit Go.Proofs.YtkgbflcbeeghoaaW.PrintWords Go.Proofs.YtkgbflcbeeghoaaW.PrintLast Go.Proofs.YtkgbflcbeeghoaaW.PrintMore
/-- What lies as_ data of type e reads as_ a kind says; ok: what is known of it besides. -/
def Reads (P : Program) (e : TypeId) {α : Type} (d : Kd α) (ok : α → Prop) : Prop :=
  P.cellsOf e = d.sz ∧ ∀ {H : Type} (enc : TypeId × Value → H) (w : World) (base : Nat) (spare : Nat → Bool) (held : Bool) (n : Nat) (cs : List Value) (x : DataW H × List MemPlace),
    DataW.trod enc P w base spare held n e cs = some x → ∃ a, d.K w a cs ∧ ok a
section
variable {P : Program} {α β γ δ ε : Type} {t e : TypeId}
theorem reads_int {k : IntKind} (ht : P.underlying e = some (.int k)) (hc : P.cellsOf e = 1) : Reads P e (Kd.int k) (fun n => (Lit.int k n).wf = true) :=
  ⟨hc, fun _ _ _ _ _ _ _ _ h => by
    obtain ⟨n, rfl, _, hw⟩ := DataW.trod_int ht h
    exact ⟨n, rfl, hw⟩⟩
theorem reads_string (ht : P.underlying e = some .string) (hc : P.cellsOf e = 1) : Reads P e Kd.string (fun s => s.size ≤ maxLen) :=
  ⟨hc, fun _ _ _ _ _ _ _ _ h => by
    obtain ⟨s, rfl, _, hw⟩ := DataW.trod_string ht h
    exact ⟨s, rfl, hw⟩⟩
theorem rows_of {p : Nat → α → Prop} : ∀ n : Nat, (∀ i, i < n → ∃ a, p i a) → ∃ xs : List α, xs.length = n ∧ ∀ j a, xs[j]? = some a → p j a
  | 0, _ => ⟨[], rfl, fun j a h => by simp at h⟩
  | n + 1, h => by
    obtain ⟨xs, hl, hx⟩ := rows_of n (fun i hi => h i (by omega))
    obtain ⟨a, ha⟩ := h n (Nat.lt_succ_self n)
    refine ⟨xs ++ [a], by simp [hl], fun j b hb => ?_⟩
    rcases Nat.lt_or_ge j xs.length with hj | hj
    · rw [List.getElem?_append_left hj] at hb
      exact hx j b hb
    · rw [List.getElem?_append_right hj] at hb
      have : j = n := by
        rcases Nat.eq_zero_or_pos (j - xs.length) with h0 | h0
        · omega
        · rw [List.getElem?_eq_none (by simp; omega)] at hb; cases hb
      subst this
      rw [hl, Nat.sub_self] at hb
      simp at hb
      exact hb ▸ ha
theorem open_C {d : Kd α} {ok : α → Prop} (hd : Reads P e d ok) (ht : P.underlying t = some (.slice e)) {H : Type} {enc : TypeId × Value → H} {w : World} {base : Nat} {spare : Nat → Bool} {held : Bool} {fuel : Nat} {cs : List Value} {x : DataW H × List MemPlace}
    (h : DataW.trod enc P w base spare held fuel t cs = some x) : ∃ A c xs, cs = [.slice A xs.length c] ∧ xs.length ≤ c ∧ c ≤ maxLen ∧ d.C w A xs.length xs ∧ ∀ a ∈ xs, ok a := by
  rcases open_slice ht h with ⟨rfl, _⟩ | ⟨a, len, cap, m, n, D, Pl, rfl, _, hl, hm, hmm, _, hx⟩
  · exact ⟨none, 0, [], rfl, Nat.le_refl _, by simp [maxLen], Kd.C_nil d w, fun a ha => by simp at ha⟩
  · have hle : len ≤ m := by rw [hmm]; split <;> omega
    obtain ⟨xs, hxl, hxs⟩ := rows_of (p := fun i (y : α) => ok y ∧ ∃ c, c.length = d.sz ∧ d.K w y c ∧ ∀ k u, c[k]? = some u → w.cell? (a.add (i * d.sz + k)) = some u) len (fun i hi => by
      obtain ⟨cs', h1, h2⟩ := hx i (by omega)
      obtain ⟨y, hy, hok⟩ := hd.2 _ _ _ _ _ _ _ _ h2
      obtain ⟨_, hlen, hcell⟩ := World.cells?_some h1
      rw [hd.1] at hlen hcell
      refine ⟨y, hok, cs', hlen, hy, fun k u hu => ?_⟩
      have hk : k < d.sz := by
        rw [← hlen]
        exact (List.getElem?_eq_some_iff.1 hu).1
      rw [← Go.Deep.add_add, hcell k hk, hu])
    subst hxl
    refine ⟨some a, cap, xs, rfl, hl, hm, ⟨rfl, by unfold maxLen at hm; omega, fun _ => ⟨a, rfl, fun j p hj => ?_⟩⟩, fun b hb => ?_⟩
    · exact (hxs j p hj).2
    · obtain ⟨j, hj, rfl⟩ := List.getElem_of_mem hb
      exact (hxs j _ (List.getElem?_eq_getElem hj)).1
/-- An argument of a slice's type, of whatever elements. -/
theorem open_arg {d : Kd α} {ok : α → Prop} (hd : Reads P e d ok) (ht : P.underlying t = some (.slice e)) {H : Type} {enc : TypeId × Value → H} {w : World} {base b2 : Nat} {spare : Nat → Bool} {held : Bool} {r : Reach} {v : Value} {x : DataW H} {ps : List MemPlace}
    (hv : Value.okWide P w r b2 t v) (h : DataW.Trod enc P w base spare held t v x ps) : ∃ A c xs, v = .slice A xs.length c ∧ xs.length ≤ c ∧ c ≤ maxLen ∧ d.C w A xs.length xs ∧ ∀ a ∈ xs, ok a := by
  obtain ⟨A, len, cap, rfl⟩ := okWide_slice ht hv
  obtain ⟨fuel, hf⟩ := h
  obtain ⟨A', c, xs, he, hl, hm, hC, hok⟩ := open_C hd ht hf
  simp only [Value.cells] at he
  injection he with he
  exact ⟨A', c, xs, he, hl, hm, hC, hok⟩
theorem trod_blocks {H : Type} {enc : TypeId × Value → H} {w : World} {base : Nat} {spare : Nat → Bool} {held : Bool} {v : Value} {x : DataW H} {ps : List MemPlace} (h : DataW.Trod enc P w base spare held t v x ps) : ∀ y ∈ ps, y.block < w.heap.size := by
  obtain ⟨m, hm⟩ := h
  exact DataW.trod_lt m _ _ _ hm
end
end Go.Proofs.Ytkgbflcbeeghoaa.Open

namespace Go.Proofs.Ytkgbflcbeeghoaa.fnTrieRuns
open Go Go.ChangeShapes Go.WideShapes Go.ChangeAt Go.RowKit Go.Proofs.YtkgbflcbeeghoaaW.PrintWords Go.Proofs.Ytkgbflcbeeghoaa.QFnTrieRuns
open Go.ChangeMaps (open_string shut_string)
set_option linter.unusedVariables false
set_option linter.unusedSimpArgs false
theorem own : ownKnob Try.prog.godebug = none := by kernel_rfl
theorem laidOut : laidOutB Try.prog = true := by kernel_rfl
set_option maxRecDepth 100000 in
theorem reads_T30 : Open.Reads Try.prog 30 k30 (fun x => (Lit.int .i64 x.f0).wf = true ∧ x.f1.size ≤ maxLen ∧ (Lit.int .i64 x.f2).wf = true) :=
  ⟨by kernel_rfl, fun enc w base spare held _ cs _ h => by
    obtain ⟨xs, n_, _, _, hl, hlen, hf⟩ := DataW.trod_struct Try.underlying30 h
    have hc : Try.prog.cellsOf 30 = 3 := by kernel_rfl
    rw [hc] at hl
    obtain ⟨c0, c1, c2, rfl⟩ : ∃ c0 c1 c2, cs = [c0, c1, c2] := by
      match cs, hl with
      | [c0, c1, c2], _ => exact ⟨c0, c1, c2, rfl⟩
    obtain ⟨y0, y1, y2, rfl⟩ : ∃ y0 y1 y2, xs = [y0, y1, y2] := by
      match xs, hlen with
      | [y0, y1, y2], _ => exact ⟨y0, y1, y2, rfl⟩
    have hc3 : Try.prog.cellsOf 3 = 1 := by kernel_rfl
    have hc9 : Try.prog.cellsOf 9 = 1 := by kernel_rfl
    have h0 : DataW.trod enc Try.prog w base spare held n_ 3 [c0] = some y0 := by
      have := hf 0 _ rfl
      simp only [List.getElem_toArray, List.getElem_cons_zero, List.getElem_cons_succ, hc3] at this
      exact this
    obtain ⟨a0, k0_, o0⟩ := ((Open.reads_int Try.underlying3 (by kernel_rfl))).2 _ _ _ _ _ _ _ _ h0
    replace k0_ : ((Kd.int .i64)).K w a0 [c0] := k0_
    have h1 : DataW.trod enc Try.prog w base spare held n_ 9 [c1] = some y1 := by
      have := hf 1 _ rfl
      simp only [List.getElem_toArray, List.getElem_cons_zero, List.getElem_cons_succ, hc9] at this
      exact this
    obtain ⟨a1, k1_, o1⟩ := ((Open.reads_string Try.underlying9 (by kernel_rfl))).2 _ _ _ _ _ _ _ _ h1
    replace k1_ : (Kd.string).K w a1 [c1] := k1_
    have h2 : DataW.trod enc Try.prog w base spare held n_ 3 [c2] = some y2 := by
      have := hf 2 _ rfl
      simp only [List.getElem_toArray, List.getElem_cons_zero, List.getElem_cons_succ, hc3] at this
      exact this
    obtain ⟨a2, k2_, o2⟩ := ((Open.reads_int Try.underlying3 (by kernel_rfl))).2 _ _ _ _ _ _ _ _ h2
    replace k2_ : ((Kd.int .i64)).K w a2 [c2] := k2_
    exact ⟨⟨a0, a1, a2⟩, ⟨[c0], [c1, c2], rfl, k0_, ⟨[c1], [c2], rfl, k1_, k2_⟩⟩, o0, o1, o2⟩⟩
set_option maxRecDepth 100000 in
theorem lifted (os : Os) (started : os.Started) (H : Type) (enc : TypeId × Value → H) :
    ReturnsInHanded {} Try.checked os 5 .any (Rows.fnTrieRunsSpec.pre6 enc Try.prog Try.f5 Rows.fnTrieRunsRow.domain false) (Rows.fnTrieRunsSpec.post enc Try.prog Try.f5 false true false false) := by
  refine returnsInHanded_of_change_sized (C := Try.checked) own started (by kernel_rfl) Try.func5
    (ChangeSpec.witness6 (enc := enc) (C := Try.checked) false ⟨#[], #[.slice none 0 0], []⟩ 8 (by kernel_rfl) (by kernel_rfl) (by kernel_rfl) (by kernel_rfl)) ?_
  intro W base args ds gs before hval0 hW hcnd hsz0 _
  have hsz : (DataW.weightsEach Try.prog (Try.f5.params.toList ++ Rows.fnTrieRunsSpec.plain.varTypes Try.prog) (ds ++ gs)).all (· ≤ reachBytes) = true := hsz0
  have hval : ∀ (j : Nat) t v, Try.f5.params[j]? = some t → args[j]? = some v → Value.okWide Try.prog W .any base t v := hval0
  have hW' := hW
  obtain ⟨p, q, hA0, hV, rfl, hfz, hnd⟩ := hW
  have hA : DataW.TrodAll enc Try.prog W 0 (fun _ => true) true Try.f5.params.toList args.toList ds p := hA0
  rw [Try.params5] at hA hval hsz
  obtain ⟨v0, vs0, d0, ds0, p0, q0, hargs, rfl, rfl, h0, r0⟩ := trodAll_cons hA
  obtain ⟨rfl, rfl, rfl⟩ := trodAll_nil r0
  obtain rfl : args = #[v0] := by cases args; simp_all
  obtain ⟨rfl, rfl⟩ := trodVars_none hV
  have k0 := h0
  have lt0 := Open.trod_blocks k0
  obtain ⟨A0, c0, l0, rfl, hc0, hm0, hr0, ok0⟩ := Open.open_arg (d := k30) reads_T30 Try.underlying22 (hval 0 22 v0 rfl rfl) h0
  clear hA0 hval0 hsz0 hsz
  obtain ⟨kk_, hk_⟩ := (Pure.FnTrieRuns l0 )
  refine (laws_FnTrieRuns.calls kk_ A0 c0 l0 true W hr0 hc0 hk_).mono fun e W' ⟨he, bel0⟩ => ?_
  have bel : Below W.heap.size W W' := bel0
  subst he
  exact ⟨_, rfl, _, _, _, [], _, [], hW', trodAll_mk1 (shut_bool Try.underlying4 _), (trodAll_cons_mk (Below.trod laidOut (by kernel_rfl) (of_decide_eq_true (by kernel_rfl)) k0 bel lt0) trodAll_mk0), rfl, bel.frame _, fun h => by cases h⟩
theorem over : Rows.fnTrieRunsRow.holds Try.pinned (OpenSpec.ofChange Rows.fnTrieRunsSpec) :=
  OpenClaim.holds_of_wide 5 Try.f5 rfl rfl rfl rfl rfl rfl rfl ⟨rfl, rfl, rfl, rfl, rfl⟩ rfl rfl rfl rfl rfl (by kernel_rfl) Try.func5 (by kernel_rfl)
    (of_decide_eq_true (by kernel_rfl)) (by unfold Func.isWrapper; first | (rw [if_pos (by decide +kernel)]; kernel_rfl) | (rw [if_neg (by decide +kernel)]; exact ⟨rfl, rfl⟩))
    (fun os started H enc _ => lifted os started H enc)
theorem proved : Rows.FnTrieRunsSaid := over
end Go.Proofs.Ytkgbflcbeeghoaa.fnTrieRuns
namespace Go.Proofs.Ytkgbflcbeeghoaa
/-- The row, under a short name, for the claim. -/
theorem fnTrieRuns_holds : Rows.FnTrieRunsSaid := fnTrieRuns.proved
end Go.Proofs.Ytkgbflcbeeghoaa
