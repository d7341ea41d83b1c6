/- The machine's side of a law, as the kit's print writes it; of the functions that the print doesn't cover this session's own contracts stand in it: no condition. -/
import Derived.Test.YtmnjkdbopafkfaaQFnOverlapsPartsx0
import Derived.Test.YtmnjkdbopafkfaaQFnOverlapsPartsx1
import Derived.Test.YtmnjkdbopafkfaaQFnOverlapsPartsx2
namespace Go.Proofs.Ytmnjkdbopafkfaa.QFnOverlapsParts
open Go.RowKit Go.Proofs.YtmnjkdbopafkfaaW.PrintWords Go.Proofs.YtmnjkdbopafkfaaW.PrintLast Go.Proofs.YtmnjkdbopafkfaaW.PrintMore
attribute [local go_sem] max2_int min2_int max_two min_two max_three min_three max_four min_four   -- for this text's walks alone
set_option linter.unusedVariables false
set_option linter.unusedSimpArgs false

attribute [local go_sem high] eqA29
/-! ### laws_FnOverlapsParts: function 7 -/
mutual
def laws_FnOverlapsParts.j0 : Nat → List (S25) → Int → Int → Int → Bool → Option (Bool)
  | 0, _, _, _, _, _ => none
  | k + 1, x0, x1, x2, x3, x35 => if x35 = true then (some true) else ((laws_spanLast.f x0 (([(⟨4, x1, x2, 0⟩ : S25)] : List (S25)))).bind fun bt136 => ((laws_spanLast.f x0 (([(⟨4, x2, x3, 0⟩ : S25)] : List (S25)))).bind fun bt149 => ((laws_spanLast.f x0 (([(⟨4, x1, x3, 0⟩ : S25)] : List (S25)))).bind fun bt162 => (if bt136.2.2.2.2.2.2 = true then (if bt149.2.2.2.2.2.2 = true then (laws_FnOverlapsParts.j1 k (!bt162.2.2.2.2.2.2) bt136.1 bt136.2.1 bt136.2.2.1 bt136.2.2.2.1 bt136.2.2.2.2.1 bt136.2.2.2.2.2.1 bt149.1 bt149.2.1 bt149.2.2.1 bt149.2.2.2.1 bt149.2.2.2.2.1 bt149.2.2.2.2.2.1 bt162.1 bt162.2.1 bt162.2.2.1 bt162.2.2.2.1 bt162.2.2.2.2.1 bt162.2.2.2.2.2.1) else (laws_FnOverlapsParts.j1 k true bt136.1 bt136.2.1 bt136.2.2.1 bt136.2.2.2.1 bt136.2.2.2.2.1 bt136.2.2.2.2.2.1 bt149.1 bt149.2.1 bt149.2.2.1 bt149.2.2.2.1 bt149.2.2.2.2.1 bt149.2.2.2.2.2.1 bt162.1 bt162.2.1 bt162.2.2.1 bt162.2.2.2.1 bt162.2.2.2.2.1 bt162.2.2.2.2.2.1)) else (laws_FnOverlapsParts.j1 k true bt136.1 bt136.2.1 bt136.2.2.1 bt136.2.2.2.1 bt136.2.2.2.2.1 bt136.2.2.2.2.2.1 bt149.1 bt149.2.1 bt149.2.2.1 bt149.2.2.2.1 bt149.2.2.2.2.1 bt149.2.2.2.2.2.1 bt162.1 bt162.2.1 bt162.2.2.1 bt162.2.2.2.1 bt162.2.2.2.2.1 bt162.2.2.2.2.2.1)))))
def laws_FnOverlapsParts.j1 : Nat → Bool → Int → Int → Int → Bool → List (S29) → Int → Int → Int → Int → Bool → List (S29) → Int → Int → Int → Int → Bool → List (S29) → Int → Option (Bool)
  | 0, _, _, _, _, _, _, _, _, _, _, _, _, _, _, _, _, _, _, _ => none
  | k + 1, x72, x146000, x146001, x146002, x146003, x146004, x146005, x159000, x159001, x159002, x159003, x159004, x159005, x172000, x172001, x172002, x172003, x172004, x172005 => if x72 = true then (some false) else (laws_FnOverlapsParts.l0 k 0 0 0 x146000 x146001 x146002 x146003 x146004 x146005 x159000 x159001 x159002 x159003 x159004 x159005 x172000 x172001 x172002 x172003 x172004 x172005)
def laws_FnOverlapsParts.l0 : Nat → Int → Int → Int → Int → Int → Int → Bool → List (S29) → Int → Int → Int → Int → Bool → List (S29) → Int → Int → Int → Int → Bool → List (S29) → Int → Option (Bool)
  | 0, _, _, _, _, _, _, _, _, _, _, _, _, _, _, _, _, _, _, _, _, _ => none
  | k + 1, x15, x16, x17, x146000, x146001, x146002, x146003, x146004, x146005, x159000, x159001, x159002, x159003, x159004, x159005, x172000, x172001, x172002, x172003, x172004, x172005 => if x17 < (x172004.length : Int) then (if x15 < (x146004.length : Int) then (if 0 ≤ x15 then (if 0 ≤ x17 then (laws_FnOverlapsParts.j3 k x15 x16 x17 (((rd_T29 x146004 x15).f0) == ((rd_T29 x172004 x17).f0) && (((rd_T29 x146004 x15).f1) == ((rd_T29 x172004 x17).f1) && (((rd_T29 x146004 x15).f2) == ((rd_T29 x172004 x17).f2)))) x146000 x146001 x146002 x146003 x146004 x146005 x159000 x159001 x159002 x159003 x159004 x159005 x172000 x172001 x172002 x172003 x172004 x172005) else (none)) else (none)) else (laws_FnOverlapsParts.j3 k x15 x16 x17 false x146000 x146001 x146002 x146003 x146004 x146005 x159000 x159001 x159002 x159003 x159004 x159005 x172000 x172001 x172002 x172003 x172004 x172005)) else (if x15 = (x146004.length : Int) then (some (x16 == (x159004.length : Int))) else (some false))
def laws_FnOverlapsParts.j3 : Nat → Int → Int → Int → Bool → Int → Int → Int → Bool → List (S29) → Int → Int → Int → Int → Bool → List (S29) → Int → Int → Int → Int → Bool → List (S29) → Int → Option (Bool)
  | 0, _, _, _, _, _, _, _, _, _, _, _, _, _, _, _, _, _, _, _, _, _, _ => none
  | k + 1, x15, x16, x17, x18, x146000, x146001, x146002, x146003, x146004, x146005, x159000, x159001, x159002, x159003, x159004, x159005, x172000, x172001, x172002, x172003, x172004, x172005 => if x16 < (x159004.length : Int) then (if 0 ≤ x16 then (if 0 ≤ x17 then (if x17 < (x172004.length : Int) then (laws_FnOverlapsParts.j4 k x15 x16 x17 x18 (((rd_T29 x159004 x16).f0) == ((rd_T29 x172004 x17).f0) && (((rd_T29 x159004 x16).f1) == ((rd_T29 x172004 x17).f1) && (((rd_T29 x159004 x16).f2) == ((rd_T29 x172004 x17).f2)))) x146000 x146001 x146002 x146003 x146004 x146005 x159000 x159001 x159002 x159003 x159004 x159005 x172000 x172001 x172002 x172003 x172004 x172005) else (none)) else (none)) else (none)) else (laws_FnOverlapsParts.j4 k x15 x16 x17 x18 false x146000 x146001 x146002 x146003 x146004 x146005 x159000 x159001 x159002 x159003 x159004 x159005 x172000 x172001 x172002 x172003 x172004 x172005)
def laws_FnOverlapsParts.j4 : Nat → Int → Int → Int → Bool → Bool → Int → Int → Int → Bool → List (S29) → Int → Int → Int → Int → Bool → List (S29) → Int → Int → Int → Int → Bool → List (S29) → Int → Option (Bool)
  | 0, _, _, _, _, _, _, _, _, _, _, _, _, _, _, _, _, _, _, _, _, _, _, _ => none
  | k + 1, x15, x16, x17, x18, x19, x146000, x146001, x146002, x146003, x146004, x146005, x159000, x159001, x159002, x159003, x159004, x159005, x172000, x172001, x172002, x172003, x172004, x172005 => if x18 = true then (laws_FnOverlapsParts.j5 k x15 x16 x17 x18 x19 false x146000 x146001 x146002 x146003 x146004 x146005 x159000 x159001 x159002 x159003 x159004 x159005 x172000 x172001 x172002 x172003 x172004 x172005) else (laws_FnOverlapsParts.j5 k x15 x16 x17 x18 x19 (!x19) x146000 x146001 x146002 x146003 x146004 x146005 x159000 x159001 x159002 x159003 x159004 x159005 x172000 x172001 x172002 x172003 x172004 x172005)
def laws_FnOverlapsParts.j5 : Nat → Int → Int → Int → Bool → Bool → Bool → Int → Int → Int → Bool → List (S29) → Int → Int → Int → Int → Bool → List (S29) → Int → Int → Int → Int → Bool → List (S29) → Int → Option (Bool)
  | 0, _, _, _, _, _, _, _, _, _, _, _, _, _, _, _, _, _, _, _, _, _, _, _, _ => none
  | k + 1, x15, x16, x17, x18, x19, x121, x146000, x146001, x146002, x146003, x146004, x146005, x159000, x159001, x159002, x159003, x159004, x159005, x172000, x172001, x172002, x172003, x172004, x172005 => if x121 = true then (some false) else (if x18 = true then (if x19 = true then (laws_FnOverlapsParts.l0 k (wrap64 (x15 + 1)) (wrap64 (x16 + 1)) (wrap64 (x17 + 1)) x146000 x146001 x146002 x146003 x146004 x146005 x159000 x159001 x159002 x159003 x159004 x159005 x172000 x172001 x172002 x172003 x172004 x172005) else (laws_FnOverlapsParts.l0 k (wrap64 (x15 + 1)) x16 (wrap64 (x17 + 1)) x146000 x146001 x146002 x146003 x146004 x146005 x159000 x159001 x159002 x159003 x159004 x159005 x172000 x172001 x172002 x172003 x172004 x172005)) else (if x19 = true then (laws_FnOverlapsParts.l0 k x15 (wrap64 (x16 + 1)) (wrap64 (x17 + 1)) x146000 x146001 x146002 x146003 x146004 x146005 x159000 x159001 x159002 x159003 x159004 x159005 x172000 x172001 x172002 x172003 x172004 x172005) else (laws_FnOverlapsParts.l0 k x15 x16 (wrap64 (x17 + 1)) x146000 x146001 x146002 x146003 x146004 x146005 x159000 x159001 x159002 x159003 x159004 x159005 x172000 x172001 x172002 x172003 x172004 x172005)))
end
def laws_FnOverlapsParts.f (k : Nat) (l0 : List (S25)) (a1 : Int) (a2 : Int) (a3 : Int) : Option (Bool) := if (l0.length : Int) > 2147483647 then (some true) else ((spec_Proper.f k l0).bind fun t132 => (if t132 = true then (if a1 ≥ a2 then (laws_FnOverlapsParts.j0 k l0 a1 a2 a3 true) else (laws_FnOverlapsParts.j0 k l0 a1 a2 a3 (decide (a2 ≥ a3)))) else (laws_FnOverlapsParts.j0 k l0 a1 a2 a3 true)))
theorem laws_FnOverlapsParts.mono_l : ∀ k, (∀ y0 y1 y2 y3 y4, LeO (laws_FnOverlapsParts.j0 k y0 y1 y2 y3 y4) (laws_FnOverlapsParts.j0 (k + 1) y0 y1 y2 y3 y4)) ∧ (∀ y0 y1 y2 y3 y4 y5 y6 y7 y8 y9 y10 y11 y12 y13 y14 y15 y16 y17 y18, LeO (laws_FnOverlapsParts.j1 k y0 y1 y2 y3 y4 y5 y6 y7 y8 y9 y10 y11 y12 y13 y14 y15 y16 y17 y18) (laws_FnOverlapsParts.j1 (k + 1) y0 y1 y2 y3 y4 y5 y6 y7 y8 y9 y10 y11 y12 y13 y14 y15 y16 y17 y18)) ∧ (∀ y0 y1 y2 y3 y4 y5 y6 y7 y8 y9 y10 y11 y12 y13 y14 y15 y16 y17 y18 y19 y20, LeO (laws_FnOverlapsParts.l0 k y0 y1 y2 y3 y4 y5 y6 y7 y8 y9 y10 y11 y12 y13 y14 y15 y16 y17 y18 y19 y20) (laws_FnOverlapsParts.l0 (k + 1) y0 y1 y2 y3 y4 y5 y6 y7 y8 y9 y10 y11 y12 y13 y14 y15 y16 y17 y18 y19 y20)) ∧ (∀ y0 y1 y2 y3 y4 y5 y6 y7 y8 y9 y10 y11 y12 y13 y14 y15 y16 y17 y18 y19 y20 y21, LeO (laws_FnOverlapsParts.j3 k y0 y1 y2 y3 y4 y5 y6 y7 y8 y9 y10 y11 y12 y13 y14 y15 y16 y17 y18 y19 y20 y21) (laws_FnOverlapsParts.j3 (k + 1) y0 y1 y2 y3 y4 y5 y6 y7 y8 y9 y10 y11 y12 y13 y14 y15 y16 y17 y18 y19 y20 y21)) ∧ (∀ y0 y1 y2 y3 y4 y5 y6 y7 y8 y9 y10 y11 y12 y13 y14 y15 y16 y17 y18 y19 y20 y21 y22, LeO (laws_FnOverlapsParts.j4 k y0 y1 y2 y3 y4 y5 y6 y7 y8 y9 y10 y11 y12 y13 y14 y15 y16 y17 y18 y19 y20 y21 y22) (laws_FnOverlapsParts.j4 (k + 1) y0 y1 y2 y3 y4 y5 y6 y7 y8 y9 y10 y11 y12 y13 y14 y15 y16 y17 y18 y19 y20 y21 y22)) ∧ (∀ y0 y1 y2 y3 y4 y5 y6 y7 y8 y9 y10 y11 y12 y13 y14 y15 y16 y17 y18 y19 y20 y21 y22 y23, LeO (laws_FnOverlapsParts.j5 k y0 y1 y2 y3 y4 y5 y6 y7 y8 y9 y10 y11 y12 y13 y14 y15 y16 y17 y18 y19 y20 y21 y22 y23) (laws_FnOverlapsParts.j5 (k + 1) y0 y1 y2 y3 y4 y5 y6 y7 y8 y9 y10 y11 y12 y13 y14 y15 y16 y17 y18 y19 y20 y21 y22 y23))
  | 0 => ⟨fun _ _ _ _ _ r h => by simp [laws_FnOverlapsParts.j0] at h, fun _ _ _ _ _ _ _ _ _ _ _ _ _ _ _ _ _ _ _ r h => by simp [laws_FnOverlapsParts.j1] at h, fun _ _ _ _ _ _ _ _ _ _ _ _ _ _ _ _ _ _ _ _ _ r h => by simp [laws_FnOverlapsParts.l0] at h, fun _ _ _ _ _ _ _ _ _ _ _ _ _ _ _ _ _ _ _ _ _ _ r h => by simp [laws_FnOverlapsParts.j3] at h, fun _ _ _ _ _ _ _ _ _ _ _ _ _ _ _ _ _ _ _ _ _ _ _ r h => by simp [laws_FnOverlapsParts.j4] at h, fun _ _ _ _ _ _ _ _ _ _ _ _ _ _ _ _ _ _ _ _ _ _ _ _ r h => by simp [laws_FnOverlapsParts.j5] at h⟩
  | k + 1 => by
    obtain ⟨ih0, ih1, ih2, ih3, ih4, ih5⟩ := laws_FnOverlapsParts.mono_l k
    refine ⟨?_, ?_, ?_, ?_, ?_, ?_⟩
    · intro y0 y1 y2 y3 y4
      unfold laws_FnOverlapsParts.j0
      repeat' first
      | (with_reducible exact ih0 _ _ _ _ _)
      | (with_reducible exact ih1 _ _ _ _ _ _ _ _ _ _ _ _ _ _ _ _ _ _ _)
      | (with_reducible exact ih2 _ _ _ _ _ _ _ _ _ _ _ _ _ _ _ _ _ _ _ _ _)
      | (with_reducible exact ih3 _ _ _ _ _ _ _ _ _ _ _ _ _ _ _ _ _ _ _ _ _ _)
      | (with_reducible exact ih4 _ _ _ _ _ _ _ _ _ _ _ _ _ _ _ _ _ _ _ _ _ _ _)
      | (with_reducible exact ih5 _ _ _ _ _ _ _ _ _ _ _ _ _ _ _ _ _ _ _ _ _ _ _ _)
      | (with_reducible exact spec_Proper.mono _ _)
      | (with_reducible exact LeO.refl _)
      | (with_reducible exact LeO.none _)
      | (with_reducible refine LeO.ite ?_ ?_)
      | (with_reducible refine LeO.bind ?_ (fun _ => ?_))
      | exact ih0 _ _ _ _ _
      | exact ih1 _ _ _ _ _ _ _ _ _ _ _ _ _ _ _ _ _ _ _
      | exact ih2 _ _ _ _ _ _ _ _ _ _ _ _ _ _ _ _ _ _ _ _ _
      | exact ih3 _ _ _ _ _ _ _ _ _ _ _ _ _ _ _ _ _ _ _ _ _ _
      | exact ih4 _ _ _ _ _ _ _ _ _ _ _ _ _ _ _ _ _ _ _ _ _ _ _
      | exact ih5 _ _ _ _ _ _ _ _ _ _ _ _ _ _ _ _ _ _ _ _ _ _ _ _
      | exact spec_Proper.mono _ _
      | exact LeO.none _
      | refine LeO.ite ?_ ?_
      | refine LeO.bind ?_ (fun _ => ?_)
    · intro y0 y1 y2 y3 y4 y5 y6 y7 y8 y9 y10 y11 y12 y13 y14 y15 y16 y17 y18
      unfold laws_FnOverlapsParts.j1
      repeat' first
      | (with_reducible exact ih0 _ _ _ _ _)
      | (with_reducible exact ih1 _ _ _ _ _ _ _ _ _ _ _ _ _ _ _ _ _ _ _)
      | (with_reducible exact ih2 _ _ _ _ _ _ _ _ _ _ _ _ _ _ _ _ _ _ _ _ _)
      | (with_reducible exact ih3 _ _ _ _ _ _ _ _ _ _ _ _ _ _ _ _ _ _ _ _ _ _)
      | (with_reducible exact ih4 _ _ _ _ _ _ _ _ _ _ _ _ _ _ _ _ _ _ _ _ _ _ _)
      | (with_reducible exact ih5 _ _ _ _ _ _ _ _ _ _ _ _ _ _ _ _ _ _ _ _ _ _ _ _)
      | (with_reducible exact spec_Proper.mono _ _)
      | (with_reducible exact LeO.refl _)
      | (with_reducible exact LeO.none _)
      | (with_reducible refine LeO.ite ?_ ?_)
      | (with_reducible refine LeO.bind ?_ (fun _ => ?_))
      | exact ih0 _ _ _ _ _
      | exact ih1 _ _ _ _ _ _ _ _ _ _ _ _ _ _ _ _ _ _ _
      | exact ih2 _ _ _ _ _ _ _ _ _ _ _ _ _ _ _ _ _ _ _ _ _
      | exact ih3 _ _ _ _ _ _ _ _ _ _ _ _ _ _ _ _ _ _ _ _ _ _
      | exact ih4 _ _ _ _ _ _ _ _ _ _ _ _ _ _ _ _ _ _ _ _ _ _ _
      | exact ih5 _ _ _ _ _ _ _ _ _ _ _ _ _ _ _ _ _ _ _ _ _ _ _ _
      | exact spec_Proper.mono _ _
      | exact LeO.none _
      | refine LeO.ite ?_ ?_
      | refine LeO.bind ?_ (fun _ => ?_)
    · intro y0 y1 y2 y3 y4 y5 y6 y7 y8 y9 y10 y11 y12 y13 y14 y15 y16 y17 y18 y19 y20
      unfold laws_FnOverlapsParts.l0
      repeat' first
      | (with_reducible exact ih0 _ _ _ _ _)
      | (with_reducible exact ih1 _ _ _ _ _ _ _ _ _ _ _ _ _ _ _ _ _ _ _)
      | (with_reducible exact ih2 _ _ _ _ _ _ _ _ _ _ _ _ _ _ _ _ _ _ _ _ _)
      | (with_reducible exact ih3 _ _ _ _ _ _ _ _ _ _ _ _ _ _ _ _ _ _ _ _ _ _)
      | (with_reducible exact ih4 _ _ _ _ _ _ _ _ _ _ _ _ _ _ _ _ _ _ _ _ _ _ _)
      | (with_reducible exact ih5 _ _ _ _ _ _ _ _ _ _ _ _ _ _ _ _ _ _ _ _ _ _ _ _)
      | (with_reducible exact spec_Proper.mono _ _)
      | (with_reducible exact LeO.refl _)
      | (with_reducible exact LeO.none _)
      | (with_reducible refine LeO.ite ?_ ?_)
      | (with_reducible refine LeO.bind ?_ (fun _ => ?_))
      | exact ih0 _ _ _ _ _
      | exact ih1 _ _ _ _ _ _ _ _ _ _ _ _ _ _ _ _ _ _ _
      | exact ih2 _ _ _ _ _ _ _ _ _ _ _ _ _ _ _ _ _ _ _ _ _
      | exact ih3 _ _ _ _ _ _ _ _ _ _ _ _ _ _ _ _ _ _ _ _ _ _
      | exact ih4 _ _ _ _ _ _ _ _ _ _ _ _ _ _ _ _ _ _ _ _ _ _ _
      | exact ih5 _ _ _ _ _ _ _ _ _ _ _ _ _ _ _ _ _ _ _ _ _ _ _ _
      | exact spec_Proper.mono _ _
      | exact LeO.none _
      | refine LeO.ite ?_ ?_
      | refine LeO.bind ?_ (fun _ => ?_)
    · intro y0 y1 y2 y3 y4 y5 y6 y7 y8 y9 y10 y11 y12 y13 y14 y15 y16 y17 y18 y19 y20 y21
      unfold laws_FnOverlapsParts.j3
      repeat' first
      | (with_reducible exact ih0 _ _ _ _ _)
      | (with_reducible exact ih1 _ _ _ _ _ _ _ _ _ _ _ _ _ _ _ _ _ _ _)
      | (with_reducible exact ih2 _ _ _ _ _ _ _ _ _ _ _ _ _ _ _ _ _ _ _ _ _)
      | (with_reducible exact ih3 _ _ _ _ _ _ _ _ _ _ _ _ _ _ _ _ _ _ _ _ _ _)
      | (with_reducible exact ih4 _ _ _ _ _ _ _ _ _ _ _ _ _ _ _ _ _ _ _ _ _ _ _)
      | (with_reducible exact ih5 _ _ _ _ _ _ _ _ _ _ _ _ _ _ _ _ _ _ _ _ _ _ _ _)
      | (with_reducible exact spec_Proper.mono _ _)
      | (with_reducible exact LeO.refl _)
      | (with_reducible exact LeO.none _)
      | (with_reducible refine LeO.ite ?_ ?_)
      | (with_reducible refine LeO.bind ?_ (fun _ => ?_))
      | exact ih0 _ _ _ _ _
      | exact ih1 _ _ _ _ _ _ _ _ _ _ _ _ _ _ _ _ _ _ _
      | exact ih2 _ _ _ _ _ _ _ _ _ _ _ _ _ _ _ _ _ _ _ _ _
      | exact ih3 _ _ _ _ _ _ _ _ _ _ _ _ _ _ _ _ _ _ _ _ _ _
      | exact ih4 _ _ _ _ _ _ _ _ _ _ _ _ _ _ _ _ _ _ _ _ _ _ _
      | exact ih5 _ _ _ _ _ _ _ _ _ _ _ _ _ _ _ _ _ _ _ _ _ _ _ _
      | exact spec_Proper.mono _ _
      | exact LeO.none _
      | refine LeO.ite ?_ ?_
      | refine LeO.bind ?_ (fun _ => ?_)
    · intro y0 y1 y2 y3 y4 y5 y6 y7 y8 y9 y10 y11 y12 y13 y14 y15 y16 y17 y18 y19 y20 y21 y22
      unfold laws_FnOverlapsParts.j4
      repeat' first
      | (with_reducible exact ih0 _ _ _ _ _)
      | (with_reducible exact ih1 _ _ _ _ _ _ _ _ _ _ _ _ _ _ _ _ _ _ _)
      | (with_reducible exact ih2 _ _ _ _ _ _ _ _ _ _ _ _ _ _ _ _ _ _ _ _ _)
      | (with_reducible exact ih3 _ _ _ _ _ _ _ _ _ _ _ _ _ _ _ _ _ _ _ _ _ _)
      | (with_reducible exact ih4 _ _ _ _ _ _ _ _ _ _ _ _ _ _ _ _ _ _ _ _ _ _ _)
      | (with_reducible exact ih5 _ _ _ _ _ _ _ _ _ _ _ _ _ _ _ _ _ _ _ _ _ _ _ _)
      | (with_reducible exact spec_Proper.mono _ _)
      | (with_reducible exact LeO.refl _)
      | (with_reducible exact LeO.none _)
      | (with_reducible refine LeO.ite ?_ ?_)
      | (with_reducible refine LeO.bind ?_ (fun _ => ?_))
      | exact ih0 _ _ _ _ _
      | exact ih1 _ _ _ _ _ _ _ _ _ _ _ _ _ _ _ _ _ _ _
      | exact ih2 _ _ _ _ _ _ _ _ _ _ _ _ _ _ _ _ _ _ _ _ _
      | exact ih3 _ _ _ _ _ _ _ _ _ _ _ _ _ _ _ _ _ _ _ _ _ _
      | exact ih4 _ _ _ _ _ _ _ _ _ _ _ _ _ _ _ _ _ _ _ _ _ _ _
      | exact ih5 _ _ _ _ _ _ _ _ _ _ _ _ _ _ _ _ _ _ _ _ _ _ _ _
      | exact spec_Proper.mono _ _
      | exact LeO.none _
      | refine LeO.ite ?_ ?_
      | refine LeO.bind ?_ (fun _ => ?_)
    · intro y0 y1 y2 y3 y4 y5 y6 y7 y8 y9 y10 y11 y12 y13 y14 y15 y16 y17 y18 y19 y20 y21 y22 y23
      unfold laws_FnOverlapsParts.j5
      repeat' first
      | (with_reducible exact ih0 _ _ _ _ _)
      | (with_reducible exact ih1 _ _ _ _ _ _ _ _ _ _ _ _ _ _ _ _ _ _ _)
      | (with_reducible exact ih2 _ _ _ _ _ _ _ _ _ _ _ _ _ _ _ _ _ _ _ _ _)
      | (with_reducible exact ih3 _ _ _ _ _ _ _ _ _ _ _ _ _ _ _ _ _ _ _ _ _ _)
      | (with_reducible exact ih4 _ _ _ _ _ _ _ _ _ _ _ _ _ _ _ _ _ _ _ _ _ _ _)
      | (with_reducible exact ih5 _ _ _ _ _ _ _ _ _ _ _ _ _ _ _ _ _ _ _ _ _ _ _ _)
      | (with_reducible exact spec_Proper.mono _ _)
      | (with_reducible exact LeO.refl _)
      | (with_reducible exact LeO.none _)
      | (with_reducible refine LeO.ite ?_ ?_)
      | (with_reducible refine LeO.bind ?_ (fun _ => ?_))
      | exact ih0 _ _ _ _ _
      | exact ih1 _ _ _ _ _ _ _ _ _ _ _ _ _ _ _ _ _ _ _
      | exact ih2 _ _ _ _ _ _ _ _ _ _ _ _ _ _ _ _ _ _ _ _ _
      | exact ih3 _ _ _ _ _ _ _ _ _ _ _ _ _ _ _ _ _ _ _ _ _ _
      | exact ih4 _ _ _ _ _ _ _ _ _ _ _ _ _ _ _ _ _ _ _ _ _ _ _
      | exact ih5 _ _ _ _ _ _ _ _ _ _ _ _ _ _ _ _ _ _ _ _ _ _ _ _
      | exact spec_Proper.mono _ _
      | exact LeO.none _
      | refine LeO.ite ?_ ?_
      | refine LeO.bind ?_ (fun _ => ?_)
theorem laws_FnOverlapsParts.mono : ∀ a0 a1 a2 a3 k, LeO (laws_FnOverlapsParts.f k a0 a1 a2 a3) (laws_FnOverlapsParts.f (k + 1) a0 a1 a2 a3) := by
  intro a0 a1 a2 a3 k
  obtain ⟨ih0, ih1, ih2, ih3, ih4, ih5⟩ := laws_FnOverlapsParts.mono_l k
  unfold laws_FnOverlapsParts.f
  repeat' first
      | (with_reducible exact ih0 _ _ _ _ _)
      | (with_reducible exact ih1 _ _ _ _ _ _ _ _ _ _ _ _ _ _ _ _ _ _ _)
      | (with_reducible exact ih2 _ _ _ _ _ _ _ _ _ _ _ _ _ _ _ _ _ _ _ _ _)
      | (with_reducible exact ih3 _ _ _ _ _ _ _ _ _ _ _ _ _ _ _ _ _ _ _ _ _ _)
      | (with_reducible exact ih4 _ _ _ _ _ _ _ _ _ _ _ _ _ _ _ _ _ _ _ _ _ _ _)
      | (with_reducible exact ih5 _ _ _ _ _ _ _ _ _ _ _ _ _ _ _ _ _ _ _ _ _ _ _ _)
      | (with_reducible exact spec_Proper.mono _ _)
      | (with_reducible exact LeO.refl _)
      | (with_reducible exact LeO.none _)
      | (with_reducible refine LeO.ite ?_ ?_)
      | (with_reducible refine LeO.bind ?_ (fun _ => ?_))
      | exact ih0 _ _ _ _ _
      | exact ih1 _ _ _ _ _ _ _ _ _ _ _ _ _ _ _ _ _ _ _
      | exact ih2 _ _ _ _ _ _ _ _ _ _ _ _ _ _ _ _ _ _ _ _ _
      | exact ih3 _ _ _ _ _ _ _ _ _ _ _ _ _ _ _ _ _ _ _ _ _ _
      | exact ih4 _ _ _ _ _ _ _ _ _ _ _ _ _ _ _ _ _ _ _ _ _ _ _
      | exact ih5 _ _ _ _ _ _ _ _ _ _ _ _ _ _ _ _ _ _ _ _ _ _ _ _
      | exact spec_Proper.mono _ _
      | exact LeO.none _
      | refine LeO.ite ?_ ?_
      | refine LeO.bind ?_ (fun _ => ?_)
set_option maxHeartbeats 8000000 in
set_option maxRecDepth 100000 in
theorem laws_FnOverlapsParts.calls (k : Nat) (A0 : Option Addr) (c0 : Nat) (l0 : List (S25)) (a1 : Int) (a2 : Int) (a3 : Int) (r : Bool) (w : World) (hr0 : Kd.C k25 w A0 l0.length l0) (hc0 : l0.length ≤ c0) (h : laws_FnOverlapsParts.f k l0 a1 a2 a3 = some r) :
    Calls Try.prog 7 #[.slice A0 l0.length c0, .int .i64 a1, .int .i64 a2, .int .i64 a3] w fun e w' => e = .returned (.bool r) ∧ Below w.heap.size w w' := by
  have hu25 := Try.underlying25
  have hu32 := Try.underlying32
  have hu29 := Try.underlying29
  have HR0 := Aside0.mk hr0
  have HC0 := Aside0.mk hc0
  clear hr0 hc0
  have HB := Aside0.mk (Below.refl w.heap.size w)
  have H : (if (l0.length : Int) > 2147483647 then (some true) else ((spec_Proper.f k l0).bind fun t132 => (if t132 = true then (if a1 ≥ a2 then (laws_FnOverlapsParts.j0 k l0 a1 a2 a3 true) else (laws_FnOverlapsParts.j0 k l0 a1 a2 a3 (decide (a2 ≥ a3)))) else (laws_FnOverlapsParts.j0 k l0 a1 a2 a3 true)))) = some r := h
  clear h
  by_cases c5 : (l0.length : Int) > 2147483647
  · rw [if_pos c5] at H
    have c5b0 : decide (2147483647 < (l0.length : Int)) = true := decide_eq_true c5
    have c5b1 : decide (2147483647 < l0.length) = true := decide_eq_true (by omega)
    clear c5
    obtain rfl := Option.some.inj H
    go_enter Try.func7, Try.ntmps7
    go_wp2
    repeat (go_quiet (fail); try go_wp2)
    go_ret
    exact ⟨by first | rfl | (simp [errW_none, errW_some] <;> rfl) | (simp [*, errW_none, errW_some] <;> rfl), by repeat (first | (with_reducible first | exact HB.out | apply below_alloc | apply pw_below_drewN | apply below_drew1) | exact HB.out)⟩
  · rw [if_neg c5] at H
    have c5b0 : decide (2147483647 < (l0.length : Int)) = false := decide_eq_false c5
    have c5b1 : decide (2147483647 < l0.length) = false := decide_eq_false (by omega)
    clear c5
    have HC6 := Aside0.mk H
    clear H
    go_enter Try.func7, Try.ntmps7
    go_upto_region 3 with (fail)
    repeat (go_quiet (fail); go_upto_region 3 with (fail))
    go_cut [35] (fun v35 wc => ∃ (kq : Nat) (x35_5 : Bool), v35 = .bool x35_5 ∧ Aside0 (laws_FnOverlapsParts.j0 kq l0 a1 a2 a3 x35_5 = some r) ∧ Aside0 (kq ≤ k) ∧ Aside0 (Below w.heap.size w wc))
    case first =>
      have H := HC6.out
      clear HC6
      replace H := Option.bind_eq_some_iff.mp H
      obtain ⟨t132, A70, H⟩ := H
      replace H : (if t132 = true then (if a1 ≥ a2 then (laws_FnOverlapsParts.j0 k l0 a1 a2 a3 true) else (laws_FnOverlapsParts.j0 k l0 a1 a2 a3 (decide (a2 ≥ a3)))) else (laws_FnOverlapsParts.j0 k l0 a1 a2 a3 true)) = some r := H
      have A7 := Aside0.mk A70
      clear A70
      by_cases c8 : t132 = true
      · subst c8
        have H1 : (if a1 ≥ a2 then (laws_FnOverlapsParts.j0 k l0 a1 a2 a3 true) else (laws_FnOverlapsParts.j0 k l0 a1 a2 a3 (decide (a2 ≥ a3)))) = some r := by rw [if_pos rfl] at H; exact H
        clear H
        have H := H1
        clear H1
        by_cases c9 : a1 ≥ a2
        · rw [if_pos c9] at H
          have c9b0 : decide (a2 ≤ a1) = true := decide_eq_true c9
          clear c9
          (first | rw [c9b0] | (simp only [i64_w, i32_w]; rw [c9b0]) | skip)
          have H' := Aside0.mk H
          clear H
          go_wp2_with (first | (go_at_call 10; (with_reducible refine (spec_Proper.calls k _ _ l0 true _ ?side1 ?side2 A7.out).mono ?_); (case side1 => repeat (first | exact (Kd.C_below HR0.out HB.out) | (with_reducible refine Kd.C_alloc ?_ _) | (with_reducible refine Kd.C_drewN ?_ _) | (with_reducible refine Kd.C_drew ?_))); (case side2 => exact HC0.out); rintro e w' ⟨rfl, ⟨nd, rfl⟩⟩; (try first | exact ⟨rfl, _, World.drewN_drewN _ _ _⟩ | exact ⟨rfl, _, Eq.trans (World.drewN_drewN _ _ _) (congrArg (World.drewN _) (Nat.add_assoc _ _ _))⟩)))
          repeat (go_quiet (first | (go_at_call 10; (with_reducible refine (spec_Proper.calls k _ _ l0 true _ ?side1 ?side2 A7.out).mono ?_); (case side1 => repeat (first | exact (Kd.C_below HR0.out HB.out) | (with_reducible refine Kd.C_alloc ?_ _) | (with_reducible refine Kd.C_drewN ?_ _) | (with_reducible refine Kd.C_drew ?_))); (case side2 => exact HC0.out); rintro e w' ⟨rfl, ⟨nd, rfl⟩⟩; (try first | exact ⟨rfl, _, World.drewN_drewN _ _ _⟩ | exact ⟨rfl, _, Eq.trans (World.drewN_drewN _ _ _) (congrArg (World.drewN _) (Nat.add_assoc _ _ _))⟩))); try go_wp2_with (first | (go_at_call 10; (with_reducible refine (spec_Proper.calls k _ _ l0 true _ ?side1 ?side2 A7.out).mono ?_); (case side1 => repeat (first | exact (Kd.C_below HR0.out HB.out) | (with_reducible refine Kd.C_alloc ?_ _) | (with_reducible refine Kd.C_drewN ?_ _) | (with_reducible refine Kd.C_drew ?_))); (case side2 => exact HC0.out); rintro e w' ⟨rfl, ⟨nd, rfl⟩⟩; (try first | exact ⟨rfl, _, World.drewN_drewN _ _ _⟩ | exact ⟨rfl, _, Eq.trans (World.drewN_drewN _ _ _) (congrArg (World.drewN _) (Nat.add_assoc _ _ _))⟩))))
          go_meet
          case rel => exact ⟨_, (true), (by first | rfl | (simp; done) | (simp [*]; done)), H', ⟨by first | omega | exact Nat.le_refl _⟩, ⟨by repeat (first | (with_reducible first | exact HB.out | apply below_alloc | apply pw_below_drewN | apply below_drew1) | exact HB.out)⟩⟩
        · rw [if_neg c9] at H
          have c9b0 : decide (a2 ≤ a1) = false := decide_eq_false c9
          clear c9
          (first | rw [c9b0] | (simp only [i64_w, i32_w]; rw [c9b0]) | skip)
          have H' := Aside0.mk H
          clear H
          go_wp2_with (first | (go_at_call 10; (with_reducible refine (spec_Proper.calls k _ _ l0 true _ ?side1 ?side2 A7.out).mono ?_); (case side1 => repeat (first | exact (Kd.C_below HR0.out HB.out) | (with_reducible refine Kd.C_alloc ?_ _) | (with_reducible refine Kd.C_drewN ?_ _) | (with_reducible refine Kd.C_drew ?_))); (case side2 => exact HC0.out); rintro e w' ⟨rfl, ⟨nd, rfl⟩⟩; (try first | exact ⟨rfl, _, World.drewN_drewN _ _ _⟩ | exact ⟨rfl, _, Eq.trans (World.drewN_drewN _ _ _) (congrArg (World.drewN _) (Nat.add_assoc _ _ _))⟩)))
          repeat (go_quiet (first | (go_at_call 10; (with_reducible refine (spec_Proper.calls k _ _ l0 true _ ?side1 ?side2 A7.out).mono ?_); (case side1 => repeat (first | exact (Kd.C_below HR0.out HB.out) | (with_reducible refine Kd.C_alloc ?_ _) | (with_reducible refine Kd.C_drewN ?_ _) | (with_reducible refine Kd.C_drew ?_))); (case side2 => exact HC0.out); rintro e w' ⟨rfl, ⟨nd, rfl⟩⟩; (try first | exact ⟨rfl, _, World.drewN_drewN _ _ _⟩ | exact ⟨rfl, _, Eq.trans (World.drewN_drewN _ _ _) (congrArg (World.drewN _) (Nat.add_assoc _ _ _))⟩))); try go_wp2_with (first | (go_at_call 10; (with_reducible refine (spec_Proper.calls k _ _ l0 true _ ?side1 ?side2 A7.out).mono ?_); (case side1 => repeat (first | exact (Kd.C_below HR0.out HB.out) | (with_reducible refine Kd.C_alloc ?_ _) | (with_reducible refine Kd.C_drewN ?_ _) | (with_reducible refine Kd.C_drew ?_))); (case side2 => exact HC0.out); rintro e w' ⟨rfl, ⟨nd, rfl⟩⟩; (try first | exact ⟨rfl, _, World.drewN_drewN _ _ _⟩ | exact ⟨rfl, _, Eq.trans (World.drewN_drewN _ _ _) (congrArg (World.drewN _) (Nat.add_assoc _ _ _))⟩))))
          go_meet
          case rel => exact ⟨_, (decide (a2 ≥ a3)), (by first | rfl | (simp; done) | (simp [*]; done)), H', ⟨by first | omega | exact Nat.le_refl _⟩, ⟨by repeat (first | (with_reducible first | exact HB.out | apply below_alloc | apply pw_below_drewN | apply below_drew1) | exact HB.out)⟩⟩
      · replace c8 := Bool.eq_false_iff.mpr c8
        subst c8
        have H1 : (laws_FnOverlapsParts.j0 k l0 a1 a2 a3 true) = some r := by rw [if_neg (show ¬ (false = true) by decide)] at H; exact H
        clear H
        have H := H1
        clear H1
        have H' := Aside0.mk H
        clear H
        go_wp2_with (first | (go_at_call 10; (with_reducible refine (spec_Proper.calls k _ _ l0 false _ ?side1 ?side2 A7.out).mono ?_); (case side1 => repeat (first | exact (Kd.C_below HR0.out HB.out) | (with_reducible refine Kd.C_alloc ?_ _) | (with_reducible refine Kd.C_drewN ?_ _) | (with_reducible refine Kd.C_drew ?_))); (case side2 => exact HC0.out); rintro e w' ⟨rfl, ⟨nd, rfl⟩⟩; (try first | exact ⟨rfl, _, World.drewN_drewN _ _ _⟩ | exact ⟨rfl, _, Eq.trans (World.drewN_drewN _ _ _) (congrArg (World.drewN _) (Nat.add_assoc _ _ _))⟩)))
        repeat (go_quiet (first | (go_at_call 10; (with_reducible refine (spec_Proper.calls k _ _ l0 false _ ?side1 ?side2 A7.out).mono ?_); (case side1 => repeat (first | exact (Kd.C_below HR0.out HB.out) | (with_reducible refine Kd.C_alloc ?_ _) | (with_reducible refine Kd.C_drewN ?_ _) | (with_reducible refine Kd.C_drew ?_))); (case side2 => exact HC0.out); rintro e w' ⟨rfl, ⟨nd, rfl⟩⟩; (try first | exact ⟨rfl, _, World.drewN_drewN _ _ _⟩ | exact ⟨rfl, _, Eq.trans (World.drewN_drewN _ _ _) (congrArg (World.drewN _) (Nat.add_assoc _ _ _))⟩))); try go_wp2_with (first | (go_at_call 10; (with_reducible refine (spec_Proper.calls k _ _ l0 false _ ?side1 ?side2 A7.out).mono ?_); (case side1 => repeat (first | exact (Kd.C_below HR0.out HB.out) | (with_reducible refine Kd.C_alloc ?_ _) | (with_reducible refine Kd.C_drewN ?_ _) | (with_reducible refine Kd.C_drew ?_))); (case side2 => exact HC0.out); rintro e w' ⟨rfl, ⟨nd, rfl⟩⟩; (try first | exact ⟨rfl, _, World.drewN_drewN _ _ _⟩ | exact ⟨rfl, _, Eq.trans (World.drewN_drewN _ _ _) (congrArg (World.drewN _) (Nat.add_assoc _ _ _))⟩))))
        go_meet
        case rel => exact ⟨_, (true), (by first | rfl | (simp; done) | (simp [*]; done)), H', ⟨by first | omega | exact Nat.le_refl _⟩, ⟨by repeat (first | (with_reducible first | exact HB.out | apply below_alloc | apply pw_below_drewN | apply below_drew1) | exact HB.out)⟩⟩
    case rest =>
      clear HC6
      try clear p2
      try clear c5
      try clear c5b0
      try clear c5b1
      try clear c7
      try clear c8
      try clear c9
      try clear c9b0
      obtain ⟨kq, x35_5, rfl, HA, HJ5, HB⟩ := hcut
      cases kq with
      | zero => exact absurd HA.out (by simp [laws_FnOverlapsParts.j0])
      | succ kj5 =>
        have H := HA.out
        clear HA
        simp only [laws_FnOverlapsParts.j0] at H
        by_cases c10 : x35_5 = true
        · subst c10
          have H1 : (some true) = some r := by rw [if_pos rfl] at H; exact H
          clear H
          have H := H1
          clear H1
          obtain rfl := Option.some.inj H
          go_wp2
          repeat (go_quiet (fail); try go_wp2)
          go_ret
          exact ⟨by first | rfl | (simp [errW_none, errW_some] <;> rfl) | (simp [*, errW_none, errW_some] <;> rfl), by repeat (first | (with_reducible first | exact HB.out | apply below_alloc | apply pw_below_drewN | apply below_drew1) | exact HB.out)⟩
        · replace c10 := Bool.eq_false_iff.mpr c10
          subst c10
          have H1 : ((laws_spanLast.f l0 (([(⟨4, a1, a2, 0⟩ : S25)] : List (S25)))).bind fun bt136 => ((laws_spanLast.f l0 (([(⟨4, a2, a3, 0⟩ : S25)] : List (S25)))).bind fun bt149 => ((laws_spanLast.f l0 (([(⟨4, a1, a3, 0⟩ : S25)] : List (S25)))).bind fun bt162 => (if bt136.2.2.2.2.2.2 = true then (if bt149.2.2.2.2.2.2 = true then (laws_FnOverlapsParts.j1 kj5 (!bt162.2.2.2.2.2.2) bt136.1 bt136.2.1 bt136.2.2.1 bt136.2.2.2.1 bt136.2.2.2.2.1 bt136.2.2.2.2.2.1 bt149.1 bt149.2.1 bt149.2.2.1 bt149.2.2.2.1 bt149.2.2.2.2.1 bt149.2.2.2.2.2.1 bt162.1 bt162.2.1 bt162.2.2.1 bt162.2.2.2.1 bt162.2.2.2.2.1 bt162.2.2.2.2.2.1) else (laws_FnOverlapsParts.j1 kj5 true bt136.1 bt136.2.1 bt136.2.2.1 bt136.2.2.2.1 bt136.2.2.2.2.1 bt136.2.2.2.2.2.1 bt149.1 bt149.2.1 bt149.2.2.1 bt149.2.2.2.1 bt149.2.2.2.2.1 bt149.2.2.2.2.2.1 bt162.1 bt162.2.1 bt162.2.2.1 bt162.2.2.2.1 bt162.2.2.2.2.1 bt162.2.2.2.2.2.1)) else (laws_FnOverlapsParts.j1 kj5 true bt136.1 bt136.2.1 bt136.2.2.1 bt136.2.2.2.1 bt136.2.2.2.2.1 bt136.2.2.2.2.2.1 bt149.1 bt149.2.1 bt149.2.2.1 bt149.2.2.2.1 bt149.2.2.2.2.1 bt149.2.2.2.2.2.1 bt162.1 bt162.2.1 bt162.2.2.1 bt162.2.2.2.1 bt162.2.2.2.2.1 bt162.2.2.2.2.2.1))))) = some r := by rw [if_neg (show ¬ (false = true) by decide)] at H; exact H
          clear H
          have H := H1
          clear H1
          obtain ⟨y133, hy133⟩ : ∃ y_ : List (S25), y_ = (([(⟨4, a1, a2, 0⟩ : S25)] : List (S25))) := ⟨_, rfl⟩
          replace H : ((laws_spanLast.f l0 y133).bind fun bt136 => ((laws_spanLast.f l0 (([(⟨4, a2, a3, 0⟩ : S25)] : List (S25)))).bind fun bt149 => ((laws_spanLast.f l0 (([(⟨4, a1, a3, 0⟩ : S25)] : List (S25)))).bind fun bt162 => (if bt136.2.2.2.2.2.2 = true then (if bt149.2.2.2.2.2.2 = true then (laws_FnOverlapsParts.j1 kj5 (!bt162.2.2.2.2.2.2) bt136.1 bt136.2.1 bt136.2.2.1 bt136.2.2.2.1 bt136.2.2.2.2.1 bt136.2.2.2.2.2.1 bt149.1 bt149.2.1 bt149.2.2.1 bt149.2.2.2.1 bt149.2.2.2.2.1 bt149.2.2.2.2.2.1 bt162.1 bt162.2.1 bt162.2.2.1 bt162.2.2.2.1 bt162.2.2.2.2.1 bt162.2.2.2.2.2.1) else (laws_FnOverlapsParts.j1 kj5 true bt136.1 bt136.2.1 bt136.2.2.1 bt136.2.2.2.1 bt136.2.2.2.2.1 bt136.2.2.2.2.2.1 bt149.1 bt149.2.1 bt149.2.2.1 bt149.2.2.2.1 bt149.2.2.2.2.1 bt149.2.2.2.2.2.1 bt162.1 bt162.2.1 bt162.2.2.1 bt162.2.2.2.1 bt162.2.2.2.2.1 bt162.2.2.2.2.2.1)) else (laws_FnOverlapsParts.j1 kj5 true bt136.1 bt136.2.1 bt136.2.2.1 bt136.2.2.2.1 bt136.2.2.2.2.1 bt136.2.2.2.2.2.1 bt149.1 bt149.2.1 bt149.2.2.1 bt149.2.2.2.1 bt149.2.2.2.2.1 bt149.2.2.2.2.2.1 bt162.1 bt162.2.1 bt162.2.2.1 bt162.2.2.2.1 bt162.2.2.2.2.1 bt162.2.2.2.2.2.1))))) = some r := by first | (rw [hy133]; with_reducible exact H) | (have H2_ := (Option.bind_some _ _).symm.trans H; rw [hy133]; with_reducible exact H2_) | (have H2_ := (Option.bind_some _ _).symm.trans H; with_reducible exact H2_) | with_reducible exact H | (rw [hy133]; exact H) | exact H
          have Ny133 := Aside0.mk hy133
          clear hy133
          replace H := Option.bind_eq_some_iff.mp H
          obtain ⟨⟨t136, t137, t138, t139, t140, t143, t144⟩, A110, H⟩ := H
          replace H : ((laws_spanLast.f l0 (([(⟨4, a2, a3, 0⟩ : S25)] : List (S25)))).bind fun bt149 => ((laws_spanLast.f l0 (([(⟨4, a1, a3, 0⟩ : S25)] : List (S25)))).bind fun bt162 => (if t144 = true then (if bt149.2.2.2.2.2.2 = true then (laws_FnOverlapsParts.j1 kj5 (!bt162.2.2.2.2.2.2) t136 t137 t138 t139 t140 t143 bt149.1 bt149.2.1 bt149.2.2.1 bt149.2.2.2.1 bt149.2.2.2.2.1 bt149.2.2.2.2.2.1 bt162.1 bt162.2.1 bt162.2.2.1 bt162.2.2.2.1 bt162.2.2.2.2.1 bt162.2.2.2.2.2.1) else (laws_FnOverlapsParts.j1 kj5 true t136 t137 t138 t139 t140 t143 bt149.1 bt149.2.1 bt149.2.2.1 bt149.2.2.2.1 bt149.2.2.2.2.1 bt149.2.2.2.2.2.1 bt162.1 bt162.2.1 bt162.2.2.1 bt162.2.2.2.1 bt162.2.2.2.2.1 bt162.2.2.2.2.2.1)) else (laws_FnOverlapsParts.j1 kj5 true t136 t137 t138 t139 t140 t143 bt149.1 bt149.2.1 bt149.2.2.1 bt149.2.2.2.1 bt149.2.2.2.2.1 bt149.2.2.2.2.2.1 bt162.1 bt162.2.1 bt162.2.2.1 bt162.2.2.2.1 bt162.2.2.2.2.1 bt162.2.2.2.2.2.1)))) = some r := H
          have A11 := Aside0.mk A110
          clear A110
          obtain ⟨y146, hy146⟩ : ∃ y_ : List (S25), y_ = (([(⟨4, a2, a3, 0⟩ : S25)] : List (S25))) := ⟨_, rfl⟩
          replace H : ((laws_spanLast.f l0 y146).bind fun bt149 => ((laws_spanLast.f l0 (([(⟨4, a1, a3, 0⟩ : S25)] : List (S25)))).bind fun bt162 => (if t144 = true then (if bt149.2.2.2.2.2.2 = true then (laws_FnOverlapsParts.j1 kj5 (!bt162.2.2.2.2.2.2) t136 t137 t138 t139 t140 t143 bt149.1 bt149.2.1 bt149.2.2.1 bt149.2.2.2.1 bt149.2.2.2.2.1 bt149.2.2.2.2.2.1 bt162.1 bt162.2.1 bt162.2.2.1 bt162.2.2.2.1 bt162.2.2.2.2.1 bt162.2.2.2.2.2.1) else (laws_FnOverlapsParts.j1 kj5 true t136 t137 t138 t139 t140 t143 bt149.1 bt149.2.1 bt149.2.2.1 bt149.2.2.2.1 bt149.2.2.2.2.1 bt149.2.2.2.2.2.1 bt162.1 bt162.2.1 bt162.2.2.1 bt162.2.2.2.1 bt162.2.2.2.2.1 bt162.2.2.2.2.2.1)) else (laws_FnOverlapsParts.j1 kj5 true t136 t137 t138 t139 t140 t143 bt149.1 bt149.2.1 bt149.2.2.1 bt149.2.2.2.1 bt149.2.2.2.2.1 bt149.2.2.2.2.2.1 bt162.1 bt162.2.1 bt162.2.2.1 bt162.2.2.2.1 bt162.2.2.2.2.1 bt162.2.2.2.2.2.1)))) = some r := by first | (rw [hy146]; with_reducible exact H) | (have H2_ := (Option.bind_some _ _).symm.trans H; rw [hy146]; with_reducible exact H2_) | (have H2_ := (Option.bind_some _ _).symm.trans H; with_reducible exact H2_) | with_reducible exact H | (rw [hy146]; exact H) | exact H
          have Ny146 := Aside0.mk hy146
          clear hy146
          replace H := Option.bind_eq_some_iff.mp H
          obtain ⟨⟨t149, t150, t151, t152, t153, t156, t157⟩, A120, H⟩ := H
          replace H : ((laws_spanLast.f l0 (([(⟨4, a1, a3, 0⟩ : S25)] : List (S25)))).bind fun bt162 => (if t144 = true then (if t157 = true then (laws_FnOverlapsParts.j1 kj5 (!bt162.2.2.2.2.2.2) t136 t137 t138 t139 t140 t143 t149 t150 t151 t152 t153 t156 bt162.1 bt162.2.1 bt162.2.2.1 bt162.2.2.2.1 bt162.2.2.2.2.1 bt162.2.2.2.2.2.1) else (laws_FnOverlapsParts.j1 kj5 true t136 t137 t138 t139 t140 t143 t149 t150 t151 t152 t153 t156 bt162.1 bt162.2.1 bt162.2.2.1 bt162.2.2.2.1 bt162.2.2.2.2.1 bt162.2.2.2.2.2.1)) else (laws_FnOverlapsParts.j1 kj5 true t136 t137 t138 t139 t140 t143 t149 t150 t151 t152 t153 t156 bt162.1 bt162.2.1 bt162.2.2.1 bt162.2.2.2.1 bt162.2.2.2.2.1 bt162.2.2.2.2.2.1))) = some r := H
          have A12 := Aside0.mk A120
          clear A120
          obtain ⟨y159, hy159⟩ : ∃ y_ : List (S25), y_ = (([(⟨4, a1, a3, 0⟩ : S25)] : List (S25))) := ⟨_, rfl⟩
          replace H : ((laws_spanLast.f l0 y159).bind fun bt162 => (if t144 = true then (if t157 = true then (laws_FnOverlapsParts.j1 kj5 (!bt162.2.2.2.2.2.2) t136 t137 t138 t139 t140 t143 t149 t150 t151 t152 t153 t156 bt162.1 bt162.2.1 bt162.2.2.1 bt162.2.2.2.1 bt162.2.2.2.2.1 bt162.2.2.2.2.2.1) else (laws_FnOverlapsParts.j1 kj5 true t136 t137 t138 t139 t140 t143 t149 t150 t151 t152 t153 t156 bt162.1 bt162.2.1 bt162.2.2.1 bt162.2.2.2.1 bt162.2.2.2.2.1 bt162.2.2.2.2.2.1)) else (laws_FnOverlapsParts.j1 kj5 true t136 t137 t138 t139 t140 t143 t149 t150 t151 t152 t153 t156 bt162.1 bt162.2.1 bt162.2.2.1 bt162.2.2.2.1 bt162.2.2.2.2.1 bt162.2.2.2.2.2.1))) = some r := by first | (rw [hy159]; with_reducible exact H) | (have H2_ := (Option.bind_some _ _).symm.trans H; rw [hy159]; with_reducible exact H2_) | (have H2_ := (Option.bind_some _ _).symm.trans H; with_reducible exact H2_) | with_reducible exact H | (rw [hy159]; exact H) | exact H
          have Ny159 := Aside0.mk hy159
          clear hy159
          replace H := Option.bind_eq_some_iff.mp H
          obtain ⟨⟨t162, t163, t164, t165, t166, t169, t170⟩, A130, H⟩ := H
          replace H : (if t144 = true then (if t157 = true then (laws_FnOverlapsParts.j1 kj5 (!t170) t136 t137 t138 t139 t140 t143 t149 t150 t151 t152 t153 t156 t162 t163 t164 t165 t166 t169) else (laws_FnOverlapsParts.j1 kj5 true t136 t137 t138 t139 t140 t143 t149 t150 t151 t152 t153 t156 t162 t163 t164 t165 t166 t169)) else (laws_FnOverlapsParts.j1 kj5 true t136 t137 t138 t139 t140 t143 t149 t150 t151 t152 t153 t156 t162 t163 t164 t165 t166 t169)) = some r := H
          have A13 := Aside0.mk A130
          clear A130
          have HC14 := Aside0.mk H
          clear H
          go_upto_region 8 with (first | ((with_reducible refine gate_dst (N := 41) rfl ?_); (try (refine gate_guard (by rfl) ?_; dsimp only)); refine Kd.R_lit k25 _ 25 ?hg (N := 41) ?hd (xs := ([(⟨4, a1, a2, 0⟩ : S25)] : List (S25))) (inner := [.int .i64 4, .int .i64 a1, .int .i64 a2, .int .i64 0]) (ok := fun _ => True) (okp := fun _ => True) ?hr ?hp (fun _ hk => hk) trivial (Below.refl _ _) (Nat.le_refl _) (by simp) ?_; (case hd => rfl); (case hg => rfl); (case hr => first | (go_simp; done) | (go_simp; rfl)); (case hp => exact (Reps.c4 (show Kd.M k25 _ _ _ (⟨4, a1, a2, 0⟩ : S25) [.int .i64 4, .int .i64 a1, .int .i64 a2, .int .i64 0] from (k25_mkM _ _ _ (⟨4, a1, a2, 0⟩ : S25) )) (Reps.none _ _))); intro v134 w15 ho16 hb hg_ hnew_; clear hg_ hnew_; (first | rw [← Ny133.out] at ho16 | (simp only [Int.reduceToNat] at ho16; rw [← Ny133.out] at ho16)); have n0_ := Aside0.mk (Kd.R_lower ho16 (below_size (by repeat (first | (with_reducible first | exact HB.out | apply below_alloc | apply pw_below_drewN | apply below_drew1) | exact HB.out)))); have n1_ := Aside0.mk (below_step (by repeat (first | (with_reducible first | exact HB.out | apply below_alloc | apply pw_below_drewN | apply below_drew1) | exact HB.out)) hb); clear HB; have HO135 := n0_; have HB := n1_; clear n0_ n1_; clear hb ho16; obtain ⟨Ao17, co17, eo17⟩ := Kd.R_slice HO135.out; subst eo17) | (go_at_call 15; (with_reducible refine (laws_spanLast.calls _ _ l0 _ _ y133 t136 t137 t138 t139 t140 t143 t144 _ ?side1 ?side2 ?side3 ?side4 A11.out).mono ?_); (case side1 => repeat (first | exact (Kd.C_below HR0.out HB.out) | (with_reducible refine Kd.C_alloc ?_ _) | (with_reducible refine Kd.C_drewN ?_ _) | (with_reducible refine Kd.C_drew ?_))); (case side2 => exact HC0.out); (case side3 => repeat (first | exact (Kd.R_reads' HO135.out).2.2 | (with_reducible refine Kd.C_alloc ?_ _) | (with_reducible refine Kd.C_drewN ?_ _) | (with_reducible refine Kd.C_drew ?_))); (case side4 => exact (Kd.R_reads' HO135.out).2.1); rintro e w18 ⟨v141, rfl, ho0, hb⟩; have n0_ := Aside0.mk (Kd.R_below (by (with_reducible repeat (first | apply Kd.R_alloc | apply Kd.R_drewN | apply Kd.R_drew)); exact HO135.out) hb); have n1_ := Aside0.mk (Kd.R_lower ho0 (below_size (by repeat (first | (with_reducible first | exact HB.out | apply below_alloc | apply pw_below_drewN | apply below_drew1) | exact HB.out)))); have n2_ := Aside0.mk (below_step (by repeat (first | (with_reducible first | exact HB.out | apply below_alloc | apply pw_below_drewN | apply below_drew1) | exact HB.out)) hb); clear HO135; clear HB; have HO135 := n0_; have HO142 := n1_; have HB := n2_; clear n0_ n1_ n2_; (try clear hb); (try clear hb2); (try clear hk); (try clear hi); (try clear ho0)) | ((with_reducible refine gate_dst (N := 9) rfl ?_); (try (refine gate_guard (by rfl) ?_; dsimp only)); refine box_event ?hg (N := 9) ?hd (cs := #[.int .i64 0, .int .i64 0, .int .i64 0, .bool false, .slice none 0 0, .int .i64 0]) (t := 32) ?hr ?_; (case hd => rfl); (case hg => rfl); (case hr => first | (go_simp; done) | (go_simp; rfl)); intro gb145 hg w19 hbox hb; have n0_ := Aside0.mk (Kd.R_below (by (with_reducible repeat (first | apply Kd.R_alloc | apply Kd.R_drewN | apply Kd.R_drew)); exact HO135.out) hb); have n1_ := Aside0.mk (Kd.R_below (by (with_reducible repeat (first | apply Kd.R_alloc | apply Kd.R_drewN | apply Kd.R_drew)); exact HO142.out) hb); have n2_ := Aside0.mk (below_step (by repeat (first | (with_reducible first | exact HB.out | apply below_alloc | apply pw_below_drewN | apply below_drew1) | exact HB.out)) hb); have n3_ := Aside0.mk (hbox); have n4_ := Aside0.mk ((by rw [hg]; exact (below_size (by repeat (first | (with_reducible first | exact HB.out | apply below_alloc | apply pw_below_drewN | apply below_drew1) | exact HB.out))) : w.heap.size ≤ gb145)); have n5_ := Aside0.mk ((by rw [hg]; exact (below_size (by repeat (first | (with_reducible first | exact HB.out | apply below_alloc | apply pw_below_drewN | apply below_drew1) | exact HB.out))) : w.heap.size ≤ gb145)); clear HO135; clear HO142; clear HB; have HO135 := n0_; have HO142 := n1_; have HB := n2_; have BK145 := n3_; have GW145 := n4_; have GE145 := n5_; clear n0_ n1_ n2_ n3_ n4_ n5_; clear hb hbox hg; have hcz20_0 : w19.cell? ⟨gb145, 0, none⟩ = some (.int .i64 0) := (blk_cell BK145.out 0).trans rfl; have hcz20_1 : w19.cell? ⟨gb145, 1, none⟩ = some (.int .i64 0) := (blk_cell BK145.out 1).trans rfl; have hcz20_2 : w19.cell? ⟨gb145, 2, none⟩ = some (.int .i64 0) := (blk_cell BK145.out 2).trans rfl; have hcz20_3 : w19.cell? ⟨gb145, 3, none⟩ = some (.bool false) := (blk_cell BK145.out 3).trans rfl; have hcz20_4 : w19.cell? ⟨gb145, 4, none⟩ = some (.slice none 0 0) := (blk_cell BK145.out 4).trans rfl; have hcz20_5 : w19.cell? ⟨gb145, 5, none⟩ = some (.int .i64 0) := (blk_cell BK145.out 5).trans rfl; have hfz20_0 := blk_frozen BK145.out 0; have hfz20_1 := blk_frozen BK145.out 1; have hfz20_2 := blk_frozen BK145.out 2; have hfz20_3 := blk_frozen BK145.out 3; have hfz20_4 := blk_frozen BK145.out 4; have hfz20_5 := blk_frozen BK145.out 5; obtain ⟨Ao21, co21, eo21⟩ := Kd.R_slice HO142.out; subst eo21) | ((with_reducible refine gate_dst (N := 50) rfl ?_); (try (refine gate_guard (by rfl) ?_; dsimp only)); refine Kd.R_lit k25 _ 25 ?hg (N := 50) ?hd (xs := ([(⟨4, a2, a3, 0⟩ : S25)] : List (S25))) (inner := [.int .i64 4, .int .i64 a2, .int .i64 a3, .int .i64 0]) (ok := fun _ => True) (okp := fun _ => True) ?hr ?hp (fun _ hk => hk) trivial (Below.refl _ _) (Nat.le_refl _) (by simp) ?_; (case hd => rfl); (case hg => rfl); (case hr => first | (go_simp; done) | (go_simp; rfl)); (case hp => exact (Reps.c4 (show Kd.M k25 _ _ _ (⟨4, a2, a3, 0⟩ : S25) [.int .i64 4, .int .i64 a2, .int .i64 a3, .int .i64 0] from (k25_mkM _ _ _ (⟨4, a2, a3, 0⟩ : S25) )) (Reps.none _ _))); intro v147 w22 ho23 hb hg_ hnew_; clear hg_ hnew_; (first | rw [← Ny146.out] at ho23 | (simp only [Int.reduceToNat] at ho23; rw [← Ny146.out] at ho23)); have n0_ := Aside0.mk (Kd.R_elder' (by (with_reducible repeat (first | apply Kd.R_alloc | apply Kd.R_drewN | apply Kd.R_drew)); exact (Kd.R_mono (Kd.R_far (p := ⟨gb145, 5, none⟩) (Kd.R_far (p := ⟨gb145, 4, none⟩) (Kd.R_far (p := ⟨gb145, 3, none⟩) (Kd.R_far (p := ⟨gb145, 2, none⟩) (Kd.R_far (p := ⟨gb145, 1, none⟩) (Kd.R_far (p := ⟨gb145, 0, none⟩) (Kd.R_types HO135.out BK145.out (by decide)) (fun _ hk => hk.2) (.int .i64 t136)) (fun _ hk => hk.2) (.int .i64 t137)) (fun _ hk => hk.2) (.int .i64 t138)) (fun _ hk => hk.2) (.bool t139)) (fun _ hk => hk.2) (.slice Ao21 t140.length co21)) (fun _ hk => hk.2) (.int .i64 t143)) (fun _ h_ => h_.1))) (Kd.R_base ho23) hb); have n1_ := Aside0.mk (Kd.R_below (by (with_reducible repeat (first | apply Kd.R_alloc | apply Kd.R_drewN | apply Kd.R_drew)); exact (Kd.R_mono (Kd.R_far (p := ⟨gb145, 5, none⟩) (Kd.R_far (p := ⟨gb145, 4, none⟩) (Kd.R_far (p := ⟨gb145, 3, none⟩) (Kd.R_far (p := ⟨gb145, 2, none⟩) (Kd.R_far (p := ⟨gb145, 1, none⟩) (Kd.R_far (p := ⟨gb145, 0, none⟩) (Kd.R_types HO142.out BK145.out (by decide)) (fun _ hk => hk.2) (.int .i64 t136)) (fun _ hk => hk.2) (.int .i64 t137)) (fun _ hk => hk.2) (.int .i64 t138)) (fun _ hk => hk.2) (.bool t139)) (fun _ hk => hk.2) (.slice Ao21 t140.length co21)) (fun _ hk => hk.2) (.int .i64 t143)) (fun _ h_ => h_.1))) hb); have n2_ := Aside0.mk (Kd.R_lower (Kd.R_new' ho23 (Kd.R_lt (by (with_reducible repeat (first | apply Kd.R_alloc | apply Kd.R_drewN | apply Kd.R_drew)); exact (Kd.R_mono (Kd.R_far (p := ⟨gb145, 5, none⟩) (Kd.R_far (p := ⟨gb145, 4, none⟩) (Kd.R_far (p := ⟨gb145, 3, none⟩) (Kd.R_far (p := ⟨gb145, 2, none⟩) (Kd.R_far (p := ⟨gb145, 1, none⟩) (Kd.R_far (p := ⟨gb145, 0, none⟩) (Kd.R_types HO135.out BK145.out (by decide)) (fun _ hk => hk.2) (.int .i64 t136)) (fun _ hk => hk.2) (.int .i64 t137)) (fun _ hk => hk.2) (.int .i64 t138)) (fun _ hk => hk.2) (.bool t139)) (fun _ hk => hk.2) (.slice Ao21 t140.length co21)) (fun _ hk => hk.2) (.int .i64 t143)) (fun _ h_ => h_.1))))) (below_size (by repeat (first | (with_reducible first | exact HB.out | apply below_alloc | apply pw_below_drewN | apply below_drew1 | refine below_set ?_ GE145.out) | exact HB.out)))); have n3_ := Aside0.mk (blk_below (g := gb145) (o := .cells #[.int .i64 t136, .int .i64 t137, .int .i64 t138, .bool t139, .slice Ao21 t140.length co21, .int .i64 t143] 32 (0, 0)) (by (with_reducible repeat (first | refine blk_drewN ?_ _ | refine blk_drew ?_ | refine blk_alloc ?_ _)); refine blk_put (cs := #[.int .i64 t136, .int .i64 t137, .int .i64 t138, .bool t139, .slice Ao21 t140.length co21, .int .i64 0]) ?_ 5 _ rfl; (with_reducible repeat (first | refine blk_drewN ?_ _ | refine blk_drew ?_ | refine blk_alloc ?_ _)); refine blk_put (cs := #[.int .i64 t136, .int .i64 t137, .int .i64 t138, .bool t139, .slice none 0 0, .int .i64 0]) ?_ 4 _ rfl; (with_reducible repeat (first | refine blk_drewN ?_ _ | refine blk_drew ?_ | refine blk_alloc ?_ _)); refine blk_put (cs := #[.int .i64 t136, .int .i64 t137, .int .i64 t138, .bool false, .slice none 0 0, .int .i64 0]) ?_ 3 _ rfl; (with_reducible repeat (first | refine blk_drewN ?_ _ | refine blk_drew ?_ | refine blk_alloc ?_ _)); refine blk_put (cs := #[.int .i64 t136, .int .i64 t137, .int .i64 0, .bool false, .slice none 0 0, .int .i64 0]) ?_ 2 _ rfl; (with_reducible repeat (first | refine blk_drewN ?_ _ | refine blk_drew ?_ | refine blk_alloc ?_ _)); refine blk_put (cs := #[.int .i64 t136, .int .i64 0, .int .i64 0, .bool false, .slice none 0 0, .int .i64 0]) ?_ 1 _ rfl; (with_reducible repeat (first | refine blk_drewN ?_ _ | refine blk_drew ?_ | refine blk_alloc ?_ _)); refine blk_put (cs := #[.int .i64 0, .int .i64 0, .int .i64 0, .bool false, .slice none 0 0, .int .i64 0]) ?_ 0 _ rfl; (with_reducible repeat (first | refine blk_drewN ?_ _ | refine blk_drew ?_ | refine blk_alloc ?_ _)); exact BK145.out) hb); have n4_ := Aside0.mk (below_step (by repeat (first | (with_reducible first | exact HB.out | apply below_alloc | apply pw_below_drewN | apply below_drew1 | refine below_set ?_ GE145.out) | exact HB.out)) hb); clear HO135; clear HO142; clear BK145; clear HB; have HO135 := n0_; have HO142 := n1_; have HO148 := n2_; have BK145 := n3_; have HB := n4_; clear n0_ n1_ n2_ n3_ n4_; clear hb ho23; obtain ⟨Ao24, co24, eo24⟩ := Kd.R_slice HO148.out; subst eo24) | (go_at_call 15; (with_reducible refine (laws_spanLast.calls _ _ l0 _ _ y146 t149 t150 t151 t152 t153 t156 t157 _ ?side1 ?side2 ?side3 ?side4 A12.out).mono ?_); (case side1 => repeat (first | exact (Kd.C_below HR0.out HB.out) | (with_reducible refine Kd.C_alloc ?_ _) | (with_reducible refine Kd.C_drewN ?_ _) | (with_reducible refine Kd.C_drew ?_))); (case side2 => exact HC0.out); (case side3 => repeat (first | exact (Kd.R_reads' HO148.out).2.2 | (with_reducible refine Kd.C_alloc ?_ _) | (with_reducible refine Kd.C_drewN ?_ _) | (with_reducible refine Kd.C_drew ?_))); (case side4 => exact (Kd.R_reads' HO148.out).2.1); rintro e w25 ⟨v154, rfl, ho0, hb⟩; have n0_ := Aside0.mk (Kd.R_below (by (with_reducible repeat (first | apply Kd.R_alloc | apply Kd.R_drewN | apply Kd.R_drew)); exact HO135.out) hb); have n1_ := Aside0.mk (Kd.R_elder' (by (with_reducible repeat (first | apply Kd.R_alloc | apply Kd.R_drewN | apply Kd.R_drew)); exact HO142.out) (Kd.R_base ho0) hb); have n2_ := Aside0.mk (Kd.R_below (by (with_reducible repeat (first | apply Kd.R_alloc | apply Kd.R_drewN | apply Kd.R_drew)); exact HO148.out) hb); have n3_ := Aside0.mk (Kd.R_lower (Kd.R_new' ho0 (Kd.R_lt (by (with_reducible repeat (first | apply Kd.R_alloc | apply Kd.R_drewN | apply Kd.R_drew)); exact HO142.out))) (below_size (by repeat (first | (with_reducible first | exact HB.out | apply below_alloc | apply pw_below_drewN | apply below_drew1 | refine below_set ?_ GE145.out) | exact HB.out)))); have n4_ := Aside0.mk (blk_below (g := gb145) (o := .cells #[.int .i64 t136, .int .i64 t137, .int .i64 t138, .bool t139, .slice Ao21 t140.length co21, .int .i64 t143] 32 (0, 0)) (by (with_reducible repeat (first | refine blk_drewN ?_ _ | refine blk_drew ?_ | refine blk_alloc ?_ _)); exact BK145.out) hb); have n5_ := Aside0.mk (below_step (by repeat (first | (with_reducible first | exact HB.out | apply below_alloc | apply pw_below_drewN | apply below_drew1 | refine below_set ?_ GE145.out) | exact HB.out)) hb); clear HO135; clear HO142; clear HO148; clear BK145; clear HB; have HO135 := n0_; have HO142 := n1_; have HO148 := n2_; have HO155 := n3_; have BK145 := n4_; have HB := n5_; clear n0_ n1_ n2_ n3_ n4_ n5_; (try clear hb); (try clear hb2); (try clear hk); (try clear hi); (try clear ho0)) | ((with_reducible refine gate_dst (N := 11) rfl ?_); (try (refine gate_guard (by rfl) ?_; dsimp only)); refine box_event ?hg (N := 11) ?hd (cs := #[.int .i64 0, .int .i64 0, .int .i64 0, .bool false, .slice none 0 0, .int .i64 0]) (t := 32) ?hr ?_; (case hd => rfl); (case hg => rfl); (case hr => first | (go_simp; done) | (go_simp; rfl)); intro gb158 hg w26 hbox hb; have n0_ := Aside0.mk (Kd.R_below (by (with_reducible repeat (first | apply Kd.R_alloc | apply Kd.R_drewN | apply Kd.R_drew)); exact HO135.out) hb); have n1_ := Aside0.mk (Kd.R_below (by (with_reducible repeat (first | apply Kd.R_alloc | apply Kd.R_drewN | apply Kd.R_drew)); exact HO142.out) hb); have n2_ := Aside0.mk (Kd.R_below (by (with_reducible repeat (first | apply Kd.R_alloc | apply Kd.R_drewN | apply Kd.R_drew)); exact HO148.out) hb); have n3_ := Aside0.mk (Kd.R_below (by (with_reducible repeat (first | apply Kd.R_alloc | apply Kd.R_drewN | apply Kd.R_drew)); exact HO155.out) hb); have n4_ := Aside0.mk (blk_below (g := gb145) (o := .cells #[.int .i64 t136, .int .i64 t137, .int .i64 t138, .bool t139, .slice Ao21 t140.length co21, .int .i64 t143] 32 (0, 0)) (by (with_reducible repeat (first | refine blk_drewN ?_ _ | refine blk_drew ?_ | refine blk_alloc ?_ _)); exact BK145.out) hb); have n5_ := Aside0.mk (below_step (by repeat (first | (with_reducible first | exact HB.out | apply below_alloc | apply pw_below_drewN | apply below_drew1 | refine below_set ?_ GE145.out) | exact HB.out)) hb); have n6_ := Aside0.mk (hbox); have n7_ := Aside0.mk ((by rw [hg]; exact (below_size (by repeat (first | (with_reducible first | exact HB.out | apply below_alloc | apply pw_below_drewN | apply below_drew1 | refine below_set ?_ GE145.out) | exact HB.out))) : w.heap.size ≤ gb158)); have n8_ := Aside0.mk ((by rw [hg]; exact (below_size (by repeat (first | (with_reducible first | exact HB.out | apply below_alloc | apply pw_below_drewN | apply below_drew1 | refine below_set ?_ GE145.out) | exact HB.out))) : w.heap.size ≤ gb158)); have n9_ := Aside0.mk ((by rw [hg]; exact Nat.ne_of_lt (blk_lt (g := gb145) (o := .cells #[.int .i64 t136, .int .i64 t137, .int .i64 t138, .bool t139, .slice Ao21 t140.length co21, .int .i64 t143] 32 (0, 0)) (by (with_reducible repeat (first | refine blk_drewN ?_ _ | refine blk_drew ?_ | refine blk_alloc ?_ _)); exact BK145.out)) : gb145 ≠ gb158)); have n10_ := Aside0.mk ((by rw [hg]; exact Nat.ne_of_gt (blk_lt (g := gb145) (o := .cells #[.int .i64 t136, .int .i64 t137, .int .i64 t138, .bool t139, .slice Ao21 t140.length co21, .int .i64 t143] 32 (0, 0)) (by (with_reducible repeat (first | refine blk_drewN ?_ _ | refine blk_drew ?_ | refine blk_alloc ?_ _)); exact BK145.out)) : gb158 ≠ gb145)); clear HO135; clear HO142; clear HO148; clear HO155; clear BK145; clear HB; have HO135 := n0_; have HO142 := n1_; have HO148 := n2_; have HO155 := n3_; have BK145 := n4_; have HB := n5_; have BK158 := n6_; have GW158 := n7_; have GE158 := n8_; have NB145_158 := n9_; have NB158_145 := n10_; clear n0_ n1_ n2_ n3_ n4_ n5_ n6_ n7_ n8_ n9_ n10_; clear hb hbox hg; have hnb27 := NB158_145.out; have hnc27 := NB145_158.out; have hcz28_0 : w26.cell? ⟨gb158, 0, none⟩ = some (.int .i64 0) := (blk_cell BK158.out 0).trans rfl; have hcz28_1 : w26.cell? ⟨gb158, 1, none⟩ = some (.int .i64 0) := (blk_cell BK158.out 1).trans rfl; have hcz28_2 : w26.cell? ⟨gb158, 2, none⟩ = some (.int .i64 0) := (blk_cell BK158.out 2).trans rfl; have hcz28_3 : w26.cell? ⟨gb158, 3, none⟩ = some (.bool false) := (blk_cell BK158.out 3).trans rfl; have hcz28_4 : w26.cell? ⟨gb158, 4, none⟩ = some (.slice none 0 0) := (blk_cell BK158.out 4).trans rfl; have hcz28_5 : w26.cell? ⟨gb158, 5, none⟩ = some (.int .i64 0) := (blk_cell BK158.out 5).trans rfl; have hfz28_0 := blk_frozen BK158.out 0; have hfz28_1 := blk_frozen BK158.out 1; have hfz28_2 := blk_frozen BK158.out 2; have hfz28_3 := blk_frozen BK158.out 3; have hfz28_4 := blk_frozen BK158.out 4; have hfz28_5 := blk_frozen BK158.out 5; obtain ⟨Ao29, co29, eo29⟩ := Kd.R_slice HO155.out; subst eo29) | ((with_reducible refine gate_dst (N := 59) rfl ?_); (try (refine gate_guard (by rfl) ?_; dsimp only)); refine Kd.R_lit k25 _ 25 ?hg (N := 59) ?hd (xs := ([(⟨4, a1, a3, 0⟩ : S25)] : List (S25))) (inner := [.int .i64 4, .int .i64 a1, .int .i64 a3, .int .i64 0]) (ok := fun _ => True) (okp := fun _ => True) ?hr ?hp (fun _ hk => hk) trivial (Below.refl _ _) (Nat.le_refl _) (by simp) ?_; (case hd => rfl); (case hg => rfl); (case hr => first | (go_simp; done) | (go_simp; rfl)); (case hp => exact (Reps.c4 (show Kd.M k25 _ _ _ (⟨4, a1, a3, 0⟩ : S25) [.int .i64 4, .int .i64 a1, .int .i64 a3, .int .i64 0] from (k25_mkM _ _ _ (⟨4, a1, a3, 0⟩ : S25) )) (Reps.none _ _))); intro v160 w30 ho31 hb hg_ hnew_; clear hg_ hnew_; (first | rw [← Ny159.out] at ho31 | (simp only [Int.reduceToNat] at ho31; rw [← Ny159.out] at ho31)); have n0_ := Aside0.mk (Kd.R_elder' (by (with_reducible repeat (first | apply Kd.R_alloc | apply Kd.R_drewN | apply Kd.R_drew)); exact (Kd.R_mono (Kd.R_far (p := ⟨gb158, 5, none⟩) (Kd.R_far (p := ⟨gb158, 4, none⟩) (Kd.R_far (p := ⟨gb158, 3, none⟩) (Kd.R_far (p := ⟨gb158, 2, none⟩) (Kd.R_far (p := ⟨gb158, 1, none⟩) (Kd.R_far (p := ⟨gb158, 0, none⟩) (Kd.R_types HO135.out BK158.out (by decide)) (fun _ hk => hk.2) (.int .i64 t149)) (fun _ hk => hk.2) (.int .i64 t150)) (fun _ hk => hk.2) (.int .i64 t151)) (fun _ hk => hk.2) (.bool t152)) (fun _ hk => hk.2) (.slice Ao29 t153.length co29)) (fun _ hk => hk.2) (.int .i64 t156)) (fun _ h_ => h_.1))) (Kd.R_base ho31) hb); have n1_ := Aside0.mk (Kd.R_below (by (with_reducible repeat (first | apply Kd.R_alloc | apply Kd.R_drewN | apply Kd.R_drew)); exact (Kd.R_mono (Kd.R_far (p := ⟨gb158, 5, none⟩) (Kd.R_far (p := ⟨gb158, 4, none⟩) (Kd.R_far (p := ⟨gb158, 3, none⟩) (Kd.R_far (p := ⟨gb158, 2, none⟩) (Kd.R_far (p := ⟨gb158, 1, none⟩) (Kd.R_far (p := ⟨gb158, 0, none⟩) (Kd.R_types HO142.out BK158.out (by decide)) (fun _ hk => hk.2) (.int .i64 t149)) (fun _ hk => hk.2) (.int .i64 t150)) (fun _ hk => hk.2) (.int .i64 t151)) (fun _ hk => hk.2) (.bool t152)) (fun _ hk => hk.2) (.slice Ao29 t153.length co29)) (fun _ hk => hk.2) (.int .i64 t156)) (fun _ h_ => h_.1))) hb); have n2_ := Aside0.mk (Kd.R_elder' (by (with_reducible repeat (first | apply Kd.R_alloc | apply Kd.R_drewN | apply Kd.R_drew)); exact (Kd.R_mono (Kd.R_far (p := ⟨gb158, 5, none⟩) (Kd.R_far (p := ⟨gb158, 4, none⟩) (Kd.R_far (p := ⟨gb158, 3, none⟩) (Kd.R_far (p := ⟨gb158, 2, none⟩) (Kd.R_far (p := ⟨gb158, 1, none⟩) (Kd.R_far (p := ⟨gb158, 0, none⟩) (Kd.R_types HO148.out BK158.out (by decide)) (fun _ hk => hk.2) (.int .i64 t149)) (fun _ hk => hk.2) (.int .i64 t150)) (fun _ hk => hk.2) (.int .i64 t151)) (fun _ hk => hk.2) (.bool t152)) (fun _ hk => hk.2) (.slice Ao29 t153.length co29)) (fun _ hk => hk.2) (.int .i64 t156)) (fun _ h_ => h_.1))) (Kd.R_base ho31) hb); have n3_ := Aside0.mk (Kd.R_below (by (with_reducible repeat (first | apply Kd.R_alloc | apply Kd.R_drewN | apply Kd.R_drew)); exact (Kd.R_mono (Kd.R_far (p := ⟨gb158, 5, none⟩) (Kd.R_far (p := ⟨gb158, 4, none⟩) (Kd.R_far (p := ⟨gb158, 3, none⟩) (Kd.R_far (p := ⟨gb158, 2, none⟩) (Kd.R_far (p := ⟨gb158, 1, none⟩) (Kd.R_far (p := ⟨gb158, 0, none⟩) (Kd.R_types HO155.out BK158.out (by decide)) (fun _ hk => hk.2) (.int .i64 t149)) (fun _ hk => hk.2) (.int .i64 t150)) (fun _ hk => hk.2) (.int .i64 t151)) (fun _ hk => hk.2) (.bool t152)) (fun _ hk => hk.2) (.slice Ao29 t153.length co29)) (fun _ hk => hk.2) (.int .i64 t156)) (fun _ h_ => h_.1))) hb); have n4_ := Aside0.mk (Kd.R_lower (Kd.R_new' (Kd.R_new' ho31 (Kd.R_lt (by (with_reducible repeat (first | apply Kd.R_alloc | apply Kd.R_drewN | apply Kd.R_drew)); exact (Kd.R_mono (Kd.R_far (p := ⟨gb158, 5, none⟩) (Kd.R_far (p := ⟨gb158, 4, none⟩) (Kd.R_far (p := ⟨gb158, 3, none⟩) (Kd.R_far (p := ⟨gb158, 2, none⟩) (Kd.R_far (p := ⟨gb158, 1, none⟩) (Kd.R_far (p := ⟨gb158, 0, none⟩) (Kd.R_types HO135.out BK158.out (by decide)) (fun _ hk => hk.2) (.int .i64 t149)) (fun _ hk => hk.2) (.int .i64 t150)) (fun _ hk => hk.2) (.int .i64 t151)) (fun _ hk => hk.2) (.bool t152)) (fun _ hk => hk.2) (.slice Ao29 t153.length co29)) (fun _ hk => hk.2) (.int .i64 t156)) (fun _ h_ => h_.1))))) (Kd.R_lt (by (with_reducible repeat (first | apply Kd.R_alloc | apply Kd.R_drewN | apply Kd.R_drew)); exact (Kd.R_mono (Kd.R_far (p := ⟨gb158, 5, none⟩) (Kd.R_far (p := ⟨gb158, 4, none⟩) (Kd.R_far (p := ⟨gb158, 3, none⟩) (Kd.R_far (p := ⟨gb158, 2, none⟩) (Kd.R_far (p := ⟨gb158, 1, none⟩) (Kd.R_far (p := ⟨gb158, 0, none⟩) (Kd.R_types HO148.out BK158.out (by decide)) (fun _ hk => hk.2) (.int .i64 t149)) (fun _ hk => hk.2) (.int .i64 t150)) (fun _ hk => hk.2) (.int .i64 t151)) (fun _ hk => hk.2) (.bool t152)) (fun _ hk => hk.2) (.slice Ao29 t153.length co29)) (fun _ hk => hk.2) (.int .i64 t156)) (fun _ h_ => h_.1))))) (below_size (by repeat (first | (with_reducible first | exact HB.out | apply below_alloc | apply pw_below_drewN | apply below_drew1 | refine below_set ?_ GE145.out | refine below_set ?_ GE158.out) | exact HB.out)))); have n5_ := Aside0.mk (blk_below (g := gb145) (o := .cells #[.int .i64 t136, .int .i64 t137, .int .i64 t138, .bool t139, .slice Ao21 t140.length co21, .int .i64 t143] 32 (0, 0)) (by (with_reducible repeat (first | refine blk_drewN ?_ _ | refine blk_drew ?_ | refine blk_alloc ?_ _)); refine blk_far ?_ NB145_158.out _; (with_reducible repeat (first | refine blk_drewN ?_ _ | refine blk_drew ?_ | refine blk_alloc ?_ _)); refine blk_far ?_ NB145_158.out _; (with_reducible repeat (first | refine blk_drewN ?_ _ | refine blk_drew ?_ | refine blk_alloc ?_ _)); refine blk_far ?_ NB145_158.out _; (with_reducible repeat (first | refine blk_drewN ?_ _ | refine blk_drew ?_ | refine blk_alloc ?_ _)); refine blk_far ?_ NB145_158.out _; (with_reducible repeat (first | refine blk_drewN ?_ _ | refine blk_drew ?_ | refine blk_alloc ?_ _)); refine blk_far ?_ NB145_158.out _; (with_reducible repeat (first | refine blk_drewN ?_ _ | refine blk_drew ?_ | refine blk_alloc ?_ _)); refine blk_far ?_ NB145_158.out _; (with_reducible repeat (first | refine blk_drewN ?_ _ | refine blk_drew ?_ | refine blk_alloc ?_ _)); exact BK145.out) hb); have n6_ := Aside0.mk (blk_below (g := gb158) (o := .cells #[.int .i64 t149, .int .i64 t150, .int .i64 t151, .bool t152, .slice Ao29 t153.length co29, .int .i64 t156] 32 (0, 0)) (by (with_reducible repeat (first | refine blk_drewN ?_ _ | refine blk_drew ?_ | refine blk_alloc ?_ _)); refine blk_put (cs := #[.int .i64 t149, .int .i64 t150, .int .i64 t151, .bool t152, .slice Ao29 t153.length co29, .int .i64 0]) ?_ 5 _ rfl; (with_reducible repeat (first | refine blk_drewN ?_ _ | refine blk_drew ?_ | refine blk_alloc ?_ _)); refine blk_put (cs := #[.int .i64 t149, .int .i64 t150, .int .i64 t151, .bool t152, .slice none 0 0, .int .i64 0]) ?_ 4 _ rfl; (with_reducible repeat (first | refine blk_drewN ?_ _ | refine blk_drew ?_ | refine blk_alloc ?_ _)); refine blk_put (cs := #[.int .i64 t149, .int .i64 t150, .int .i64 t151, .bool false, .slice none 0 0, .int .i64 0]) ?_ 3 _ rfl; (with_reducible repeat (first | refine blk_drewN ?_ _ | refine blk_drew ?_ | refine blk_alloc ?_ _)); refine blk_put (cs := #[.int .i64 t149, .int .i64 t150, .int .i64 0, .bool false, .slice none 0 0, .int .i64 0]) ?_ 2 _ rfl; (with_reducible repeat (first | refine blk_drewN ?_ _ | refine blk_drew ?_ | refine blk_alloc ?_ _)); refine blk_put (cs := #[.int .i64 t149, .int .i64 0, .int .i64 0, .bool false, .slice none 0 0, .int .i64 0]) ?_ 1 _ rfl; (with_reducible repeat (first | refine blk_drewN ?_ _ | refine blk_drew ?_ | refine blk_alloc ?_ _)); refine blk_put (cs := #[.int .i64 0, .int .i64 0, .int .i64 0, .bool false, .slice none 0 0, .int .i64 0]) ?_ 0 _ rfl; (with_reducible repeat (first | refine blk_drewN ?_ _ | refine blk_drew ?_ | refine blk_alloc ?_ _)); exact BK158.out) hb); have n7_ := Aside0.mk (below_step (by repeat (first | (with_reducible first | exact HB.out | apply below_alloc | apply pw_below_drewN | apply below_drew1 | refine below_set ?_ GE145.out | refine below_set ?_ GE158.out) | exact HB.out)) hb); clear HO135; clear HO142; clear HO148; clear HO155; clear BK145; clear BK158; clear HB; have HO135 := n0_; have HO142 := n1_; have HO148 := n2_; have HO155 := n3_; have HO161 := n4_; have BK145 := n5_; have BK158 := n6_; have HB := n7_; clear n0_ n1_ n2_ n3_ n4_ n5_ n6_ n7_; clear hb ho31; obtain ⟨Ao32, co32, eo32⟩ := Kd.R_slice HO161.out; subst eo32) | (go_at_call 15; (with_reducible refine (laws_spanLast.calls _ _ l0 _ _ y159 t162 t163 t164 t165 t166 t169 t170 _ ?side1 ?side2 ?side3 ?side4 A13.out).mono ?_); (case side1 => repeat (first | exact (Kd.C_below HR0.out HB.out) | (with_reducible refine Kd.C_alloc ?_ _) | (with_reducible refine Kd.C_drewN ?_ _) | (with_reducible refine Kd.C_drew ?_))); (case side2 => exact HC0.out); (case side3 => repeat (first | exact (Kd.R_reads' HO161.out).2.2 | (with_reducible refine Kd.C_alloc ?_ _) | (with_reducible refine Kd.C_drewN ?_ _) | (with_reducible refine Kd.C_drew ?_))); (case side4 => exact (Kd.R_reads' HO161.out).2.1); rintro e w33 ⟨v167, rfl, ho0, hb⟩; have n0_ := Aside0.mk (Kd.R_below (by (with_reducible repeat (first | apply Kd.R_alloc | apply Kd.R_drewN | apply Kd.R_drew)); exact HO135.out) hb); have n1_ := Aside0.mk (Kd.R_elder' (by (with_reducible repeat (first | apply Kd.R_alloc | apply Kd.R_drewN | apply Kd.R_drew)); exact HO142.out) (Kd.R_base ho0) hb); have n2_ := Aside0.mk (Kd.R_below (by (with_reducible repeat (first | apply Kd.R_alloc | apply Kd.R_drewN | apply Kd.R_drew)); exact HO148.out) hb); have n3_ := Aside0.mk (Kd.R_elder' (by (with_reducible repeat (first | apply Kd.R_alloc | apply Kd.R_drewN | apply Kd.R_drew)); exact HO155.out) (Kd.R_base ho0) hb); have n4_ := Aside0.mk (Kd.R_below (by (with_reducible repeat (first | apply Kd.R_alloc | apply Kd.R_drewN | apply Kd.R_drew)); exact HO161.out) hb); have n5_ := Aside0.mk (Kd.R_lower (Kd.R_new' (Kd.R_new' ho0 (Kd.R_lt (by (with_reducible repeat (first | apply Kd.R_alloc | apply Kd.R_drewN | apply Kd.R_drew)); exact HO142.out))) (Kd.R_lt (by (with_reducible repeat (first | apply Kd.R_alloc | apply Kd.R_drewN | apply Kd.R_drew)); exact HO155.out))) (below_size (by repeat (first | (with_reducible first | exact HB.out | apply below_alloc | apply pw_below_drewN | apply below_drew1 | refine below_set ?_ GE145.out | refine below_set ?_ GE158.out) | exact HB.out)))); have n6_ := Aside0.mk (blk_below (g := gb145) (o := .cells #[.int .i64 t136, .int .i64 t137, .int .i64 t138, .bool t139, .slice Ao21 t140.length co21, .int .i64 t143] 32 (0, 0)) (by (with_reducible repeat (first | refine blk_drewN ?_ _ | refine blk_drew ?_ | refine blk_alloc ?_ _)); exact BK145.out) hb); have n7_ := Aside0.mk (blk_below (g := gb158) (o := .cells #[.int .i64 t149, .int .i64 t150, .int .i64 t151, .bool t152, .slice Ao29 t153.length co29, .int .i64 t156] 32 (0, 0)) (by (with_reducible repeat (first | refine blk_drewN ?_ _ | refine blk_drew ?_ | refine blk_alloc ?_ _)); exact BK158.out) hb); have n8_ := Aside0.mk (below_step (by repeat (first | (with_reducible first | exact HB.out | apply below_alloc | apply pw_below_drewN | apply below_drew1 | refine below_set ?_ GE145.out | refine below_set ?_ GE158.out) | exact HB.out)) hb); clear HO135; clear HO142; clear HO148; clear HO155; clear HO161; clear BK145; clear BK158; clear HB; have HO135 := n0_; have HO142 := n1_; have HO148 := n2_; have HO155 := n3_; have HO161 := n4_; have HO168 := n5_; have BK145 := n6_; have BK158 := n7_; have HB := n8_; clear n0_ n1_ n2_ n3_ n4_ n5_ n6_ n7_ n8_; (try clear hb); (try clear hb2); (try clear hk); (try clear hi); (try clear ho0)) | ((with_reducible refine gate_dst (N := 13) rfl ?_); (try (refine gate_guard (by rfl) ?_; dsimp only)); refine box_event ?hg (N := 13) ?hd (cs := #[.int .i64 0, .int .i64 0, .int .i64 0, .bool false, .slice none 0 0, .int .i64 0]) (t := 32) ?hr ?_; (case hd => rfl); (case hg => rfl); (case hr => first | (go_simp; done) | (go_simp; rfl)); intro gb171 hg w34 hbox hb; have n0_ := Aside0.mk (Kd.R_below (by (with_reducible repeat (first | apply Kd.R_alloc | apply Kd.R_drewN | apply Kd.R_drew)); exact HO135.out) hb); have n1_ := Aside0.mk (Kd.R_below (by (with_reducible repeat (first | apply Kd.R_alloc | apply Kd.R_drewN | apply Kd.R_drew)); exact HO142.out) hb); have n2_ := Aside0.mk (Kd.R_below (by (with_reducible repeat (first | apply Kd.R_alloc | apply Kd.R_drewN | apply Kd.R_drew)); exact HO148.out) hb); have n3_ := Aside0.mk (Kd.R_below (by (with_reducible repeat (first | apply Kd.R_alloc | apply Kd.R_drewN | apply Kd.R_drew)); exact HO155.out) hb); have n4_ := Aside0.mk (Kd.R_below (by (with_reducible repeat (first | apply Kd.R_alloc | apply Kd.R_drewN | apply Kd.R_drew)); exact HO161.out) hb); have n5_ := Aside0.mk (Kd.R_below (by (with_reducible repeat (first | apply Kd.R_alloc | apply Kd.R_drewN | apply Kd.R_drew)); exact HO168.out) hb); have n6_ := Aside0.mk (blk_below (g := gb145) (o := .cells #[.int .i64 t136, .int .i64 t137, .int .i64 t138, .bool t139, .slice Ao21 t140.length co21, .int .i64 t143] 32 (0, 0)) (by (with_reducible repeat (first | refine blk_drewN ?_ _ | refine blk_drew ?_ | refine blk_alloc ?_ _)); exact BK145.out) hb); have n7_ := Aside0.mk (blk_below (g := gb158) (o := .cells #[.int .i64 t149, .int .i64 t150, .int .i64 t151, .bool t152, .slice Ao29 t153.length co29, .int .i64 t156] 32 (0, 0)) (by (with_reducible repeat (first | refine blk_drewN ?_ _ | refine blk_drew ?_ | refine blk_alloc ?_ _)); exact BK158.out) hb); have n8_ := Aside0.mk (below_step (by repeat (first | (with_reducible first | exact HB.out | apply below_alloc | apply pw_below_drewN | apply below_drew1 | refine below_set ?_ GE145.out | refine below_set ?_ GE158.out) | exact HB.out)) hb); have n9_ := Aside0.mk (hbox); have n10_ := Aside0.mk ((by rw [hg]; exact (below_size (by repeat (first | (with_reducible first | exact HB.out | apply below_alloc | apply pw_below_drewN | apply below_drew1 | refine below_set ?_ GE145.out | refine below_set ?_ GE158.out) | exact HB.out))) : w.heap.size ≤ gb171)); have n11_ := Aside0.mk ((by rw [hg]; exact (below_size (by repeat (first | (with_reducible first | exact HB.out | apply below_alloc | apply pw_below_drewN | apply below_drew1 | refine below_set ?_ GE145.out | refine below_set ?_ GE158.out) | exact HB.out))) : w.heap.size ≤ gb171)); have n12_ := Aside0.mk ((by rw [hg]; exact Nat.ne_of_lt (blk_lt (g := gb145) (o := .cells #[.int .i64 t136, .int .i64 t137, .int .i64 t138, .bool t139, .slice Ao21 t140.length co21, .int .i64 t143] 32 (0, 0)) (by (with_reducible repeat (first | refine blk_drewN ?_ _ | refine blk_drew ?_ | refine blk_alloc ?_ _)); exact BK145.out)) : gb145 ≠ gb171)); have n13_ := Aside0.mk ((by rw [hg]; exact Nat.ne_of_gt (blk_lt (g := gb145) (o := .cells #[.int .i64 t136, .int .i64 t137, .int .i64 t138, .bool t139, .slice Ao21 t140.length co21, .int .i64 t143] 32 (0, 0)) (by (with_reducible repeat (first | refine blk_drewN ?_ _ | refine blk_drew ?_ | refine blk_alloc ?_ _)); exact BK145.out)) : gb171 ≠ gb145)); have n14_ := Aside0.mk ((by rw [hg]; exact Nat.ne_of_lt (blk_lt (g := gb158) (o := .cells #[.int .i64 t149, .int .i64 t150, .int .i64 t151, .bool t152, .slice Ao29 t153.length co29, .int .i64 t156] 32 (0, 0)) (by (with_reducible repeat (first | refine blk_drewN ?_ _ | refine blk_drew ?_ | refine blk_alloc ?_ _)); exact BK158.out)) : gb158 ≠ gb171)); have n15_ := Aside0.mk ((by rw [hg]; exact Nat.ne_of_gt (blk_lt (g := gb158) (o := .cells #[.int .i64 t149, .int .i64 t150, .int .i64 t151, .bool t152, .slice Ao29 t153.length co29, .int .i64 t156] 32 (0, 0)) (by (with_reducible repeat (first | refine blk_drewN ?_ _ | refine blk_drew ?_ | refine blk_alloc ?_ _)); exact BK158.out)) : gb171 ≠ gb158)); clear HO135; clear HO142; clear HO148; clear HO155; clear HO161; clear HO168; clear BK145; clear BK158; clear HB; have HO135 := n0_; have HO142 := n1_; have HO148 := n2_; have HO155 := n3_; have HO161 := n4_; have HO168 := n5_; have BK145 := n6_; have BK158 := n7_; have HB := n8_; have BK171 := n9_; have GW171 := n10_; have GE171 := n11_; have NB145_171 := n12_; have NB171_145 := n13_; have NB158_171 := n14_; have NB171_158 := n15_; clear n0_ n1_ n2_ n3_ n4_ n5_ n6_ n7_ n8_ n9_ n10_ n11_ n12_ n13_ n14_ n15_; clear hb hbox hg; have hnb35 := NB171_145.out; have hnc35 := NB145_171.out; have hnb36 := NB171_158.out; have hnc36 := NB158_171.out; have hcz37_0 : w34.cell? ⟨gb171, 0, none⟩ = some (.int .i64 0) := (blk_cell BK171.out 0).trans rfl; have hcz37_1 : w34.cell? ⟨gb171, 1, none⟩ = some (.int .i64 0) := (blk_cell BK171.out 1).trans rfl; have hcz37_2 : w34.cell? ⟨gb171, 2, none⟩ = some (.int .i64 0) := (blk_cell BK171.out 2).trans rfl; have hcz37_3 : w34.cell? ⟨gb171, 3, none⟩ = some (.bool false) := (blk_cell BK171.out 3).trans rfl; have hcz37_4 : w34.cell? ⟨gb171, 4, none⟩ = some (.slice none 0 0) := (blk_cell BK171.out 4).trans rfl; have hcz37_5 : w34.cell? ⟨gb171, 5, none⟩ = some (.int .i64 0) := (blk_cell BK171.out 5).trans rfl; have hfz37_0 := blk_frozen BK171.out 0; have hfz37_1 := blk_frozen BK171.out 1; have hfz37_2 := blk_frozen BK171.out 2; have hfz37_3 := blk_frozen BK171.out 3; have hfz37_4 := blk_frozen BK171.out 4; have hfz37_5 := blk_frozen BK171.out 5; obtain ⟨Ao38, co38, eo38⟩ := Kd.R_slice HO168.out; subst eo38))
          repeat (go_quiet (first | ((with_reducible refine gate_dst (N := 41) rfl ?_); (try (refine gate_guard (by rfl) ?_; dsimp only)); refine Kd.R_lit k25 _ 25 ?hg (N := 41) ?hd (xs := ([(⟨4, a1, a2, 0⟩ : S25)] : List (S25))) (inner := [.int .i64 4, .int .i64 a1, .int .i64 a2, .int .i64 0]) (ok := fun _ => True) (okp := fun _ => True) ?hr ?hp (fun _ hk => hk) trivial (Below.refl _ _) (Nat.le_refl _) (by simp) ?_; (case hd => rfl); (case hg => rfl); (case hr => first | (go_simp; done) | (go_simp; rfl)); (case hp => exact (Reps.c4 (show Kd.M k25 _ _ _ (⟨4, a1, a2, 0⟩ : S25) [.int .i64 4, .int .i64 a1, .int .i64 a2, .int .i64 0] from (k25_mkM _ _ _ (⟨4, a1, a2, 0⟩ : S25) )) (Reps.none _ _))); intro v134 w15 ho16 hb hg_ hnew_; clear hg_ hnew_; (first | rw [← Ny133.out] at ho16 | (simp only [Int.reduceToNat] at ho16; rw [← Ny133.out] at ho16)); have n0_ := Aside0.mk (Kd.R_lower ho16 (below_size (by repeat (first | (with_reducible first | exact HB.out | apply below_alloc | apply pw_below_drewN | apply below_drew1) | exact HB.out)))); have n1_ := Aside0.mk (below_step (by repeat (first | (with_reducible first | exact HB.out | apply below_alloc | apply pw_below_drewN | apply below_drew1) | exact HB.out)) hb); clear HB; have HO135 := n0_; have HB := n1_; clear n0_ n1_; clear hb ho16; obtain ⟨Ao17, co17, eo17⟩ := Kd.R_slice HO135.out; subst eo17) | (go_at_call 15; (with_reducible refine (laws_spanLast.calls _ _ l0 _ _ y133 t136 t137 t138 t139 t140 t143 t144 _ ?side1 ?side2 ?side3 ?side4 A11.out).mono ?_); (case side1 => repeat (first | exact (Kd.C_below HR0.out HB.out) | (with_reducible refine Kd.C_alloc ?_ _) | (with_reducible refine Kd.C_drewN ?_ _) | (with_reducible refine Kd.C_drew ?_))); (case side2 => exact HC0.out); (case side3 => repeat (first | exact (Kd.R_reads' HO135.out).2.2 | (with_reducible refine Kd.C_alloc ?_ _) | (with_reducible refine Kd.C_drewN ?_ _) | (with_reducible refine Kd.C_drew ?_))); (case side4 => exact (Kd.R_reads' HO135.out).2.1); rintro e w18 ⟨v141, rfl, ho0, hb⟩; have n0_ := Aside0.mk (Kd.R_below (by (with_reducible repeat (first | apply Kd.R_alloc | apply Kd.R_drewN | apply Kd.R_drew)); exact HO135.out) hb); have n1_ := Aside0.mk (Kd.R_lower ho0 (below_size (by repeat (first | (with_reducible first | exact HB.out | apply below_alloc | apply pw_below_drewN | apply below_drew1) | exact HB.out)))); have n2_ := Aside0.mk (below_step (by repeat (first | (with_reducible first | exact HB.out | apply below_alloc | apply pw_below_drewN | apply below_drew1) | exact HB.out)) hb); clear HO135; clear HB; have HO135 := n0_; have HO142 := n1_; have HB := n2_; clear n0_ n1_ n2_; (try clear hb); (try clear hb2); (try clear hk); (try clear hi); (try clear ho0)) | ((with_reducible refine gate_dst (N := 9) rfl ?_); (try (refine gate_guard (by rfl) ?_; dsimp only)); refine box_event ?hg (N := 9) ?hd (cs := #[.int .i64 0, .int .i64 0, .int .i64 0, .bool false, .slice none 0 0, .int .i64 0]) (t := 32) ?hr ?_; (case hd => rfl); (case hg => rfl); (case hr => first | (go_simp; done) | (go_simp; rfl)); intro gb145 hg w19 hbox hb; have n0_ := Aside0.mk (Kd.R_below (by (with_reducible repeat (first | apply Kd.R_alloc | apply Kd.R_drewN | apply Kd.R_drew)); exact HO135.out) hb); have n1_ := Aside0.mk (Kd.R_below (by (with_reducible repeat (first | apply Kd.R_alloc | apply Kd.R_drewN | apply Kd.R_drew)); exact HO142.out) hb); have n2_ := Aside0.mk (below_step (by repeat (first | (with_reducible first | exact HB.out | apply below_alloc | apply pw_below_drewN | apply below_drew1) | exact HB.out)) hb); have n3_ := Aside0.mk (hbox); have n4_ := Aside0.mk ((by rw [hg]; exact (below_size (by repeat (first | (with_reducible first | exact HB.out | apply below_alloc | apply pw_below_drewN | apply below_drew1) | exact HB.out))) : w.heap.size ≤ gb145)); have n5_ := Aside0.mk ((by rw [hg]; exact (below_size (by repeat (first | (with_reducible first | exact HB.out | apply below_alloc | apply pw_below_drewN | apply below_drew1) | exact HB.out))) : w.heap.size ≤ gb145)); clear HO135; clear HO142; clear HB; have HO135 := n0_; have HO142 := n1_; have HB := n2_; have BK145 := n3_; have GW145 := n4_; have GE145 := n5_; clear n0_ n1_ n2_ n3_ n4_ n5_; clear hb hbox hg; have hcz20_0 : w19.cell? ⟨gb145, 0, none⟩ = some (.int .i64 0) := (blk_cell BK145.out 0).trans rfl; have hcz20_1 : w19.cell? ⟨gb145, 1, none⟩ = some (.int .i64 0) := (blk_cell BK145.out 1).trans rfl; have hcz20_2 : w19.cell? ⟨gb145, 2, none⟩ = some (.int .i64 0) := (blk_cell BK145.out 2).trans rfl; have hcz20_3 : w19.cell? ⟨gb145, 3, none⟩ = some (.bool false) := (blk_cell BK145.out 3).trans rfl; have hcz20_4 : w19.cell? ⟨gb145, 4, none⟩ = some (.slice none 0 0) := (blk_cell BK145.out 4).trans rfl; have hcz20_5 : w19.cell? ⟨gb145, 5, none⟩ = some (.int .i64 0) := (blk_cell BK145.out 5).trans rfl; have hfz20_0 := blk_frozen BK145.out 0; have hfz20_1 := blk_frozen BK145.out 1; have hfz20_2 := blk_frozen BK145.out 2; have hfz20_3 := blk_frozen BK145.out 3; have hfz20_4 := blk_frozen BK145.out 4; have hfz20_5 := blk_frozen BK145.out 5; obtain ⟨Ao21, co21, eo21⟩ := Kd.R_slice HO142.out; subst eo21) | ((with_reducible refine gate_dst (N := 50) rfl ?_); (try (refine gate_guard (by rfl) ?_; dsimp only)); refine Kd.R_lit k25 _ 25 ?hg (N := 50) ?hd (xs := ([(⟨4, a2, a3, 0⟩ : S25)] : List (S25))) (inner := [.int .i64 4, .int .i64 a2, .int .i64 a3, .int .i64 0]) (ok := fun _ => True) (okp := fun _ => True) ?hr ?hp (fun _ hk => hk) trivial (Below.refl _ _) (Nat.le_refl _) (by simp) ?_; (case hd => rfl); (case hg => rfl); (case hr => first | (go_simp; done) | (go_simp; rfl)); (case hp => exact (Reps.c4 (show Kd.M k25 _ _ _ (⟨4, a2, a3, 0⟩ : S25) [.int .i64 4, .int .i64 a2, .int .i64 a3, .int .i64 0] from (k25_mkM _ _ _ (⟨4, a2, a3, 0⟩ : S25) )) (Reps.none _ _))); intro v147 w22 ho23 hb hg_ hnew_; clear hg_ hnew_; (first | rw [← Ny146.out] at ho23 | (simp only [Int.reduceToNat] at ho23; rw [← Ny146.out] at ho23)); have n0_ := Aside0.mk (Kd.R_elder' (by (with_reducible repeat (first | apply Kd.R_alloc | apply Kd.R_drewN | apply Kd.R_drew)); exact (Kd.R_mono (Kd.R_far (p := ⟨gb145, 5, none⟩) (Kd.R_far (p := ⟨gb145, 4, none⟩) (Kd.R_far (p := ⟨gb145, 3, none⟩) (Kd.R_far (p := ⟨gb145, 2, none⟩) (Kd.R_far (p := ⟨gb145, 1, none⟩) (Kd.R_far (p := ⟨gb145, 0, none⟩) (Kd.R_types HO135.out BK145.out (by decide)) (fun _ hk => hk.2) (.int .i64 t136)) (fun _ hk => hk.2) (.int .i64 t137)) (fun _ hk => hk.2) (.int .i64 t138)) (fun _ hk => hk.2) (.bool t139)) (fun _ hk => hk.2) (.slice Ao21 t140.length co21)) (fun _ hk => hk.2) (.int .i64 t143)) (fun _ h_ => h_.1))) (Kd.R_base ho23) hb); have n1_ := Aside0.mk (Kd.R_below (by (with_reducible repeat (first | apply Kd.R_alloc | apply Kd.R_drewN | apply Kd.R_drew)); exact (Kd.R_mono (Kd.R_far (p := ⟨gb145, 5, none⟩) (Kd.R_far (p := ⟨gb145, 4, none⟩) (Kd.R_far (p := ⟨gb145, 3, none⟩) (Kd.R_far (p := ⟨gb145, 2, none⟩) (Kd.R_far (p := ⟨gb145, 1, none⟩) (Kd.R_far (p := ⟨gb145, 0, none⟩) (Kd.R_types HO142.out BK145.out (by decide)) (fun _ hk => hk.2) (.int .i64 t136)) (fun _ hk => hk.2) (.int .i64 t137)) (fun _ hk => hk.2) (.int .i64 t138)) (fun _ hk => hk.2) (.bool t139)) (fun _ hk => hk.2) (.slice Ao21 t140.length co21)) (fun _ hk => hk.2) (.int .i64 t143)) (fun _ h_ => h_.1))) hb); have n2_ := Aside0.mk (Kd.R_lower (Kd.R_new' ho23 (Kd.R_lt (by (with_reducible repeat (first | apply Kd.R_alloc | apply Kd.R_drewN | apply Kd.R_drew)); exact (Kd.R_mono (Kd.R_far (p := ⟨gb145, 5, none⟩) (Kd.R_far (p := ⟨gb145, 4, none⟩) (Kd.R_far (p := ⟨gb145, 3, none⟩) (Kd.R_far (p := ⟨gb145, 2, none⟩) (Kd.R_far (p := ⟨gb145, 1, none⟩) (Kd.R_far (p := ⟨gb145, 0, none⟩) (Kd.R_types HO135.out BK145.out (by decide)) (fun _ hk => hk.2) (.int .i64 t136)) (fun _ hk => hk.2) (.int .i64 t137)) (fun _ hk => hk.2) (.int .i64 t138)) (fun _ hk => hk.2) (.bool t139)) (fun _ hk => hk.2) (.slice Ao21 t140.length co21)) (fun _ hk => hk.2) (.int .i64 t143)) (fun _ h_ => h_.1))))) (below_size (by repeat (first | (with_reducible first | exact HB.out | apply below_alloc | apply pw_below_drewN | apply below_drew1 | refine below_set ?_ GE145.out) | exact HB.out)))); have n3_ := Aside0.mk (blk_below (g := gb145) (o := .cells #[.int .i64 t136, .int .i64 t137, .int .i64 t138, .bool t139, .slice Ao21 t140.length co21, .int .i64 t143] 32 (0, 0)) (by (with_reducible repeat (first | refine blk_drewN ?_ _ | refine blk_drew ?_ | refine blk_alloc ?_ _)); refine blk_put (cs := #[.int .i64 t136, .int .i64 t137, .int .i64 t138, .bool t139, .slice Ao21 t140.length co21, .int .i64 0]) ?_ 5 _ rfl; (with_reducible repeat (first | refine blk_drewN ?_ _ | refine blk_drew ?_ | refine blk_alloc ?_ _)); refine blk_put (cs := #[.int .i64 t136, .int .i64 t137, .int .i64 t138, .bool t139, .slice none 0 0, .int .i64 0]) ?_ 4 _ rfl; (with_reducible repeat (first | refine blk_drewN ?_ _ | refine blk_drew ?_ | refine blk_alloc ?_ _)); refine blk_put (cs := #[.int .i64 t136, .int .i64 t137, .int .i64 t138, .bool false, .slice none 0 0, .int .i64 0]) ?_ 3 _ rfl; (with_reducible repeat (first | refine blk_drewN ?_ _ | refine blk_drew ?_ | refine blk_alloc ?_ _)); refine blk_put (cs := #[.int .i64 t136, .int .i64 t137, .int .i64 0, .bool false, .slice none 0 0, .int .i64 0]) ?_ 2 _ rfl; (with_reducible repeat (first | refine blk_drewN ?_ _ | refine blk_drew ?_ | refine blk_alloc ?_ _)); refine blk_put (cs := #[.int .i64 t136, .int .i64 0, .int .i64 0, .bool false, .slice none 0 0, .int .i64 0]) ?_ 1 _ rfl; (with_reducible repeat (first | refine blk_drewN ?_ _ | refine blk_drew ?_ | refine blk_alloc ?_ _)); refine blk_put (cs := #[.int .i64 0, .int .i64 0, .int .i64 0, .bool false, .slice none 0 0, .int .i64 0]) ?_ 0 _ rfl; (with_reducible repeat (first | refine blk_drewN ?_ _ | refine blk_drew ?_ | refine blk_alloc ?_ _)); exact BK145.out) hb); have n4_ := Aside0.mk (below_step (by repeat (first | (with_reducible first | exact HB.out | apply below_alloc | apply pw_below_drewN | apply below_drew1 | refine below_set ?_ GE145.out) | exact HB.out)) hb); clear HO135; clear HO142; clear BK145; clear HB; have HO135 := n0_; have HO142 := n1_; have HO148 := n2_; have BK145 := n3_; have HB := n4_; clear n0_ n1_ n2_ n3_ n4_; clear hb ho23; obtain ⟨Ao24, co24, eo24⟩ := Kd.R_slice HO148.out; subst eo24) | (go_at_call 15; (with_reducible refine (laws_spanLast.calls _ _ l0 _ _ y146 t149 t150 t151 t152 t153 t156 t157 _ ?side1 ?side2 ?side3 ?side4 A12.out).mono ?_); (case side1 => repeat (first | exact (Kd.C_below HR0.out HB.out) | (with_reducible refine Kd.C_alloc ?_ _) | (with_reducible refine Kd.C_drewN ?_ _) | (with_reducible refine Kd.C_drew ?_))); (case side2 => exact HC0.out); (case side3 => repeat (first | exact (Kd.R_reads' HO148.out).2.2 | (with_reducible refine Kd.C_alloc ?_ _) | (with_reducible refine Kd.C_drewN ?_ _) | (with_reducible refine Kd.C_drew ?_))); (case side4 => exact (Kd.R_reads' HO148.out).2.1); rintro e w25 ⟨v154, rfl, ho0, hb⟩; have n0_ := Aside0.mk (Kd.R_below (by (with_reducible repeat (first | apply Kd.R_alloc | apply Kd.R_drewN | apply Kd.R_drew)); exact HO135.out) hb); have n1_ := Aside0.mk (Kd.R_elder' (by (with_reducible repeat (first | apply Kd.R_alloc | apply Kd.R_drewN | apply Kd.R_drew)); exact HO142.out) (Kd.R_base ho0) hb); have n2_ := Aside0.mk (Kd.R_below (by (with_reducible repeat (first | apply Kd.R_alloc | apply Kd.R_drewN | apply Kd.R_drew)); exact HO148.out) hb); have n3_ := Aside0.mk (Kd.R_lower (Kd.R_new' ho0 (Kd.R_lt (by (with_reducible repeat (first | apply Kd.R_alloc | apply Kd.R_drewN | apply Kd.R_drew)); exact HO142.out))) (below_size (by repeat (first | (with_reducible first | exact HB.out | apply below_alloc | apply pw_below_drewN | apply below_drew1 | refine below_set ?_ GE145.out) | exact HB.out)))); have n4_ := Aside0.mk (blk_below (g := gb145) (o := .cells #[.int .i64 t136, .int .i64 t137, .int .i64 t138, .bool t139, .slice Ao21 t140.length co21, .int .i64 t143] 32 (0, 0)) (by (with_reducible repeat (first | refine blk_drewN ?_ _ | refine blk_drew ?_ | refine blk_alloc ?_ _)); exact BK145.out) hb); have n5_ := Aside0.mk (below_step (by repeat (first | (with_reducible first | exact HB.out | apply below_alloc | apply pw_below_drewN | apply below_drew1 | refine below_set ?_ GE145.out) | exact HB.out)) hb); clear HO135; clear HO142; clear HO148; clear BK145; clear HB; have HO135 := n0_; have HO142 := n1_; have HO148 := n2_; have HO155 := n3_; have BK145 := n4_; have HB := n5_; clear n0_ n1_ n2_ n3_ n4_ n5_; (try clear hb); (try clear hb2); (try clear hk); (try clear hi); (try clear ho0)) | ((with_reducible refine gate_dst (N := 11) rfl ?_); (try (refine gate_guard (by rfl) ?_; dsimp only)); refine box_event ?hg (N := 11) ?hd (cs := #[.int .i64 0, .int .i64 0, .int .i64 0, .bool false, .slice none 0 0, .int .i64 0]) (t := 32) ?hr ?_; (case hd => rfl); (case hg => rfl); (case hr => first | (go_simp; done) | (go_simp; rfl)); intro gb158 hg w26 hbox hb; have n0_ := Aside0.mk (Kd.R_below (by (with_reducible repeat (first | apply Kd.R_alloc | apply Kd.R_drewN | apply Kd.R_drew)); exact HO135.out) hb); have n1_ := Aside0.mk (Kd.R_below (by (with_reducible repeat (first | apply Kd.R_alloc | apply Kd.R_drewN | apply Kd.R_drew)); exact HO142.out) hb); have n2_ := Aside0.mk (Kd.R_below (by (with_reducible repeat (first | apply Kd.R_alloc | apply Kd.R_drewN | apply Kd.R_drew)); exact HO148.out) hb); have n3_ := Aside0.mk (Kd.R_below (by (with_reducible repeat (first | apply Kd.R_alloc | apply Kd.R_drewN | apply Kd.R_drew)); exact HO155.out) hb); have n4_ := Aside0.mk (blk_below (g := gb145) (o := .cells #[.int .i64 t136, .int .i64 t137, .int .i64 t138, .bool t139, .slice Ao21 t140.length co21, .int .i64 t143] 32 (0, 0)) (by (with_reducible repeat (first | refine blk_drewN ?_ _ | refine blk_drew ?_ | refine blk_alloc ?_ _)); exact BK145.out) hb); have n5_ := Aside0.mk (below_step (by repeat (first | (with_reducible first | exact HB.out | apply below_alloc | apply pw_below_drewN | apply below_drew1 | refine below_set ?_ GE145.out) | exact HB.out)) hb); have n6_ := Aside0.mk (hbox); have n7_ := Aside0.mk ((by rw [hg]; exact (below_size (by repeat (first | (with_reducible first | exact HB.out | apply below_alloc | apply pw_below_drewN | apply below_drew1 | refine below_set ?_ GE145.out) | exact HB.out))) : w.heap.size ≤ gb158)); have n8_ := Aside0.mk ((by rw [hg]; exact (below_size (by repeat (first | (with_reducible first | exact HB.out | apply below_alloc | apply pw_below_drewN | apply below_drew1 | refine below_set ?_ GE145.out) | exact HB.out))) : w.heap.size ≤ gb158)); have n9_ := Aside0.mk ((by rw [hg]; exact Nat.ne_of_lt (blk_lt (g := gb145) (o := .cells #[.int .i64 t136, .int .i64 t137, .int .i64 t138, .bool t139, .slice Ao21 t140.length co21, .int .i64 t143] 32 (0, 0)) (by (with_reducible repeat (first | refine blk_drewN ?_ _ | refine blk_drew ?_ | refine blk_alloc ?_ _)); exact BK145.out)) : gb145 ≠ gb158)); have n10_ := Aside0.mk ((by rw [hg]; exact Nat.ne_of_gt (blk_lt (g := gb145) (o := .cells #[.int .i64 t136, .int .i64 t137, .int .i64 t138, .bool t139, .slice Ao21 t140.length co21, .int .i64 t143] 32 (0, 0)) (by (with_reducible repeat (first | refine blk_drewN ?_ _ | refine blk_drew ?_ | refine blk_alloc ?_ _)); exact BK145.out)) : gb158 ≠ gb145)); clear HO135; clear HO142; clear HO148; clear HO155; clear BK145; clear HB; have HO135 := n0_; have HO142 := n1_; have HO148 := n2_; have HO155 := n3_; have BK145 := n4_; have HB := n5_; have BK158 := n6_; have GW158 := n7_; have GE158 := n8_; have NB145_158 := n9_; have NB158_145 := n10_; clear n0_ n1_ n2_ n3_ n4_ n5_ n6_ n7_ n8_ n9_ n10_; clear hb hbox hg; have hnb27 := NB158_145.out; have hnc27 := NB145_158.out; have hcz28_0 : w26.cell? ⟨gb158, 0, none⟩ = some (.int .i64 0) := (blk_cell BK158.out 0).trans rfl; have hcz28_1 : w26.cell? ⟨gb158, 1, none⟩ = some (.int .i64 0) := (blk_cell BK158.out 1).trans rfl; have hcz28_2 : w26.cell? ⟨gb158, 2, none⟩ = some (.int .i64 0) := (blk_cell BK158.out 2).trans rfl; have hcz28_3 : w26.cell? ⟨gb158, 3, none⟩ = some (.bool false) := (blk_cell BK158.out 3).trans rfl; have hcz28_4 : w26.cell? ⟨gb158, 4, none⟩ = some (.slice none 0 0) := (blk_cell BK158.out 4).trans rfl; have hcz28_5 : w26.cell? ⟨gb158, 5, none⟩ = some (.int .i64 0) := (blk_cell BK158.out 5).trans rfl; have hfz28_0 := blk_frozen BK158.out 0; have hfz28_1 := blk_frozen BK158.out 1; have hfz28_2 := blk_frozen BK158.out 2; have hfz28_3 := blk_frozen BK158.out 3; have hfz28_4 := blk_frozen BK158.out 4; have hfz28_5 := blk_frozen BK158.out 5; obtain ⟨Ao29, co29, eo29⟩ := Kd.R_slice HO155.out; subst eo29) | ((with_reducible refine gate_dst (N := 59) rfl ?_); (try (refine gate_guard (by rfl) ?_; dsimp only)); refine Kd.R_lit k25 _ 25 ?hg (N := 59) ?hd (xs := ([(⟨4, a1, a3, 0⟩ : S25)] : List (S25))) (inner := [.int .i64 4, .int .i64 a1, .int .i64 a3, .int .i64 0]) (ok := fun _ => True) (okp := fun _ => True) ?hr ?hp (fun _ hk => hk) trivial (Below.refl _ _) (Nat.le_refl _) (by simp) ?_; (case hd => rfl); (case hg => rfl); (case hr => first | (go_simp; done) | (go_simp; rfl)); (case hp => exact (Reps.c4 (show Kd.M k25 _ _ _ (⟨4, a1, a3, 0⟩ : S25) [.int .i64 4, .int .i64 a1, .int .i64 a3, .int .i64 0] from (k25_mkM _ _ _ (⟨4, a1, a3, 0⟩ : S25) )) (Reps.none _ _))); intro v160 w30 ho31 hb hg_ hnew_; clear hg_ hnew_; (first | rw [← Ny159.out] at ho31 | (simp only [Int.reduceToNat] at ho31; rw [← Ny159.out] at ho31)); have n0_ := Aside0.mk (Kd.R_elder' (by (with_reducible repeat (first | apply Kd.R_alloc | apply Kd.R_drewN | apply Kd.R_drew)); exact (Kd.R_mono (Kd.R_far (p := ⟨gb158, 5, none⟩) (Kd.R_far (p := ⟨gb158, 4, none⟩) (Kd.R_far (p := ⟨gb158, 3, none⟩) (Kd.R_far (p := ⟨gb158, 2, none⟩) (Kd.R_far (p := ⟨gb158, 1, none⟩) (Kd.R_far (p := ⟨gb158, 0, none⟩) (Kd.R_types HO135.out BK158.out (by decide)) (fun _ hk => hk.2) (.int .i64 t149)) (fun _ hk => hk.2) (.int .i64 t150)) (fun _ hk => hk.2) (.int .i64 t151)) (fun _ hk => hk.2) (.bool t152)) (fun _ hk => hk.2) (.slice Ao29 t153.length co29)) (fun _ hk => hk.2) (.int .i64 t156)) (fun _ h_ => h_.1))) (Kd.R_base ho31) hb); have n1_ := Aside0.mk (Kd.R_below (by (with_reducible repeat (first | apply Kd.R_alloc | apply Kd.R_drewN | apply Kd.R_drew)); exact (Kd.R_mono (Kd.R_far (p := ⟨gb158, 5, none⟩) (Kd.R_far (p := ⟨gb158, 4, none⟩) (Kd.R_far (p := ⟨gb158, 3, none⟩) (Kd.R_far (p := ⟨gb158, 2, none⟩) (Kd.R_far (p := ⟨gb158, 1, none⟩) (Kd.R_far (p := ⟨gb158, 0, none⟩) (Kd.R_types HO142.out BK158.out (by decide)) (fun _ hk => hk.2) (.int .i64 t149)) (fun _ hk => hk.2) (.int .i64 t150)) (fun _ hk => hk.2) (.int .i64 t151)) (fun _ hk => hk.2) (.bool t152)) (fun _ hk => hk.2) (.slice Ao29 t153.length co29)) (fun _ hk => hk.2) (.int .i64 t156)) (fun _ h_ => h_.1))) hb); have n2_ := Aside0.mk (Kd.R_elder' (by (with_reducible repeat (first | apply Kd.R_alloc | apply Kd.R_drewN | apply Kd.R_drew)); exact (Kd.R_mono (Kd.R_far (p := ⟨gb158, 5, none⟩) (Kd.R_far (p := ⟨gb158, 4, none⟩) (Kd.R_far (p := ⟨gb158, 3, none⟩) (Kd.R_far (p := ⟨gb158, 2, none⟩) (Kd.R_far (p := ⟨gb158, 1, none⟩) (Kd.R_far (p := ⟨gb158, 0, none⟩) (Kd.R_types HO148.out BK158.out (by decide)) (fun _ hk => hk.2) (.int .i64 t149)) (fun _ hk => hk.2) (.int .i64 t150)) (fun _ hk => hk.2) (.int .i64 t151)) (fun _ hk => hk.2) (.bool t152)) (fun _ hk => hk.2) (.slice Ao29 t153.length co29)) (fun _ hk => hk.2) (.int .i64 t156)) (fun _ h_ => h_.1))) (Kd.R_base ho31) hb); have n3_ := Aside0.mk (Kd.R_below (by (with_reducible repeat (first | apply Kd.R_alloc | apply Kd.R_drewN | apply Kd.R_drew)); exact (Kd.R_mono (Kd.R_far (p := ⟨gb158, 5, none⟩) (Kd.R_far (p := ⟨gb158, 4, none⟩) (Kd.R_far (p := ⟨gb158, 3, none⟩) (Kd.R_far (p := ⟨gb158, 2, none⟩) (Kd.R_far (p := ⟨gb158, 1, none⟩) (Kd.R_far (p := ⟨gb158, 0, none⟩) (Kd.R_types HO155.out BK158.out (by decide)) (fun _ hk => hk.2) (.int .i64 t149)) (fun _ hk => hk.2) (.int .i64 t150)) (fun _ hk => hk.2) (.int .i64 t151)) (fun _ hk => hk.2) (.bool t152)) (fun _ hk => hk.2) (.slice Ao29 t153.length co29)) (fun _ hk => hk.2) (.int .i64 t156)) (fun _ h_ => h_.1))) hb); have n4_ := Aside0.mk (Kd.R_lower (Kd.R_new' (Kd.R_new' ho31 (Kd.R_lt (by (with_reducible repeat (first | apply Kd.R_alloc | apply Kd.R_drewN | apply Kd.R_drew)); exact (Kd.R_mono (Kd.R_far (p := ⟨gb158, 5, none⟩) (Kd.R_far (p := ⟨gb158, 4, none⟩) (Kd.R_far (p := ⟨gb158, 3, none⟩) (Kd.R_far (p := ⟨gb158, 2, none⟩) (Kd.R_far (p := ⟨gb158, 1, none⟩) (Kd.R_far (p := ⟨gb158, 0, none⟩) (Kd.R_types HO135.out BK158.out (by decide)) (fun _ hk => hk.2) (.int .i64 t149)) (fun _ hk => hk.2) (.int .i64 t150)) (fun _ hk => hk.2) (.int .i64 t151)) (fun _ hk => hk.2) (.bool t152)) (fun _ hk => hk.2) (.slice Ao29 t153.length co29)) (fun _ hk => hk.2) (.int .i64 t156)) (fun _ h_ => h_.1))))) (Kd.R_lt (by (with_reducible repeat (first | apply Kd.R_alloc | apply Kd.R_drewN | apply Kd.R_drew)); exact (Kd.R_mono (Kd.R_far (p := ⟨gb158, 5, none⟩) (Kd.R_far (p := ⟨gb158, 4, none⟩) (Kd.R_far (p := ⟨gb158, 3, none⟩) (Kd.R_far (p := ⟨gb158, 2, none⟩) (Kd.R_far (p := ⟨gb158, 1, none⟩) (Kd.R_far (p := ⟨gb158, 0, none⟩) (Kd.R_types HO148.out BK158.out (by decide)) (fun _ hk => hk.2) (.int .i64 t149)) (fun _ hk => hk.2) (.int .i64 t150)) (fun _ hk => hk.2) (.int .i64 t151)) (fun _ hk => hk.2) (.bool t152)) (fun _ hk => hk.2) (.slice Ao29 t153.length co29)) (fun _ hk => hk.2) (.int .i64 t156)) (fun _ h_ => h_.1))))) (below_size (by repeat (first | (with_reducible first | exact HB.out | apply below_alloc | apply pw_below_drewN | apply below_drew1 | refine below_set ?_ GE145.out | refine below_set ?_ GE158.out) | exact HB.out)))); have n5_ := Aside0.mk (blk_below (g := gb145) (o := .cells #[.int .i64 t136, .int .i64 t137, .int .i64 t138, .bool t139, .slice Ao21 t140.length co21, .int .i64 t143] 32 (0, 0)) (by (with_reducible repeat (first | refine blk_drewN ?_ _ | refine blk_drew ?_ | refine blk_alloc ?_ _)); refine blk_far ?_ NB145_158.out _; (with_reducible repeat (first | refine blk_drewN ?_ _ | refine blk_drew ?_ | refine blk_alloc ?_ _)); refine blk_far ?_ NB145_158.out _; (with_reducible repeat (first | refine blk_drewN ?_ _ | refine blk_drew ?_ | refine blk_alloc ?_ _)); refine blk_far ?_ NB145_158.out _; (with_reducible repeat (first | refine blk_drewN ?_ _ | refine blk_drew ?_ | refine blk_alloc ?_ _)); refine blk_far ?_ NB145_158.out _; (with_reducible repeat (first | refine blk_drewN ?_ _ | refine blk_drew ?_ | refine blk_alloc ?_ _)); refine blk_far ?_ NB145_158.out _; (with_reducible repeat (first | refine blk_drewN ?_ _ | refine blk_drew ?_ | refine blk_alloc ?_ _)); refine blk_far ?_ NB145_158.out _; (with_reducible repeat (first | refine blk_drewN ?_ _ | refine blk_drew ?_ | refine blk_alloc ?_ _)); exact BK145.out) hb); have n6_ := Aside0.mk (blk_below (g := gb158) (o := .cells #[.int .i64 t149, .int .i64 t150, .int .i64 t151, .bool t152, .slice Ao29 t153.length co29, .int .i64 t156] 32 (0, 0)) (by (with_reducible repeat (first | refine blk_drewN ?_ _ | refine blk_drew ?_ | refine blk_alloc ?_ _)); refine blk_put (cs := #[.int .i64 t149, .int .i64 t150, .int .i64 t151, .bool t152, .slice Ao29 t153.length co29, .int .i64 0]) ?_ 5 _ rfl; (with_reducible repeat (first | refine blk_drewN ?_ _ | refine blk_drew ?_ | refine blk_alloc ?_ _)); refine blk_put (cs := #[.int .i64 t149, .int .i64 t150, .int .i64 t151, .bool t152, .slice none 0 0, .int .i64 0]) ?_ 4 _ rfl; (with_reducible repeat (first | refine blk_drewN ?_ _ | refine blk_drew ?_ | refine blk_alloc ?_ _)); refine blk_put (cs := #[.int .i64 t149, .int .i64 t150, .int .i64 t151, .bool false, .slice none 0 0, .int .i64 0]) ?_ 3 _ rfl; (with_reducible repeat (first | refine blk_drewN ?_ _ | refine blk_drew ?_ | refine blk_alloc ?_ _)); refine blk_put (cs := #[.int .i64 t149, .int .i64 t150, .int .i64 0, .bool false, .slice none 0 0, .int .i64 0]) ?_ 2 _ rfl; (with_reducible repeat (first | refine blk_drewN ?_ _ | refine blk_drew ?_ | refine blk_alloc ?_ _)); refine blk_put (cs := #[.int .i64 t149, .int .i64 0, .int .i64 0, .bool false, .slice none 0 0, .int .i64 0]) ?_ 1 _ rfl; (with_reducible repeat (first | refine blk_drewN ?_ _ | refine blk_drew ?_ | refine blk_alloc ?_ _)); refine blk_put (cs := #[.int .i64 0, .int .i64 0, .int .i64 0, .bool false, .slice none 0 0, .int .i64 0]) ?_ 0 _ rfl; (with_reducible repeat (first | refine blk_drewN ?_ _ | refine blk_drew ?_ | refine blk_alloc ?_ _)); exact BK158.out) hb); have n7_ := Aside0.mk (below_step (by repeat (first | (with_reducible first | exact HB.out | apply below_alloc | apply pw_below_drewN | apply below_drew1 | refine below_set ?_ GE145.out | refine below_set ?_ GE158.out) | exact HB.out)) hb); clear HO135; clear HO142; clear HO148; clear HO155; clear BK145; clear BK158; clear HB; have HO135 := n0_; have HO142 := n1_; have HO148 := n2_; have HO155 := n3_; have HO161 := n4_; have BK145 := n5_; have BK158 := n6_; have HB := n7_; clear n0_ n1_ n2_ n3_ n4_ n5_ n6_ n7_; clear hb ho31; obtain ⟨Ao32, co32, eo32⟩ := Kd.R_slice HO161.out; subst eo32) | (go_at_call 15; (with_reducible refine (laws_spanLast.calls _ _ l0 _ _ y159 t162 t163 t164 t165 t166 t169 t170 _ ?side1 ?side2 ?side3 ?side4 A13.out).mono ?_); (case side1 => repeat (first | exact (Kd.C_below HR0.out HB.out) | (with_reducible refine Kd.C_alloc ?_ _) | (with_reducible refine Kd.C_drewN ?_ _) | (with_reducible refine Kd.C_drew ?_))); (case side2 => exact HC0.out); (case side3 => repeat (first | exact (Kd.R_reads' HO161.out).2.2 | (with_reducible refine Kd.C_alloc ?_ _) | (with_reducible refine Kd.C_drewN ?_ _) | (with_reducible refine Kd.C_drew ?_))); (case side4 => exact (Kd.R_reads' HO161.out).2.1); rintro e w33 ⟨v167, rfl, ho0, hb⟩; have n0_ := Aside0.mk (Kd.R_below (by (with_reducible repeat (first | apply Kd.R_alloc | apply Kd.R_drewN | apply Kd.R_drew)); exact HO135.out) hb); have n1_ := Aside0.mk (Kd.R_elder' (by (with_reducible repeat (first | apply Kd.R_alloc | apply Kd.R_drewN | apply Kd.R_drew)); exact HO142.out) (Kd.R_base ho0) hb); have n2_ := Aside0.mk (Kd.R_below (by (with_reducible repeat (first | apply Kd.R_alloc | apply Kd.R_drewN | apply Kd.R_drew)); exact HO148.out) hb); have n3_ := Aside0.mk (Kd.R_elder' (by (with_reducible repeat (first | apply Kd.R_alloc | apply Kd.R_drewN | apply Kd.R_drew)); exact HO155.out) (Kd.R_base ho0) hb); have n4_ := Aside0.mk (Kd.R_below (by (with_reducible repeat (first | apply Kd.R_alloc | apply Kd.R_drewN | apply Kd.R_drew)); exact HO161.out) hb); have n5_ := Aside0.mk (Kd.R_lower (Kd.R_new' (Kd.R_new' ho0 (Kd.R_lt (by (with_reducible repeat (first | apply Kd.R_alloc | apply Kd.R_drewN | apply Kd.R_drew)); exact HO142.out))) (Kd.R_lt (by (with_reducible repeat (first | apply Kd.R_alloc | apply Kd.R_drewN | apply Kd.R_drew)); exact HO155.out))) (below_size (by repeat (first | (with_reducible first | exact HB.out | apply below_alloc | apply pw_below_drewN | apply below_drew1 | refine below_set ?_ GE145.out | refine below_set ?_ GE158.out) | exact HB.out)))); have n6_ := Aside0.mk (blk_below (g := gb145) (o := .cells #[.int .i64 t136, .int .i64 t137, .int .i64 t138, .bool t139, .slice Ao21 t140.length co21, .int .i64 t143] 32 (0, 0)) (by (with_reducible repeat (first | refine blk_drewN ?_ _ | refine blk_drew ?_ | refine blk_alloc ?_ _)); exact BK145.out) hb); have n7_ := Aside0.mk (blk_below (g := gb158) (o := .cells #[.int .i64 t149, .int .i64 t150, .int .i64 t151, .bool t152, .slice Ao29 t153.length co29, .int .i64 t156] 32 (0, 0)) (by (with_reducible repeat (first | refine blk_drewN ?_ _ | refine blk_drew ?_ | refine blk_alloc ?_ _)); exact BK158.out) hb); have n8_ := Aside0.mk (below_step (by repeat (first | (with_reducible first | exact HB.out | apply below_alloc | apply pw_below_drewN | apply below_drew1 | refine below_set ?_ GE145.out | refine below_set ?_ GE158.out) | exact HB.out)) hb); clear HO135; clear HO142; clear HO148; clear HO155; clear HO161; clear BK145; clear BK158; clear HB; have HO135 := n0_; have HO142 := n1_; have HO148 := n2_; have HO155 := n3_; have HO161 := n4_; have HO168 := n5_; have BK145 := n6_; have BK158 := n7_; have HB := n8_; clear n0_ n1_ n2_ n3_ n4_ n5_ n6_ n7_ n8_; (try clear hb); (try clear hb2); (try clear hk); (try clear hi); (try clear ho0)) | ((with_reducible refine gate_dst (N := 13) rfl ?_); (try (refine gate_guard (by rfl) ?_; dsimp only)); refine box_event ?hg (N := 13) ?hd (cs := #[.int .i64 0, .int .i64 0, .int .i64 0, .bool false, .slice none 0 0, .int .i64 0]) (t := 32) ?hr ?_; (case hd => rfl); (case hg => rfl); (case hr => first | (go_simp; done) | (go_simp; rfl)); intro gb171 hg w34 hbox hb; have n0_ := Aside0.mk (Kd.R_below (by (with_reducible repeat (first | apply Kd.R_alloc | apply Kd.R_drewN | apply Kd.R_drew)); exact HO135.out) hb); have n1_ := Aside0.mk (Kd.R_below (by (with_reducible repeat (first | apply Kd.R_alloc | apply Kd.R_drewN | apply Kd.R_drew)); exact HO142.out) hb); have n2_ := Aside0.mk (Kd.R_below (by (with_reducible repeat (first | apply Kd.R_alloc | apply Kd.R_drewN | apply Kd.R_drew)); exact HO148.out) hb); have n3_ := Aside0.mk (Kd.R_below (by (with_reducible repeat (first | apply Kd.R_alloc | apply Kd.R_drewN | apply Kd.R_drew)); exact HO155.out) hb); have n4_ := Aside0.mk (Kd.R_below (by (with_reducible repeat (first | apply Kd.R_alloc | apply Kd.R_drewN | apply Kd.R_drew)); exact HO161.out) hb); have n5_ := Aside0.mk (Kd.R_below (by (with_reducible repeat (first | apply Kd.R_alloc | apply Kd.R_drewN | apply Kd.R_drew)); exact HO168.out) hb); have n6_ := Aside0.mk (blk_below (g := gb145) (o := .cells #[.int .i64 t136, .int .i64 t137, .int .i64 t138, .bool t139, .slice Ao21 t140.length co21, .int .i64 t143] 32 (0, 0)) (by (with_reducible repeat (first | refine blk_drewN ?_ _ | refine blk_drew ?_ | refine blk_alloc ?_ _)); exact BK145.out) hb); have n7_ := Aside0.mk (blk_below (g := gb158) (o := .cells #[.int .i64 t149, .int .i64 t150, .int .i64 t151, .bool t152, .slice Ao29 t153.length co29, .int .i64 t156] 32 (0, 0)) (by (with_reducible repeat (first | refine blk_drewN ?_ _ | refine blk_drew ?_ | refine blk_alloc ?_ _)); exact BK158.out) hb); have n8_ := Aside0.mk (below_step (by repeat (first | (with_reducible first | exact HB.out | apply below_alloc | apply pw_below_drewN | apply below_drew1 | refine below_set ?_ GE145.out | refine below_set ?_ GE158.out) | exact HB.out)) hb); have n9_ := Aside0.mk (hbox); have n10_ := Aside0.mk ((by rw [hg]; exact (below_size (by repeat (first | (with_reducible first | exact HB.out | apply below_alloc | apply pw_below_drewN | apply below_drew1 | refine below_set ?_ GE145.out | refine below_set ?_ GE158.out) | exact HB.out))) : w.heap.size ≤ gb171)); have n11_ := Aside0.mk ((by rw [hg]; exact (below_size (by repeat (first | (with_reducible first | exact HB.out | apply below_alloc | apply pw_below_drewN | apply below_drew1 | refine below_set ?_ GE145.out | refine below_set ?_ GE158.out) | exact HB.out))) : w.heap.size ≤ gb171)); have n12_ := Aside0.mk ((by rw [hg]; exact Nat.ne_of_lt (blk_lt (g := gb145) (o := .cells #[.int .i64 t136, .int .i64 t137, .int .i64 t138, .bool t139, .slice Ao21 t140.length co21, .int .i64 t143] 32 (0, 0)) (by (with_reducible repeat (first | refine blk_drewN ?_ _ | refine blk_drew ?_ | refine blk_alloc ?_ _)); exact BK145.out)) : gb145 ≠ gb171)); have n13_ := Aside0.mk ((by rw [hg]; exact Nat.ne_of_gt (blk_lt (g := gb145) (o := .cells #[.int .i64 t136, .int .i64 t137, .int .i64 t138, .bool t139, .slice Ao21 t140.length co21, .int .i64 t143] 32 (0, 0)) (by (with_reducible repeat (first | refine blk_drewN ?_ _ | refine blk_drew ?_ | refine blk_alloc ?_ _)); exact BK145.out)) : gb171 ≠ gb145)); have n14_ := Aside0.mk ((by rw [hg]; exact Nat.ne_of_lt (blk_lt (g := gb158) (o := .cells #[.int .i64 t149, .int .i64 t150, .int .i64 t151, .bool t152, .slice Ao29 t153.length co29, .int .i64 t156] 32 (0, 0)) (by (with_reducible repeat (first | refine blk_drewN ?_ _ | refine blk_drew ?_ | refine blk_alloc ?_ _)); exact BK158.out)) : gb158 ≠ gb171)); have n15_ := Aside0.mk ((by rw [hg]; exact Nat.ne_of_gt (blk_lt (g := gb158) (o := .cells #[.int .i64 t149, .int .i64 t150, .int .i64 t151, .bool t152, .slice Ao29 t153.length co29, .int .i64 t156] 32 (0, 0)) (by (with_reducible repeat (first | refine blk_drewN ?_ _ | refine blk_drew ?_ | refine blk_alloc ?_ _)); exact BK158.out)) : gb171 ≠ gb158)); clear HO135; clear HO142; clear HO148; clear HO155; clear HO161; clear HO168; clear BK145; clear BK158; clear HB; have HO135 := n0_; have HO142 := n1_; have HO148 := n2_; have HO155 := n3_; have HO161 := n4_; have HO168 := n5_; have BK145 := n6_; have BK158 := n7_; have HB := n8_; have BK171 := n9_; have GW171 := n10_; have GE171 := n11_; have NB145_171 := n12_; have NB171_145 := n13_; have NB158_171 := n14_; have NB171_158 := n15_; clear n0_ n1_ n2_ n3_ n4_ n5_ n6_ n7_ n8_ n9_ n10_ n11_ n12_ n13_ n14_ n15_; clear hb hbox hg; have hnb35 := NB171_145.out; have hnc35 := NB145_171.out; have hnb36 := NB171_158.out; have hnc36 := NB158_171.out; have hcz37_0 : w34.cell? ⟨gb171, 0, none⟩ = some (.int .i64 0) := (blk_cell BK171.out 0).trans rfl; have hcz37_1 : w34.cell? ⟨gb171, 1, none⟩ = some (.int .i64 0) := (blk_cell BK171.out 1).trans rfl; have hcz37_2 : w34.cell? ⟨gb171, 2, none⟩ = some (.int .i64 0) := (blk_cell BK171.out 2).trans rfl; have hcz37_3 : w34.cell? ⟨gb171, 3, none⟩ = some (.bool false) := (blk_cell BK171.out 3).trans rfl; have hcz37_4 : w34.cell? ⟨gb171, 4, none⟩ = some (.slice none 0 0) := (blk_cell BK171.out 4).trans rfl; have hcz37_5 : w34.cell? ⟨gb171, 5, none⟩ = some (.int .i64 0) := (blk_cell BK171.out 5).trans rfl; have hfz37_0 := blk_frozen BK171.out 0; have hfz37_1 := blk_frozen BK171.out 1; have hfz37_2 := blk_frozen BK171.out 2; have hfz37_3 := blk_frozen BK171.out 3; have hfz37_4 := blk_frozen BK171.out 4; have hfz37_5 := blk_frozen BK171.out 5; obtain ⟨Ao38, co38, eo38⟩ := Kd.R_slice HO168.out; subst eo38)); go_upto_region 8 with (first | ((with_reducible refine gate_dst (N := 41) rfl ?_); (try (refine gate_guard (by rfl) ?_; dsimp only)); refine Kd.R_lit k25 _ 25 ?hg (N := 41) ?hd (xs := ([(⟨4, a1, a2, 0⟩ : S25)] : List (S25))) (inner := [.int .i64 4, .int .i64 a1, .int .i64 a2, .int .i64 0]) (ok := fun _ => True) (okp := fun _ => True) ?hr ?hp (fun _ hk => hk) trivial (Below.refl _ _) (Nat.le_refl _) (by simp) ?_; (case hd => rfl); (case hg => rfl); (case hr => first | (go_simp; done) | (go_simp; rfl)); (case hp => exact (Reps.c4 (show Kd.M k25 _ _ _ (⟨4, a1, a2, 0⟩ : S25) [.int .i64 4, .int .i64 a1, .int .i64 a2, .int .i64 0] from (k25_mkM _ _ _ (⟨4, a1, a2, 0⟩ : S25) )) (Reps.none _ _))); intro v134 w15 ho16 hb hg_ hnew_; clear hg_ hnew_; (first | rw [← Ny133.out] at ho16 | (simp only [Int.reduceToNat] at ho16; rw [← Ny133.out] at ho16)); have n0_ := Aside0.mk (Kd.R_lower ho16 (below_size (by repeat (first | (with_reducible first | exact HB.out | apply below_alloc | apply pw_below_drewN | apply below_drew1) | exact HB.out)))); have n1_ := Aside0.mk (below_step (by repeat (first | (with_reducible first | exact HB.out | apply below_alloc | apply pw_below_drewN | apply below_drew1) | exact HB.out)) hb); clear HB; have HO135 := n0_; have HB := n1_; clear n0_ n1_; clear hb ho16; obtain ⟨Ao17, co17, eo17⟩ := Kd.R_slice HO135.out; subst eo17) | (go_at_call 15; (with_reducible refine (laws_spanLast.calls _ _ l0 _ _ y133 t136 t137 t138 t139 t140 t143 t144 _ ?side1 ?side2 ?side3 ?side4 A11.out).mono ?_); (case side1 => repeat (first | exact (Kd.C_below HR0.out HB.out) | (with_reducible refine Kd.C_alloc ?_ _) | (with_reducible refine Kd.C_drewN ?_ _) | (with_reducible refine Kd.C_drew ?_))); (case side2 => exact HC0.out); (case side3 => repeat (first | exact (Kd.R_reads' HO135.out).2.2 | (with_reducible refine Kd.C_alloc ?_ _) | (with_reducible refine Kd.C_drewN ?_ _) | (with_reducible refine Kd.C_drew ?_))); (case side4 => exact (Kd.R_reads' HO135.out).2.1); rintro e w18 ⟨v141, rfl, ho0, hb⟩; have n0_ := Aside0.mk (Kd.R_below (by (with_reducible repeat (first | apply Kd.R_alloc | apply Kd.R_drewN | apply Kd.R_drew)); exact HO135.out) hb); have n1_ := Aside0.mk (Kd.R_lower ho0 (below_size (by repeat (first | (with_reducible first | exact HB.out | apply below_alloc | apply pw_below_drewN | apply below_drew1) | exact HB.out)))); have n2_ := Aside0.mk (below_step (by repeat (first | (with_reducible first | exact HB.out | apply below_alloc | apply pw_below_drewN | apply below_drew1) | exact HB.out)) hb); clear HO135; clear HB; have HO135 := n0_; have HO142 := n1_; have HB := n2_; clear n0_ n1_ n2_; (try clear hb); (try clear hb2); (try clear hk); (try clear hi); (try clear ho0)) | ((with_reducible refine gate_dst (N := 9) rfl ?_); (try (refine gate_guard (by rfl) ?_; dsimp only)); refine box_event ?hg (N := 9) ?hd (cs := #[.int .i64 0, .int .i64 0, .int .i64 0, .bool false, .slice none 0 0, .int .i64 0]) (t := 32) ?hr ?_; (case hd => rfl); (case hg => rfl); (case hr => first | (go_simp; done) | (go_simp; rfl)); intro gb145 hg w19 hbox hb; have n0_ := Aside0.mk (Kd.R_below (by (with_reducible repeat (first | apply Kd.R_alloc | apply Kd.R_drewN | apply Kd.R_drew)); exact HO135.out) hb); have n1_ := Aside0.mk (Kd.R_below (by (with_reducible repeat (first | apply Kd.R_alloc | apply Kd.R_drewN | apply Kd.R_drew)); exact HO142.out) hb); have n2_ := Aside0.mk (below_step (by repeat (first | (with_reducible first | exact HB.out | apply below_alloc | apply pw_below_drewN | apply below_drew1) | exact HB.out)) hb); have n3_ := Aside0.mk (hbox); have n4_ := Aside0.mk ((by rw [hg]; exact (below_size (by repeat (first | (with_reducible first | exact HB.out | apply below_alloc | apply pw_below_drewN | apply below_drew1) | exact HB.out))) : w.heap.size ≤ gb145)); have n5_ := Aside0.mk ((by rw [hg]; exact (below_size (by repeat (first | (with_reducible first | exact HB.out | apply below_alloc | apply pw_below_drewN | apply below_drew1) | exact HB.out))) : w.heap.size ≤ gb145)); clear HO135; clear HO142; clear HB; have HO135 := n0_; have HO142 := n1_; have HB := n2_; have BK145 := n3_; have GW145 := n4_; have GE145 := n5_; clear n0_ n1_ n2_ n3_ n4_ n5_; clear hb hbox hg; have hcz20_0 : w19.cell? ⟨gb145, 0, none⟩ = some (.int .i64 0) := (blk_cell BK145.out 0).trans rfl; have hcz20_1 : w19.cell? ⟨gb145, 1, none⟩ = some (.int .i64 0) := (blk_cell BK145.out 1).trans rfl; have hcz20_2 : w19.cell? ⟨gb145, 2, none⟩ = some (.int .i64 0) := (blk_cell BK145.out 2).trans rfl; have hcz20_3 : w19.cell? ⟨gb145, 3, none⟩ = some (.bool false) := (blk_cell BK145.out 3).trans rfl; have hcz20_4 : w19.cell? ⟨gb145, 4, none⟩ = some (.slice none 0 0) := (blk_cell BK145.out 4).trans rfl; have hcz20_5 : w19.cell? ⟨gb145, 5, none⟩ = some (.int .i64 0) := (blk_cell BK145.out 5).trans rfl; have hfz20_0 := blk_frozen BK145.out 0; have hfz20_1 := blk_frozen BK145.out 1; have hfz20_2 := blk_frozen BK145.out 2; have hfz20_3 := blk_frozen BK145.out 3; have hfz20_4 := blk_frozen BK145.out 4; have hfz20_5 := blk_frozen BK145.out 5; obtain ⟨Ao21, co21, eo21⟩ := Kd.R_slice HO142.out; subst eo21) | ((with_reducible refine gate_dst (N := 50) rfl ?_); (try (refine gate_guard (by rfl) ?_; dsimp only)); refine Kd.R_lit k25 _ 25 ?hg (N := 50) ?hd (xs := ([(⟨4, a2, a3, 0⟩ : S25)] : List (S25))) (inner := [.int .i64 4, .int .i64 a2, .int .i64 a3, .int .i64 0]) (ok := fun _ => True) (okp := fun _ => True) ?hr ?hp (fun _ hk => hk) trivial (Below.refl _ _) (Nat.le_refl _) (by simp) ?_; (case hd => rfl); (case hg => rfl); (case hr => first | (go_simp; done) | (go_simp; rfl)); (case hp => exact (Reps.c4 (show Kd.M k25 _ _ _ (⟨4, a2, a3, 0⟩ : S25) [.int .i64 4, .int .i64 a2, .int .i64 a3, .int .i64 0] from (k25_mkM _ _ _ (⟨4, a2, a3, 0⟩ : S25) )) (Reps.none _ _))); intro v147 w22 ho23 hb hg_ hnew_; clear hg_ hnew_; (first | rw [← Ny146.out] at ho23 | (simp only [Int.reduceToNat] at ho23; rw [← Ny146.out] at ho23)); have n0_ := Aside0.mk (Kd.R_elder' (by (with_reducible repeat (first | apply Kd.R_alloc | apply Kd.R_drewN | apply Kd.R_drew)); exact (Kd.R_mono (Kd.R_far (p := ⟨gb145, 5, none⟩) (Kd.R_far (p := ⟨gb145, 4, none⟩) (Kd.R_far (p := ⟨gb145, 3, none⟩) (Kd.R_far (p := ⟨gb145, 2, none⟩) (Kd.R_far (p := ⟨gb145, 1, none⟩) (Kd.R_far (p := ⟨gb145, 0, none⟩) (Kd.R_types HO135.out BK145.out (by decide)) (fun _ hk => hk.2) (.int .i64 t136)) (fun _ hk => hk.2) (.int .i64 t137)) (fun _ hk => hk.2) (.int .i64 t138)) (fun _ hk => hk.2) (.bool t139)) (fun _ hk => hk.2) (.slice Ao21 t140.length co21)) (fun _ hk => hk.2) (.int .i64 t143)) (fun _ h_ => h_.1))) (Kd.R_base ho23) hb); have n1_ := Aside0.mk (Kd.R_below (by (with_reducible repeat (first | apply Kd.R_alloc | apply Kd.R_drewN | apply Kd.R_drew)); exact (Kd.R_mono (Kd.R_far (p := ⟨gb145, 5, none⟩) (Kd.R_far (p := ⟨gb145, 4, none⟩) (Kd.R_far (p := ⟨gb145, 3, none⟩) (Kd.R_far (p := ⟨gb145, 2, none⟩) (Kd.R_far (p := ⟨gb145, 1, none⟩) (Kd.R_far (p := ⟨gb145, 0, none⟩) (Kd.R_types HO142.out BK145.out (by decide)) (fun _ hk => hk.2) (.int .i64 t136)) (fun _ hk => hk.2) (.int .i64 t137)) (fun _ hk => hk.2) (.int .i64 t138)) (fun _ hk => hk.2) (.bool t139)) (fun _ hk => hk.2) (.slice Ao21 t140.length co21)) (fun _ hk => hk.2) (.int .i64 t143)) (fun _ h_ => h_.1))) hb); have n2_ := Aside0.mk (Kd.R_lower (Kd.R_new' ho23 (Kd.R_lt (by (with_reducible repeat (first | apply Kd.R_alloc | apply Kd.R_drewN | apply Kd.R_drew)); exact (Kd.R_mono (Kd.R_far (p := ⟨gb145, 5, none⟩) (Kd.R_far (p := ⟨gb145, 4, none⟩) (Kd.R_far (p := ⟨gb145, 3, none⟩) (Kd.R_far (p := ⟨gb145, 2, none⟩) (Kd.R_far (p := ⟨gb145, 1, none⟩) (Kd.R_far (p := ⟨gb145, 0, none⟩) (Kd.R_types HO135.out BK145.out (by decide)) (fun _ hk => hk.2) (.int .i64 t136)) (fun _ hk => hk.2) (.int .i64 t137)) (fun _ hk => hk.2) (.int .i64 t138)) (fun _ hk => hk.2) (.bool t139)) (fun _ hk => hk.2) (.slice Ao21 t140.length co21)) (fun _ hk => hk.2) (.int .i64 t143)) (fun _ h_ => h_.1))))) (below_size (by repeat (first | (with_reducible first | exact HB.out | apply below_alloc | apply pw_below_drewN | apply below_drew1 | refine below_set ?_ GE145.out) | exact HB.out)))); have n3_ := Aside0.mk (blk_below (g := gb145) (o := .cells #[.int .i64 t136, .int .i64 t137, .int .i64 t138, .bool t139, .slice Ao21 t140.length co21, .int .i64 t143] 32 (0, 0)) (by (with_reducible repeat (first | refine blk_drewN ?_ _ | refine blk_drew ?_ | refine blk_alloc ?_ _)); refine blk_put (cs := #[.int .i64 t136, .int .i64 t137, .int .i64 t138, .bool t139, .slice Ao21 t140.length co21, .int .i64 0]) ?_ 5 _ rfl; (with_reducible repeat (first | refine blk_drewN ?_ _ | refine blk_drew ?_ | refine blk_alloc ?_ _)); refine blk_put (cs := #[.int .i64 t136, .int .i64 t137, .int .i64 t138, .bool t139, .slice none 0 0, .int .i64 0]) ?_ 4 _ rfl; (with_reducible repeat (first | refine blk_drewN ?_ _ | refine blk_drew ?_ | refine blk_alloc ?_ _)); refine blk_put (cs := #[.int .i64 t136, .int .i64 t137, .int .i64 t138, .bool false, .slice none 0 0, .int .i64 0]) ?_ 3 _ rfl; (with_reducible repeat (first | refine blk_drewN ?_ _ | refine blk_drew ?_ | refine blk_alloc ?_ _)); refine blk_put (cs := #[.int .i64 t136, .int .i64 t137, .int .i64 0, .bool false, .slice none 0 0, .int .i64 0]) ?_ 2 _ rfl; (with_reducible repeat (first | refine blk_drewN ?_ _ | refine blk_drew ?_ | refine blk_alloc ?_ _)); refine blk_put (cs := #[.int .i64 t136, .int .i64 0, .int .i64 0, .bool false, .slice none 0 0, .int .i64 0]) ?_ 1 _ rfl; (with_reducible repeat (first | refine blk_drewN ?_ _ | refine blk_drew ?_ | refine blk_alloc ?_ _)); refine blk_put (cs := #[.int .i64 0, .int .i64 0, .int .i64 0, .bool false, .slice none 0 0, .int .i64 0]) ?_ 0 _ rfl; (with_reducible repeat (first | refine blk_drewN ?_ _ | refine blk_drew ?_ | refine blk_alloc ?_ _)); exact BK145.out) hb); have n4_ := Aside0.mk (below_step (by repeat (first | (with_reducible first | exact HB.out | apply below_alloc | apply pw_below_drewN | apply below_drew1 | refine below_set ?_ GE145.out) | exact HB.out)) hb); clear HO135; clear HO142; clear BK145; clear HB; have HO135 := n0_; have HO142 := n1_; have HO148 := n2_; have BK145 := n3_; have HB := n4_; clear n0_ n1_ n2_ n3_ n4_; clear hb ho23; obtain ⟨Ao24, co24, eo24⟩ := Kd.R_slice HO148.out; subst eo24) | (go_at_call 15; (with_reducible refine (laws_spanLast.calls _ _ l0 _ _ y146 t149 t150 t151 t152 t153 t156 t157 _ ?side1 ?side2 ?side3 ?side4 A12.out).mono ?_); (case side1 => repeat (first | exact (Kd.C_below HR0.out HB.out) | (with_reducible refine Kd.C_alloc ?_ _) | (with_reducible refine Kd.C_drewN ?_ _) | (with_reducible refine Kd.C_drew ?_))); (case side2 => exact HC0.out); (case side3 => repeat (first | exact (Kd.R_reads' HO148.out).2.2 | (with_reducible refine Kd.C_alloc ?_ _) | (with_reducible refine Kd.C_drewN ?_ _) | (with_reducible refine Kd.C_drew ?_))); (case side4 => exact (Kd.R_reads' HO148.out).2.1); rintro e w25 ⟨v154, rfl, ho0, hb⟩; have n0_ := Aside0.mk (Kd.R_below (by (with_reducible repeat (first | apply Kd.R_alloc | apply Kd.R_drewN | apply Kd.R_drew)); exact HO135.out) hb); have n1_ := Aside0.mk (Kd.R_elder' (by (with_reducible repeat (first | apply Kd.R_alloc | apply Kd.R_drewN | apply Kd.R_drew)); exact HO142.out) (Kd.R_base ho0) hb); have n2_ := Aside0.mk (Kd.R_below (by (with_reducible repeat (first | apply Kd.R_alloc | apply Kd.R_drewN | apply Kd.R_drew)); exact HO148.out) hb); have n3_ := Aside0.mk (Kd.R_lower (Kd.R_new' ho0 (Kd.R_lt (by (with_reducible repeat (first | apply Kd.R_alloc | apply Kd.R_drewN | apply Kd.R_drew)); exact HO142.out))) (below_size (by repeat (first | (with_reducible first | exact HB.out | apply below_alloc | apply pw_below_drewN | apply below_drew1 | refine below_set ?_ GE145.out) | exact HB.out)))); have n4_ := Aside0.mk (blk_below (g := gb145) (o := .cells #[.int .i64 t136, .int .i64 t137, .int .i64 t138, .bool t139, .slice Ao21 t140.length co21, .int .i64 t143] 32 (0, 0)) (by (with_reducible repeat (first | refine blk_drewN ?_ _ | refine blk_drew ?_ | refine blk_alloc ?_ _)); exact BK145.out) hb); have n5_ := Aside0.mk (below_step (by repeat (first | (with_reducible first | exact HB.out | apply below_alloc | apply pw_below_drewN | apply below_drew1 | refine below_set ?_ GE145.out) | exact HB.out)) hb); clear HO135; clear HO142; clear HO148; clear BK145; clear HB; have HO135 := n0_; have HO142 := n1_; have HO148 := n2_; have HO155 := n3_; have BK145 := n4_; have HB := n5_; clear n0_ n1_ n2_ n3_ n4_ n5_; (try clear hb); (try clear hb2); (try clear hk); (try clear hi); (try clear ho0)) | ((with_reducible refine gate_dst (N := 11) rfl ?_); (try (refine gate_guard (by rfl) ?_; dsimp only)); refine box_event ?hg (N := 11) ?hd (cs := #[.int .i64 0, .int .i64 0, .int .i64 0, .bool false, .slice none 0 0, .int .i64 0]) (t := 32) ?hr ?_; (case hd => rfl); (case hg => rfl); (case hr => first | (go_simp; done) | (go_simp; rfl)); intro gb158 hg w26 hbox hb; have n0_ := Aside0.mk (Kd.R_below (by (with_reducible repeat (first | apply Kd.R_alloc | apply Kd.R_drewN | apply Kd.R_drew)); exact HO135.out) hb); have n1_ := Aside0.mk (Kd.R_below (by (with_reducible repeat (first | apply Kd.R_alloc | apply Kd.R_drewN | apply Kd.R_drew)); exact HO142.out) hb); have n2_ := Aside0.mk (Kd.R_below (by (with_reducible repeat (first | apply Kd.R_alloc | apply Kd.R_drewN | apply Kd.R_drew)); exact HO148.out) hb); have n3_ := Aside0.mk (Kd.R_below (by (with_reducible repeat (first | apply Kd.R_alloc | apply Kd.R_drewN | apply Kd.R_drew)); exact HO155.out) hb); have n4_ := Aside0.mk (blk_below (g := gb145) (o := .cells #[.int .i64 t136, .int .i64 t137, .int .i64 t138, .bool t139, .slice Ao21 t140.length co21, .int .i64 t143] 32 (0, 0)) (by (with_reducible repeat (first | refine blk_drewN ?_ _ | refine blk_drew ?_ | refine blk_alloc ?_ _)); exact BK145.out) hb); have n5_ := Aside0.mk (below_step (by repeat (first | (with_reducible first | exact HB.out | apply below_alloc | apply pw_below_drewN | apply below_drew1 | refine below_set ?_ GE145.out) | exact HB.out)) hb); have n6_ := Aside0.mk (hbox); have n7_ := Aside0.mk ((by rw [hg]; exact (below_size (by repeat (first | (with_reducible first | exact HB.out | apply below_alloc | apply pw_below_drewN | apply below_drew1 | refine below_set ?_ GE145.out) | exact HB.out))) : w.heap.size ≤ gb158)); have n8_ := Aside0.mk ((by rw [hg]; exact (below_size (by repeat (first | (with_reducible first | exact HB.out | apply below_alloc | apply pw_below_drewN | apply below_drew1 | refine below_set ?_ GE145.out) | exact HB.out))) : w.heap.size ≤ gb158)); have n9_ := Aside0.mk ((by rw [hg]; exact Nat.ne_of_lt (blk_lt (g := gb145) (o := .cells #[.int .i64 t136, .int .i64 t137, .int .i64 t138, .bool t139, .slice Ao21 t140.length co21, .int .i64 t143] 32 (0, 0)) (by (with_reducible repeat (first | refine blk_drewN ?_ _ | refine blk_drew ?_ | refine blk_alloc ?_ _)); exact BK145.out)) : gb145 ≠ gb158)); have n10_ := Aside0.mk ((by rw [hg]; exact Nat.ne_of_gt (blk_lt (g := gb145) (o := .cells #[.int .i64 t136, .int .i64 t137, .int .i64 t138, .bool t139, .slice Ao21 t140.length co21, .int .i64 t143] 32 (0, 0)) (by (with_reducible repeat (first | refine blk_drewN ?_ _ | refine blk_drew ?_ | refine blk_alloc ?_ _)); exact BK145.out)) : gb158 ≠ gb145)); clear HO135; clear HO142; clear HO148; clear HO155; clear BK145; clear HB; have HO135 := n0_; have HO142 := n1_; have HO148 := n2_; have HO155 := n3_; have BK145 := n4_; have HB := n5_; have BK158 := n6_; have GW158 := n7_; have GE158 := n8_; have NB145_158 := n9_; have NB158_145 := n10_; clear n0_ n1_ n2_ n3_ n4_ n5_ n6_ n7_ n8_ n9_ n10_; clear hb hbox hg; have hnb27 := NB158_145.out; have hnc27 := NB145_158.out; have hcz28_0 : w26.cell? ⟨gb158, 0, none⟩ = some (.int .i64 0) := (blk_cell BK158.out 0).trans rfl; have hcz28_1 : w26.cell? ⟨gb158, 1, none⟩ = some (.int .i64 0) := (blk_cell BK158.out 1).trans rfl; have hcz28_2 : w26.cell? ⟨gb158, 2, none⟩ = some (.int .i64 0) := (blk_cell BK158.out 2).trans rfl; have hcz28_3 : w26.cell? ⟨gb158, 3, none⟩ = some (.bool false) := (blk_cell BK158.out 3).trans rfl; have hcz28_4 : w26.cell? ⟨gb158, 4, none⟩ = some (.slice none 0 0) := (blk_cell BK158.out 4).trans rfl; have hcz28_5 : w26.cell? ⟨gb158, 5, none⟩ = some (.int .i64 0) := (blk_cell BK158.out 5).trans rfl; have hfz28_0 := blk_frozen BK158.out 0; have hfz28_1 := blk_frozen BK158.out 1; have hfz28_2 := blk_frozen BK158.out 2; have hfz28_3 := blk_frozen BK158.out 3; have hfz28_4 := blk_frozen BK158.out 4; have hfz28_5 := blk_frozen BK158.out 5; obtain ⟨Ao29, co29, eo29⟩ := Kd.R_slice HO155.out; subst eo29) | ((with_reducible refine gate_dst (N := 59) rfl ?_); (try (refine gate_guard (by rfl) ?_; dsimp only)); refine Kd.R_lit k25 _ 25 ?hg (N := 59) ?hd (xs := ([(⟨4, a1, a3, 0⟩ : S25)] : List (S25))) (inner := [.int .i64 4, .int .i64 a1, .int .i64 a3, .int .i64 0]) (ok := fun _ => True) (okp := fun _ => True) ?hr ?hp (fun _ hk => hk) trivial (Below.refl _ _) (Nat.le_refl _) (by simp) ?_; (case hd => rfl); (case hg => rfl); (case hr => first | (go_simp; done) | (go_simp; rfl)); (case hp => exact (Reps.c4 (show Kd.M k25 _ _ _ (⟨4, a1, a3, 0⟩ : S25) [.int .i64 4, .int .i64 a1, .int .i64 a3, .int .i64 0] from (k25_mkM _ _ _ (⟨4, a1, a3, 0⟩ : S25) )) (Reps.none _ _))); intro v160 w30 ho31 hb hg_ hnew_; clear hg_ hnew_; (first | rw [← Ny159.out] at ho31 | (simp only [Int.reduceToNat] at ho31; rw [← Ny159.out] at ho31)); have n0_ := Aside0.mk (Kd.R_elder' (by (with_reducible repeat (first | apply Kd.R_alloc | apply Kd.R_drewN | apply Kd.R_drew)); exact (Kd.R_mono (Kd.R_far (p := ⟨gb158, 5, none⟩) (Kd.R_far (p := ⟨gb158, 4, none⟩) (Kd.R_far (p := ⟨gb158, 3, none⟩) (Kd.R_far (p := ⟨gb158, 2, none⟩) (Kd.R_far (p := ⟨gb158, 1, none⟩) (Kd.R_far (p := ⟨gb158, 0, none⟩) (Kd.R_types HO135.out BK158.out (by decide)) (fun _ hk => hk.2) (.int .i64 t149)) (fun _ hk => hk.2) (.int .i64 t150)) (fun _ hk => hk.2) (.int .i64 t151)) (fun _ hk => hk.2) (.bool t152)) (fun _ hk => hk.2) (.slice Ao29 t153.length co29)) (fun _ hk => hk.2) (.int .i64 t156)) (fun _ h_ => h_.1))) (Kd.R_base ho31) hb); have n1_ := Aside0.mk (Kd.R_below (by (with_reducible repeat (first | apply Kd.R_alloc | apply Kd.R_drewN | apply Kd.R_drew)); exact (Kd.R_mono (Kd.R_far (p := ⟨gb158, 5, none⟩) (Kd.R_far (p := ⟨gb158, 4, none⟩) (Kd.R_far (p := ⟨gb158, 3, none⟩) (Kd.R_far (p := ⟨gb158, 2, none⟩) (Kd.R_far (p := ⟨gb158, 1, none⟩) (Kd.R_far (p := ⟨gb158, 0, none⟩) (Kd.R_types HO142.out BK158.out (by decide)) (fun _ hk => hk.2) (.int .i64 t149)) (fun _ hk => hk.2) (.int .i64 t150)) (fun _ hk => hk.2) (.int .i64 t151)) (fun _ hk => hk.2) (.bool t152)) (fun _ hk => hk.2) (.slice Ao29 t153.length co29)) (fun _ hk => hk.2) (.int .i64 t156)) (fun _ h_ => h_.1))) hb); have n2_ := Aside0.mk (Kd.R_elder' (by (with_reducible repeat (first | apply Kd.R_alloc | apply Kd.R_drewN | apply Kd.R_drew)); exact (Kd.R_mono (Kd.R_far (p := ⟨gb158, 5, none⟩) (Kd.R_far (p := ⟨gb158, 4, none⟩) (Kd.R_far (p := ⟨gb158, 3, none⟩) (Kd.R_far (p := ⟨gb158, 2, none⟩) (Kd.R_far (p := ⟨gb158, 1, none⟩) (Kd.R_far (p := ⟨gb158, 0, none⟩) (Kd.R_types HO148.out BK158.out (by decide)) (fun _ hk => hk.2) (.int .i64 t149)) (fun _ hk => hk.2) (.int .i64 t150)) (fun _ hk => hk.2) (.int .i64 t151)) (fun _ hk => hk.2) (.bool t152)) (fun _ hk => hk.2) (.slice Ao29 t153.length co29)) (fun _ hk => hk.2) (.int .i64 t156)) (fun _ h_ => h_.1))) (Kd.R_base ho31) hb); have n3_ := Aside0.mk (Kd.R_below (by (with_reducible repeat (first | apply Kd.R_alloc | apply Kd.R_drewN | apply Kd.R_drew)); exact (Kd.R_mono (Kd.R_far (p := ⟨gb158, 5, none⟩) (Kd.R_far (p := ⟨gb158, 4, none⟩) (Kd.R_far (p := ⟨gb158, 3, none⟩) (Kd.R_far (p := ⟨gb158, 2, none⟩) (Kd.R_far (p := ⟨gb158, 1, none⟩) (Kd.R_far (p := ⟨gb158, 0, none⟩) (Kd.R_types HO155.out BK158.out (by decide)) (fun _ hk => hk.2) (.int .i64 t149)) (fun _ hk => hk.2) (.int .i64 t150)) (fun _ hk => hk.2) (.int .i64 t151)) (fun _ hk => hk.2) (.bool t152)) (fun _ hk => hk.2) (.slice Ao29 t153.length co29)) (fun _ hk => hk.2) (.int .i64 t156)) (fun _ h_ => h_.1))) hb); have n4_ := Aside0.mk (Kd.R_lower (Kd.R_new' (Kd.R_new' ho31 (Kd.R_lt (by (with_reducible repeat (first | apply Kd.R_alloc | apply Kd.R_drewN | apply Kd.R_drew)); exact (Kd.R_mono (Kd.R_far (p := ⟨gb158, 5, none⟩) (Kd.R_far (p := ⟨gb158, 4, none⟩) (Kd.R_far (p := ⟨gb158, 3, none⟩) (Kd.R_far (p := ⟨gb158, 2, none⟩) (Kd.R_far (p := ⟨gb158, 1, none⟩) (Kd.R_far (p := ⟨gb158, 0, none⟩) (Kd.R_types HO135.out BK158.out (by decide)) (fun _ hk => hk.2) (.int .i64 t149)) (fun _ hk => hk.2) (.int .i64 t150)) (fun _ hk => hk.2) (.int .i64 t151)) (fun _ hk => hk.2) (.bool t152)) (fun _ hk => hk.2) (.slice Ao29 t153.length co29)) (fun _ hk => hk.2) (.int .i64 t156)) (fun _ h_ => h_.1))))) (Kd.R_lt (by (with_reducible repeat (first | apply Kd.R_alloc | apply Kd.R_drewN | apply Kd.R_drew)); exact (Kd.R_mono (Kd.R_far (p := ⟨gb158, 5, none⟩) (Kd.R_far (p := ⟨gb158, 4, none⟩) (Kd.R_far (p := ⟨gb158, 3, none⟩) (Kd.R_far (p := ⟨gb158, 2, none⟩) (Kd.R_far (p := ⟨gb158, 1, none⟩) (Kd.R_far (p := ⟨gb158, 0, none⟩) (Kd.R_types HO148.out BK158.out (by decide)) (fun _ hk => hk.2) (.int .i64 t149)) (fun _ hk => hk.2) (.int .i64 t150)) (fun _ hk => hk.2) (.int .i64 t151)) (fun _ hk => hk.2) (.bool t152)) (fun _ hk => hk.2) (.slice Ao29 t153.length co29)) (fun _ hk => hk.2) (.int .i64 t156)) (fun _ h_ => h_.1))))) (below_size (by repeat (first | (with_reducible first | exact HB.out | apply below_alloc | apply pw_below_drewN | apply below_drew1 | refine below_set ?_ GE145.out | refine below_set ?_ GE158.out) | exact HB.out)))); have n5_ := Aside0.mk (blk_below (g := gb145) (o := .cells #[.int .i64 t136, .int .i64 t137, .int .i64 t138, .bool t139, .slice Ao21 t140.length co21, .int .i64 t143] 32 (0, 0)) (by (with_reducible repeat (first | refine blk_drewN ?_ _ | refine blk_drew ?_ | refine blk_alloc ?_ _)); refine blk_far ?_ NB145_158.out _; (with_reducible repeat (first | refine blk_drewN ?_ _ | refine blk_drew ?_ | refine blk_alloc ?_ _)); refine blk_far ?_ NB145_158.out _; (with_reducible repeat (first | refine blk_drewN ?_ _ | refine blk_drew ?_ | refine blk_alloc ?_ _)); refine blk_far ?_ NB145_158.out _; (with_reducible repeat (first | refine blk_drewN ?_ _ | refine blk_drew ?_ | refine blk_alloc ?_ _)); refine blk_far ?_ NB145_158.out _; (with_reducible repeat (first | refine blk_drewN ?_ _ | refine blk_drew ?_ | refine blk_alloc ?_ _)); refine blk_far ?_ NB145_158.out _; (with_reducible repeat (first | refine blk_drewN ?_ _ | refine blk_drew ?_ | refine blk_alloc ?_ _)); refine blk_far ?_ NB145_158.out _; (with_reducible repeat (first | refine blk_drewN ?_ _ | refine blk_drew ?_ | refine blk_alloc ?_ _)); exact BK145.out) hb); have n6_ := Aside0.mk (blk_below (g := gb158) (o := .cells #[.int .i64 t149, .int .i64 t150, .int .i64 t151, .bool t152, .slice Ao29 t153.length co29, .int .i64 t156] 32 (0, 0)) (by (with_reducible repeat (first | refine blk_drewN ?_ _ | refine blk_drew ?_ | refine blk_alloc ?_ _)); refine blk_put (cs := #[.int .i64 t149, .int .i64 t150, .int .i64 t151, .bool t152, .slice Ao29 t153.length co29, .int .i64 0]) ?_ 5 _ rfl; (with_reducible repeat (first | refine blk_drewN ?_ _ | refine blk_drew ?_ | refine blk_alloc ?_ _)); refine blk_put (cs := #[.int .i64 t149, .int .i64 t150, .int .i64 t151, .bool t152, .slice none 0 0, .int .i64 0]) ?_ 4 _ rfl; (with_reducible repeat (first | refine blk_drewN ?_ _ | refine blk_drew ?_ | refine blk_alloc ?_ _)); refine blk_put (cs := #[.int .i64 t149, .int .i64 t150, .int .i64 t151, .bool false, .slice none 0 0, .int .i64 0]) ?_ 3 _ rfl; (with_reducible repeat (first | refine blk_drewN ?_ _ | refine blk_drew ?_ | refine blk_alloc ?_ _)); refine blk_put (cs := #[.int .i64 t149, .int .i64 t150, .int .i64 0, .bool false, .slice none 0 0, .int .i64 0]) ?_ 2 _ rfl; (with_reducible repeat (first | refine blk_drewN ?_ _ | refine blk_drew ?_ | refine blk_alloc ?_ _)); refine blk_put (cs := #[.int .i64 t149, .int .i64 0, .int .i64 0, .bool false, .slice none 0 0, .int .i64 0]) ?_ 1 _ rfl; (with_reducible repeat (first | refine blk_drewN ?_ _ | refine blk_drew ?_ | refine blk_alloc ?_ _)); refine blk_put (cs := #[.int .i64 0, .int .i64 0, .int .i64 0, .bool false, .slice none 0 0, .int .i64 0]) ?_ 0 _ rfl; (with_reducible repeat (first | refine blk_drewN ?_ _ | refine blk_drew ?_ | refine blk_alloc ?_ _)); exact BK158.out) hb); have n7_ := Aside0.mk (below_step (by repeat (first | (with_reducible first | exact HB.out | apply below_alloc | apply pw_below_drewN | apply below_drew1 | refine below_set ?_ GE145.out | refine below_set ?_ GE158.out) | exact HB.out)) hb); clear HO135; clear HO142; clear HO148; clear HO155; clear BK145; clear BK158; clear HB; have HO135 := n0_; have HO142 := n1_; have HO148 := n2_; have HO155 := n3_; have HO161 := n4_; have BK145 := n5_; have BK158 := n6_; have HB := n7_; clear n0_ n1_ n2_ n3_ n4_ n5_ n6_ n7_; clear hb ho31; obtain ⟨Ao32, co32, eo32⟩ := Kd.R_slice HO161.out; subst eo32) | (go_at_call 15; (with_reducible refine (laws_spanLast.calls _ _ l0 _ _ y159 t162 t163 t164 t165 t166 t169 t170 _ ?side1 ?side2 ?side3 ?side4 A13.out).mono ?_); (case side1 => repeat (first | exact (Kd.C_below HR0.out HB.out) | (with_reducible refine Kd.C_alloc ?_ _) | (with_reducible refine Kd.C_drewN ?_ _) | (with_reducible refine Kd.C_drew ?_))); (case side2 => exact HC0.out); (case side3 => repeat (first | exact (Kd.R_reads' HO161.out).2.2 | (with_reducible refine Kd.C_alloc ?_ _) | (with_reducible refine Kd.C_drewN ?_ _) | (with_reducible refine Kd.C_drew ?_))); (case side4 => exact (Kd.R_reads' HO161.out).2.1); rintro e w33 ⟨v167, rfl, ho0, hb⟩; have n0_ := Aside0.mk (Kd.R_below (by (with_reducible repeat (first | apply Kd.R_alloc | apply Kd.R_drewN | apply Kd.R_drew)); exact HO135.out) hb); have n1_ := Aside0.mk (Kd.R_elder' (by (with_reducible repeat (first | apply Kd.R_alloc | apply Kd.R_drewN | apply Kd.R_drew)); exact HO142.out) (Kd.R_base ho0) hb); have n2_ := Aside0.mk (Kd.R_below (by (with_reducible repeat (first | apply Kd.R_alloc | apply Kd.R_drewN | apply Kd.R_drew)); exact HO148.out) hb); have n3_ := Aside0.mk (Kd.R_elder' (by (with_reducible repeat (first | apply Kd.R_alloc | apply Kd.R_drewN | apply Kd.R_drew)); exact HO155.out) (Kd.R_base ho0) hb); have n4_ := Aside0.mk (Kd.R_below (by (with_reducible repeat (first | apply Kd.R_alloc | apply Kd.R_drewN | apply Kd.R_drew)); exact HO161.out) hb); have n5_ := Aside0.mk (Kd.R_lower (Kd.R_new' (Kd.R_new' ho0 (Kd.R_lt (by (with_reducible repeat (first | apply Kd.R_alloc | apply Kd.R_drewN | apply Kd.R_drew)); exact HO142.out))) (Kd.R_lt (by (with_reducible repeat (first | apply Kd.R_alloc | apply Kd.R_drewN | apply Kd.R_drew)); exact HO155.out))) (below_size (by repeat (first | (with_reducible first | exact HB.out | apply below_alloc | apply pw_below_drewN | apply below_drew1 | refine below_set ?_ GE145.out | refine below_set ?_ GE158.out) | exact HB.out)))); have n6_ := Aside0.mk (blk_below (g := gb145) (o := .cells #[.int .i64 t136, .int .i64 t137, .int .i64 t138, .bool t139, .slice Ao21 t140.length co21, .int .i64 t143] 32 (0, 0)) (by (with_reducible repeat (first | refine blk_drewN ?_ _ | refine blk_drew ?_ | refine blk_alloc ?_ _)); exact BK145.out) hb); have n7_ := Aside0.mk (blk_below (g := gb158) (o := .cells #[.int .i64 t149, .int .i64 t150, .int .i64 t151, .bool t152, .slice Ao29 t153.length co29, .int .i64 t156] 32 (0, 0)) (by (with_reducible repeat (first | refine blk_drewN ?_ _ | refine blk_drew ?_ | refine blk_alloc ?_ _)); exact BK158.out) hb); have n8_ := Aside0.mk (below_step (by repeat (first | (with_reducible first | exact HB.out | apply below_alloc | apply pw_below_drewN | apply below_drew1 | refine below_set ?_ GE145.out | refine below_set ?_ GE158.out) | exact HB.out)) hb); clear HO135; clear HO142; clear HO148; clear HO155; clear HO161; clear BK145; clear BK158; clear HB; have HO135 := n0_; have HO142 := n1_; have HO148 := n2_; have HO155 := n3_; have HO161 := n4_; have HO168 := n5_; have BK145 := n6_; have BK158 := n7_; have HB := n8_; clear n0_ n1_ n2_ n3_ n4_ n5_ n6_ n7_ n8_; (try clear hb); (try clear hb2); (try clear hk); (try clear hi); (try clear ho0)) | ((with_reducible refine gate_dst (N := 13) rfl ?_); (try (refine gate_guard (by rfl) ?_; dsimp only)); refine box_event ?hg (N := 13) ?hd (cs := #[.int .i64 0, .int .i64 0, .int .i64 0, .bool false, .slice none 0 0, .int .i64 0]) (t := 32) ?hr ?_; (case hd => rfl); (case hg => rfl); (case hr => first | (go_simp; done) | (go_simp; rfl)); intro gb171 hg w34 hbox hb; have n0_ := Aside0.mk (Kd.R_below (by (with_reducible repeat (first | apply Kd.R_alloc | apply Kd.R_drewN | apply Kd.R_drew)); exact HO135.out) hb); have n1_ := Aside0.mk (Kd.R_below (by (with_reducible repeat (first | apply Kd.R_alloc | apply Kd.R_drewN | apply Kd.R_drew)); exact HO142.out) hb); have n2_ := Aside0.mk (Kd.R_below (by (with_reducible repeat (first | apply Kd.R_alloc | apply Kd.R_drewN | apply Kd.R_drew)); exact HO148.out) hb); have n3_ := Aside0.mk (Kd.R_below (by (with_reducible repeat (first | apply Kd.R_alloc | apply Kd.R_drewN | apply Kd.R_drew)); exact HO155.out) hb); have n4_ := Aside0.mk (Kd.R_below (by (with_reducible repeat (first | apply Kd.R_alloc | apply Kd.R_drewN | apply Kd.R_drew)); exact HO161.out) hb); have n5_ := Aside0.mk (Kd.R_below (by (with_reducible repeat (first | apply Kd.R_alloc | apply Kd.R_drewN | apply Kd.R_drew)); exact HO168.out) hb); have n6_ := Aside0.mk (blk_below (g := gb145) (o := .cells #[.int .i64 t136, .int .i64 t137, .int .i64 t138, .bool t139, .slice Ao21 t140.length co21, .int .i64 t143] 32 (0, 0)) (by (with_reducible repeat (first | refine blk_drewN ?_ _ | refine blk_drew ?_ | refine blk_alloc ?_ _)); exact BK145.out) hb); have n7_ := Aside0.mk (blk_below (g := gb158) (o := .cells #[.int .i64 t149, .int .i64 t150, .int .i64 t151, .bool t152, .slice Ao29 t153.length co29, .int .i64 t156] 32 (0, 0)) (by (with_reducible repeat (first | refine blk_drewN ?_ _ | refine blk_drew ?_ | refine blk_alloc ?_ _)); exact BK158.out) hb); have n8_ := Aside0.mk (below_step (by repeat (first | (with_reducible first | exact HB.out | apply below_alloc | apply pw_below_drewN | apply below_drew1 | refine below_set ?_ GE145.out | refine below_set ?_ GE158.out) | exact HB.out)) hb); have n9_ := Aside0.mk (hbox); have n10_ := Aside0.mk ((by rw [hg]; exact (below_size (by repeat (first | (with_reducible first | exact HB.out | apply below_alloc | apply pw_below_drewN | apply below_drew1 | refine below_set ?_ GE145.out | refine below_set ?_ GE158.out) | exact HB.out))) : w.heap.size ≤ gb171)); have n11_ := Aside0.mk ((by rw [hg]; exact (below_size (by repeat (first | (with_reducible first | exact HB.out | apply below_alloc | apply pw_below_drewN | apply below_drew1 | refine below_set ?_ GE145.out | refine below_set ?_ GE158.out) | exact HB.out))) : w.heap.size ≤ gb171)); have n12_ := Aside0.mk ((by rw [hg]; exact Nat.ne_of_lt (blk_lt (g := gb145) (o := .cells #[.int .i64 t136, .int .i64 t137, .int .i64 t138, .bool t139, .slice Ao21 t140.length co21, .int .i64 t143] 32 (0, 0)) (by (with_reducible repeat (first | refine blk_drewN ?_ _ | refine blk_drew ?_ | refine blk_alloc ?_ _)); exact BK145.out)) : gb145 ≠ gb171)); have n13_ := Aside0.mk ((by rw [hg]; exact Nat.ne_of_gt (blk_lt (g := gb145) (o := .cells #[.int .i64 t136, .int .i64 t137, .int .i64 t138, .bool t139, .slice Ao21 t140.length co21, .int .i64 t143] 32 (0, 0)) (by (with_reducible repeat (first | refine blk_drewN ?_ _ | refine blk_drew ?_ | refine blk_alloc ?_ _)); exact BK145.out)) : gb171 ≠ gb145)); have n14_ := Aside0.mk ((by rw [hg]; exact Nat.ne_of_lt (blk_lt (g := gb158) (o := .cells #[.int .i64 t149, .int .i64 t150, .int .i64 t151, .bool t152, .slice Ao29 t153.length co29, .int .i64 t156] 32 (0, 0)) (by (with_reducible repeat (first | refine blk_drewN ?_ _ | refine blk_drew ?_ | refine blk_alloc ?_ _)); exact BK158.out)) : gb158 ≠ gb171)); have n15_ := Aside0.mk ((by rw [hg]; exact Nat.ne_of_gt (blk_lt (g := gb158) (o := .cells #[.int .i64 t149, .int .i64 t150, .int .i64 t151, .bool t152, .slice Ao29 t153.length co29, .int .i64 t156] 32 (0, 0)) (by (with_reducible repeat (first | refine blk_drewN ?_ _ | refine blk_drew ?_ | refine blk_alloc ?_ _)); exact BK158.out)) : gb171 ≠ gb158)); clear HO135; clear HO142; clear HO148; clear HO155; clear HO161; clear HO168; clear BK145; clear BK158; clear HB; have HO135 := n0_; have HO142 := n1_; have HO148 := n2_; have HO155 := n3_; have HO161 := n4_; have HO168 := n5_; have BK145 := n6_; have BK158 := n7_; have HB := n8_; have BK171 := n9_; have GW171 := n10_; have GE171 := n11_; have NB145_171 := n12_; have NB171_145 := n13_; have NB158_171 := n14_; have NB171_158 := n15_; clear n0_ n1_ n2_ n3_ n4_ n5_ n6_ n7_ n8_ n9_ n10_ n11_ n12_ n13_ n14_ n15_; clear hb hbox hg; have hnb35 := NB171_145.out; have hnc35 := NB145_171.out; have hnb36 := NB171_158.out; have hnc36 := NB158_171.out; have hcz37_0 : w34.cell? ⟨gb171, 0, none⟩ = some (.int .i64 0) := (blk_cell BK171.out 0).trans rfl; have hcz37_1 : w34.cell? ⟨gb171, 1, none⟩ = some (.int .i64 0) := (blk_cell BK171.out 1).trans rfl; have hcz37_2 : w34.cell? ⟨gb171, 2, none⟩ = some (.int .i64 0) := (blk_cell BK171.out 2).trans rfl; have hcz37_3 : w34.cell? ⟨gb171, 3, none⟩ = some (.bool false) := (blk_cell BK171.out 3).trans rfl; have hcz37_4 : w34.cell? ⟨gb171, 4, none⟩ = some (.slice none 0 0) := (blk_cell BK171.out 4).trans rfl; have hcz37_5 : w34.cell? ⟨gb171, 5, none⟩ = some (.int .i64 0) := (blk_cell BK171.out 5).trans rfl; have hfz37_0 := blk_frozen BK171.out 0; have hfz37_1 := blk_frozen BK171.out 1; have hfz37_2 := blk_frozen BK171.out 2; have hfz37_3 := blk_frozen BK171.out 3; have hfz37_4 := blk_frozen BK171.out 4; have hfz37_5 := blk_frozen BK171.out 5; obtain ⟨Ao38, co38, eo38⟩ := Kd.R_slice HO168.out; subst eo38)))
          (try simp only [Act.put, List.setIfInBounds_toArray, List.set_cons_zero, List.set_cons_succ])
          go_cut [72] (fun v72 wc => ∃ (kq : Nat) (x72_13 : Bool), v72 = .bool x72_13 ∧ Aside0 (laws_FnOverlapsParts.j1 kq x72_13 t136 t137 t138 t139 t140 t143 t149 t150 t151 t152 t153 t156 t162 t163 t164 t165 t166 t169 = some r) ∧ Aside0 (kq ≤ kj5) ∧ Aside0 (Kd.R k29 29 wc w.heap.size (fun k_ => some k_ ≠ ((.slice Ao29 t153.length co29) : Value).ownBlock ∧ some k_ ≠ ((.slice Ao38 t166.length co38) : Value).ownBlock) (.slice Ao21 t140.length co21) t140) ∧ Aside0 (Kd.R k29 29 wc w.heap.size (fun k_ => some k_ ≠ ((.slice Ao21 t140.length co21) : Value).ownBlock ∧ some k_ ≠ ((.slice Ao38 t166.length co38) : Value).ownBlock) (.slice Ao29 t153.length co29) t153) ∧ Aside0 (Kd.R k29 29 wc w.heap.size (fun k_ => some k_ ≠ ((.slice Ao21 t140.length co21) : Value).ownBlock ∧ some k_ ≠ ((.slice Ao29 t153.length co29) : Value).ownBlock) (.slice Ao38 t166.length co38) t166) ∧ Aside0 (wc.heap[gb145]? = some (.cells #[.int .i64 t136, .int .i64 t137, .int .i64 t138, .bool t139, (.slice Ao21 t140.length co21), .int .i64 t143] 32 (0, 0))) ∧ Aside0 (wc.heap[gb158]? = some (.cells #[.int .i64 t149, .int .i64 t150, .int .i64 t151, .bool t152, (.slice Ao29 t153.length co29), .int .i64 t156] 32 (0, 0))) ∧ Aside0 (wc.heap[gb171]? = some (.cells #[.int .i64 t162, .int .i64 t163, .int .i64 t164, .bool t165, (.slice Ao38 t166.length co38), .int .i64 t169] 32 (0, 0))) ∧ Aside0 (Below w.heap.size w wc))
          case first =>
            have H := HC14.out
            clear HC14
            by_cases c39 : t144 = true
            · subst c39
              have H1 : (if t157 = true then (laws_FnOverlapsParts.j1 kj5 (!t170) t136 t137 t138 t139 t140 t143 t149 t150 t151 t152 t153 t156 t162 t163 t164 t165 t166 t169) else (laws_FnOverlapsParts.j1 kj5 true t136 t137 t138 t139 t140 t143 t149 t150 t151 t152 t153 t156 t162 t163 t164 t165 t166 t169)) = some r := by rw [if_pos rfl] at H; exact H
              clear H
              have H := H1
              clear H1
              by_cases c40 : t157 = true
              · subst c40
                have H1 : (laws_FnOverlapsParts.j1 kj5 (!t170) t136 t137 t138 t139 t140 t143 t149 t150 t151 t152 t153 t156 t162 t163 t164 t165 t166 t169) = some r := by rw [if_pos rfl] at H; exact H
                clear H
                have H := H1
                clear H1
                have H' := Aside0.mk H
                clear H
                go_wp2
                repeat (go_quiet (fail); try go_wp2)
                go_meet
                case rel => exact ⟨_, (!t170), (by first | rfl | (simp; done) | (simp [*]; done)), H', ⟨by have := HJ5.out; first | omega | exact Nat.le_refl _⟩, ⟨by (with_reducible repeat (first | apply Kd.R_alloc | apply Kd.R_drewN | apply Kd.R_drew)); exact Kd.R_mono (Kd.R_far (p := ⟨gb171, 5, none⟩) (Kd.R_far (p := ⟨gb171, 4, none⟩) (Kd.R_far (p := ⟨gb171, 3, none⟩) (Kd.R_far (p := ⟨gb171, 2, none⟩) (Kd.R_far (p := ⟨gb171, 1, none⟩) (Kd.R_far (p := ⟨gb171, 0, none⟩) (Kd.R_types HO142.out BK171.out (by decide)) (fun _ hk => hk.2) (.int .i64 t162)) (fun _ hk => hk.2) (.int .i64 t163)) (fun _ hk => hk.2) (.int .i64 t164)) (fun _ hk => hk.2) (.bool t165)) (fun _ hk => hk.2) (.slice Ao38 t166.length co38)) (fun _ hk => hk.2) (.int .i64 t169)) (fun _ hk => ⟨hk.1.1.2, hk.1.2⟩)⟩, ⟨by (with_reducible repeat (first | apply Kd.R_alloc | apply Kd.R_drewN | apply Kd.R_drew)); exact Kd.R_mono (Kd.R_far (p := ⟨gb171, 5, none⟩) (Kd.R_far (p := ⟨gb171, 4, none⟩) (Kd.R_far (p := ⟨gb171, 3, none⟩) (Kd.R_far (p := ⟨gb171, 2, none⟩) (Kd.R_far (p := ⟨gb171, 1, none⟩) (Kd.R_far (p := ⟨gb171, 0, none⟩) (Kd.R_types HO155.out BK171.out (by decide)) (fun _ hk => hk.2) (.int .i64 t162)) (fun _ hk => hk.2) (.int .i64 t163)) (fun _ hk => hk.2) (.int .i64 t164)) (fun _ hk => hk.2) (.bool t165)) (fun _ hk => hk.2) (.slice Ao38 t166.length co38)) (fun _ hk => hk.2) (.int .i64 t169)) (fun _ hk => ⟨hk.1.1.2, hk.1.2⟩)⟩, ⟨by (with_reducible repeat (first | apply Kd.R_alloc | apply Kd.R_drewN | apply Kd.R_drew)); exact Kd.R_mono (Kd.R_far (p := ⟨gb171, 5, none⟩) (Kd.R_far (p := ⟨gb171, 4, none⟩) (Kd.R_far (p := ⟨gb171, 3, none⟩) (Kd.R_far (p := ⟨gb171, 2, none⟩) (Kd.R_far (p := ⟨gb171, 1, none⟩) (Kd.R_far (p := ⟨gb171, 0, none⟩) (Kd.R_types HO168.out BK171.out (by decide)) (fun _ hk => hk.2) (.int .i64 t162)) (fun _ hk => hk.2) (.int .i64 t163)) (fun _ hk => hk.2) (.int .i64 t164)) (fun _ hk => hk.2) (.bool t165)) (fun _ hk => hk.2) (.slice Ao38 t166.length co38)) (fun _ hk => hk.2) (.int .i64 t169)) (fun _ hk => ⟨hk.1.1.2, hk.1.2⟩)⟩, ⟨by (with_reducible repeat (first | refine blk_drewN ?_ _ | refine blk_drew ?_ | refine blk_alloc ?_ _)); refine blk_far ?_ NB145_171.out _; (with_reducible repeat (first | refine blk_drewN ?_ _ | refine blk_drew ?_ | refine blk_alloc ?_ _)); refine blk_far ?_ NB145_171.out _; (with_reducible repeat (first | refine blk_drewN ?_ _ | refine blk_drew ?_ | refine blk_alloc ?_ _)); refine blk_far ?_ NB145_171.out _; (with_reducible repeat (first | refine blk_drewN ?_ _ | refine blk_drew ?_ | refine blk_alloc ?_ _)); refine blk_far ?_ NB145_171.out _; (with_reducible repeat (first | refine blk_drewN ?_ _ | refine blk_drew ?_ | refine blk_alloc ?_ _)); refine blk_far ?_ NB145_171.out _; (with_reducible repeat (first | refine blk_drewN ?_ _ | refine blk_drew ?_ | refine blk_alloc ?_ _)); refine blk_far ?_ NB145_171.out _; (with_reducible repeat (first | refine blk_drewN ?_ _ | refine blk_drew ?_ | refine blk_alloc ?_ _)); exact BK145.out⟩, ⟨by (with_reducible repeat (first | refine blk_drewN ?_ _ | refine blk_drew ?_ | refine blk_alloc ?_ _)); refine blk_far ?_ NB158_171.out _; (with_reducible repeat (first | refine blk_drewN ?_ _ | refine blk_drew ?_ | refine blk_alloc ?_ _)); refine blk_far ?_ NB158_171.out _; (with_reducible repeat (first | refine blk_drewN ?_ _ | refine blk_drew ?_ | refine blk_alloc ?_ _)); refine blk_far ?_ NB158_171.out _; (with_reducible repeat (first | refine blk_drewN ?_ _ | refine blk_drew ?_ | refine blk_alloc ?_ _)); refine blk_far ?_ NB158_171.out _; (with_reducible repeat (first | refine blk_drewN ?_ _ | refine blk_drew ?_ | refine blk_alloc ?_ _)); refine blk_far ?_ NB158_171.out _; (with_reducible repeat (first | refine blk_drewN ?_ _ | refine blk_drew ?_ | refine blk_alloc ?_ _)); refine blk_far ?_ NB158_171.out _; (with_reducible repeat (first | refine blk_drewN ?_ _ | refine blk_drew ?_ | refine blk_alloc ?_ _)); exact BK158.out⟩, ⟨by (with_reducible repeat (first | refine blk_drewN ?_ _ | refine blk_drew ?_ | refine blk_alloc ?_ _)); refine blk_put (cs := #[.int .i64 t162, .int .i64 t163, .int .i64 t164, .bool t165, .slice Ao38 t166.length co38, .int .i64 0]) ?_ 5 _ rfl; (with_reducible repeat (first | refine blk_drewN ?_ _ | refine blk_drew ?_ | refine blk_alloc ?_ _)); refine blk_put (cs := #[.int .i64 t162, .int .i64 t163, .int .i64 t164, .bool t165, .slice none 0 0, .int .i64 0]) ?_ 4 _ rfl; (with_reducible repeat (first | refine blk_drewN ?_ _ | refine blk_drew ?_ | refine blk_alloc ?_ _)); refine blk_put (cs := #[.int .i64 t162, .int .i64 t163, .int .i64 t164, .bool false, .slice none 0 0, .int .i64 0]) ?_ 3 _ rfl; (with_reducible repeat (first | refine blk_drewN ?_ _ | refine blk_drew ?_ | refine blk_alloc ?_ _)); refine blk_put (cs := #[.int .i64 t162, .int .i64 t163, .int .i64 0, .bool false, .slice none 0 0, .int .i64 0]) ?_ 2 _ rfl; (with_reducible repeat (first | refine blk_drewN ?_ _ | refine blk_drew ?_ | refine blk_alloc ?_ _)); refine blk_put (cs := #[.int .i64 t162, .int .i64 0, .int .i64 0, .bool false, .slice none 0 0, .int .i64 0]) ?_ 1 _ rfl; (with_reducible repeat (first | refine blk_drewN ?_ _ | refine blk_drew ?_ | refine blk_alloc ?_ _)); refine blk_put (cs := #[.int .i64 0, .int .i64 0, .int .i64 0, .bool false, .slice none 0 0, .int .i64 0]) ?_ 0 _ rfl; (with_reducible repeat (first | refine blk_drewN ?_ _ | refine blk_drew ?_ | refine blk_alloc ?_ _)); exact BK171.out⟩, ⟨by repeat (first | (with_reducible first | exact HB.out | apply below_alloc | apply pw_below_drewN | apply below_drew1 | refine below_set ?_ GE145.out | refine below_set ?_ GE158.out | refine below_set ?_ GE171.out) | exact HB.out)⟩⟩
              · replace c40 := Bool.eq_false_iff.mpr c40
                subst c40
                have H1 : (laws_FnOverlapsParts.j1 kj5 true t136 t137 t138 t139 t140 t143 t149 t150 t151 t152 t153 t156 t162 t163 t164 t165 t166 t169) = some r := by rw [if_neg (show ¬ (false = true) by decide)] at H; exact H
                clear H
                have H := H1
                clear H1
                have H' := Aside0.mk H
                clear H
                go_wp2
                repeat (go_quiet (fail); try go_wp2)
                go_meet
                case rel => exact ⟨_, (true), (by first | rfl | (simp; done) | (simp [*]; done)), H', ⟨by have := HJ5.out; first | omega | exact Nat.le_refl _⟩, ⟨by (with_reducible repeat (first | apply Kd.R_alloc | apply Kd.R_drewN | apply Kd.R_drew)); exact Kd.R_mono (Kd.R_far (p := ⟨gb171, 5, none⟩) (Kd.R_far (p := ⟨gb171, 4, none⟩) (Kd.R_far (p := ⟨gb171, 3, none⟩) (Kd.R_far (p := ⟨gb171, 2, none⟩) (Kd.R_far (p := ⟨gb171, 1, none⟩) (Kd.R_far (p := ⟨gb171, 0, none⟩) (Kd.R_types HO142.out BK171.out (by decide)) (fun _ hk => hk.2) (.int .i64 t162)) (fun _ hk => hk.2) (.int .i64 t163)) (fun _ hk => hk.2) (.int .i64 t164)) (fun _ hk => hk.2) (.bool t165)) (fun _ hk => hk.2) (.slice Ao38 t166.length co38)) (fun _ hk => hk.2) (.int .i64 t169)) (fun _ hk => ⟨hk.1.1.2, hk.1.2⟩)⟩, ⟨by (with_reducible repeat (first | apply Kd.R_alloc | apply Kd.R_drewN | apply Kd.R_drew)); exact Kd.R_mono (Kd.R_far (p := ⟨gb171, 5, none⟩) (Kd.R_far (p := ⟨gb171, 4, none⟩) (Kd.R_far (p := ⟨gb171, 3, none⟩) (Kd.R_far (p := ⟨gb171, 2, none⟩) (Kd.R_far (p := ⟨gb171, 1, none⟩) (Kd.R_far (p := ⟨gb171, 0, none⟩) (Kd.R_types HO155.out BK171.out (by decide)) (fun _ hk => hk.2) (.int .i64 t162)) (fun _ hk => hk.2) (.int .i64 t163)) (fun _ hk => hk.2) (.int .i64 t164)) (fun _ hk => hk.2) (.bool t165)) (fun _ hk => hk.2) (.slice Ao38 t166.length co38)) (fun _ hk => hk.2) (.int .i64 t169)) (fun _ hk => ⟨hk.1.1.2, hk.1.2⟩)⟩, ⟨by (with_reducible repeat (first | apply Kd.R_alloc | apply Kd.R_drewN | apply Kd.R_drew)); exact Kd.R_mono (Kd.R_far (p := ⟨gb171, 5, none⟩) (Kd.R_far (p := ⟨gb171, 4, none⟩) (Kd.R_far (p := ⟨gb171, 3, none⟩) (Kd.R_far (p := ⟨gb171, 2, none⟩) (Kd.R_far (p := ⟨gb171, 1, none⟩) (Kd.R_far (p := ⟨gb171, 0, none⟩) (Kd.R_types HO168.out BK171.out (by decide)) (fun _ hk => hk.2) (.int .i64 t162)) (fun _ hk => hk.2) (.int .i64 t163)) (fun _ hk => hk.2) (.int .i64 t164)) (fun _ hk => hk.2) (.bool t165)) (fun _ hk => hk.2) (.slice Ao38 t166.length co38)) (fun _ hk => hk.2) (.int .i64 t169)) (fun _ hk => ⟨hk.1.1.2, hk.1.2⟩)⟩, ⟨by (with_reducible repeat (first | refine blk_drewN ?_ _ | refine blk_drew ?_ | refine blk_alloc ?_ _)); refine blk_far ?_ NB145_171.out _; (with_reducible repeat (first | refine blk_drewN ?_ _ | refine blk_drew ?_ | refine blk_alloc ?_ _)); refine blk_far ?_ NB145_171.out _; (with_reducible repeat (first | refine blk_drewN ?_ _ | refine blk_drew ?_ | refine blk_alloc ?_ _)); refine blk_far ?_ NB145_171.out _; (with_reducible repeat (first | refine blk_drewN ?_ _ | refine blk_drew ?_ | refine blk_alloc ?_ _)); refine blk_far ?_ NB145_171.out _; (with_reducible repeat (first | refine blk_drewN ?_ _ | refine blk_drew ?_ | refine blk_alloc ?_ _)); refine blk_far ?_ NB145_171.out _; (with_reducible repeat (first | refine blk_drewN ?_ _ | refine blk_drew ?_ | refine blk_alloc ?_ _)); refine blk_far ?_ NB145_171.out _; (with_reducible repeat (first | refine blk_drewN ?_ _ | refine blk_drew ?_ | refine blk_alloc ?_ _)); exact BK145.out⟩, ⟨by (with_reducible repeat (first | refine blk_drewN ?_ _ | refine blk_drew ?_ | refine blk_alloc ?_ _)); refine blk_far ?_ NB158_171.out _; (with_reducible repeat (first | refine blk_drewN ?_ _ | refine blk_drew ?_ | refine blk_alloc ?_ _)); refine blk_far ?_ NB158_171.out _; (with_reducible repeat (first | refine blk_drewN ?_ _ | refine blk_drew ?_ | refine blk_alloc ?_ _)); refine blk_far ?_ NB158_171.out _; (with_reducible repeat (first | refine blk_drewN ?_ _ | refine blk_drew ?_ | refine blk_alloc ?_ _)); refine blk_far ?_ NB158_171.out _; (with_reducible repeat (first | refine blk_drewN ?_ _ | refine blk_drew ?_ | refine blk_alloc ?_ _)); refine blk_far ?_ NB158_171.out _; (with_reducible repeat (first | refine blk_drewN ?_ _ | refine blk_drew ?_ | refine blk_alloc ?_ _)); refine blk_far ?_ NB158_171.out _; (with_reducible repeat (first | refine blk_drewN ?_ _ | refine blk_drew ?_ | refine blk_alloc ?_ _)); exact BK158.out⟩, ⟨by (with_reducible repeat (first | refine blk_drewN ?_ _ | refine blk_drew ?_ | refine blk_alloc ?_ _)); refine blk_put (cs := #[.int .i64 t162, .int .i64 t163, .int .i64 t164, .bool t165, .slice Ao38 t166.length co38, .int .i64 0]) ?_ 5 _ rfl; (with_reducible repeat (first | refine blk_drewN ?_ _ | refine blk_drew ?_ | refine blk_alloc ?_ _)); refine blk_put (cs := #[.int .i64 t162, .int .i64 t163, .int .i64 t164, .bool t165, .slice none 0 0, .int .i64 0]) ?_ 4 _ rfl; (with_reducible repeat (first | refine blk_drewN ?_ _ | refine blk_drew ?_ | refine blk_alloc ?_ _)); refine blk_put (cs := #[.int .i64 t162, .int .i64 t163, .int .i64 t164, .bool false, .slice none 0 0, .int .i64 0]) ?_ 3 _ rfl; (with_reducible repeat (first | refine blk_drewN ?_ _ | refine blk_drew ?_ | refine blk_alloc ?_ _)); refine blk_put (cs := #[.int .i64 t162, .int .i64 t163, .int .i64 0, .bool false, .slice none 0 0, .int .i64 0]) ?_ 2 _ rfl; (with_reducible repeat (first | refine blk_drewN ?_ _ | refine blk_drew ?_ | refine blk_alloc ?_ _)); refine blk_put (cs := #[.int .i64 t162, .int .i64 0, .int .i64 0, .bool false, .slice none 0 0, .int .i64 0]) ?_ 1 _ rfl; (with_reducible repeat (first | refine blk_drewN ?_ _ | refine blk_drew ?_ | refine blk_alloc ?_ _)); refine blk_put (cs := #[.int .i64 0, .int .i64 0, .int .i64 0, .bool false, .slice none 0 0, .int .i64 0]) ?_ 0 _ rfl; (with_reducible repeat (first | refine blk_drewN ?_ _ | refine blk_drew ?_ | refine blk_alloc ?_ _)); exact BK171.out⟩, ⟨by repeat (first | (with_reducible first | exact HB.out | apply below_alloc | apply pw_below_drewN | apply below_drew1 | refine below_set ?_ GE145.out | refine below_set ?_ GE158.out | refine below_set ?_ GE171.out) | exact HB.out)⟩⟩
            · replace c39 := Bool.eq_false_iff.mpr c39
              subst c39
              have H1 : (laws_FnOverlapsParts.j1 kj5 true t136 t137 t138 t139 t140 t143 t149 t150 t151 t152 t153 t156 t162 t163 t164 t165 t166 t169) = some r := by rw [if_neg (show ¬ (false = true) by decide)] at H; exact H
              clear H
              have H := H1
              clear H1
              have H' := Aside0.mk H
              clear H
              go_wp2
              repeat (go_quiet (fail); try go_wp2)
              go_meet
              case rel => exact ⟨_, (true), (by first | rfl | (simp; done) | (simp [*]; done)), H', ⟨by have := HJ5.out; first | omega | exact Nat.le_refl _⟩, ⟨by (with_reducible repeat (first | apply Kd.R_alloc | apply Kd.R_drewN | apply Kd.R_drew)); exact Kd.R_mono (Kd.R_far (p := ⟨gb171, 5, none⟩) (Kd.R_far (p := ⟨gb171, 4, none⟩) (Kd.R_far (p := ⟨gb171, 3, none⟩) (Kd.R_far (p := ⟨gb171, 2, none⟩) (Kd.R_far (p := ⟨gb171, 1, none⟩) (Kd.R_far (p := ⟨gb171, 0, none⟩) (Kd.R_types HO142.out BK171.out (by decide)) (fun _ hk => hk.2) (.int .i64 t162)) (fun _ hk => hk.2) (.int .i64 t163)) (fun _ hk => hk.2) (.int .i64 t164)) (fun _ hk => hk.2) (.bool t165)) (fun _ hk => hk.2) (.slice Ao38 t166.length co38)) (fun _ hk => hk.2) (.int .i64 t169)) (fun _ hk => ⟨hk.1.1.2, hk.1.2⟩)⟩, ⟨by (with_reducible repeat (first | apply Kd.R_alloc | apply Kd.R_drewN | apply Kd.R_drew)); exact Kd.R_mono (Kd.R_far (p := ⟨gb171, 5, none⟩) (Kd.R_far (p := ⟨gb171, 4, none⟩) (Kd.R_far (p := ⟨gb171, 3, none⟩) (Kd.R_far (p := ⟨gb171, 2, none⟩) (Kd.R_far (p := ⟨gb171, 1, none⟩) (Kd.R_far (p := ⟨gb171, 0, none⟩) (Kd.R_types HO155.out BK171.out (by decide)) (fun _ hk => hk.2) (.int .i64 t162)) (fun _ hk => hk.2) (.int .i64 t163)) (fun _ hk => hk.2) (.int .i64 t164)) (fun _ hk => hk.2) (.bool t165)) (fun _ hk => hk.2) (.slice Ao38 t166.length co38)) (fun _ hk => hk.2) (.int .i64 t169)) (fun _ hk => ⟨hk.1.1.2, hk.1.2⟩)⟩, ⟨by (with_reducible repeat (first | apply Kd.R_alloc | apply Kd.R_drewN | apply Kd.R_drew)); exact Kd.R_mono (Kd.R_far (p := ⟨gb171, 5, none⟩) (Kd.R_far (p := ⟨gb171, 4, none⟩) (Kd.R_far (p := ⟨gb171, 3, none⟩) (Kd.R_far (p := ⟨gb171, 2, none⟩) (Kd.R_far (p := ⟨gb171, 1, none⟩) (Kd.R_far (p := ⟨gb171, 0, none⟩) (Kd.R_types HO168.out BK171.out (by decide)) (fun _ hk => hk.2) (.int .i64 t162)) (fun _ hk => hk.2) (.int .i64 t163)) (fun _ hk => hk.2) (.int .i64 t164)) (fun _ hk => hk.2) (.bool t165)) (fun _ hk => hk.2) (.slice Ao38 t166.length co38)) (fun _ hk => hk.2) (.int .i64 t169)) (fun _ hk => ⟨hk.1.1.2, hk.1.2⟩)⟩, ⟨by (with_reducible repeat (first | refine blk_drewN ?_ _ | refine blk_drew ?_ | refine blk_alloc ?_ _)); refine blk_far ?_ NB145_171.out _; (with_reducible repeat (first | refine blk_drewN ?_ _ | refine blk_drew ?_ | refine blk_alloc ?_ _)); refine blk_far ?_ NB145_171.out _; (with_reducible repeat (first | refine blk_drewN ?_ _ | refine blk_drew ?_ | refine blk_alloc ?_ _)); refine blk_far ?_ NB145_171.out _; (with_reducible repeat (first | refine blk_drewN ?_ _ | refine blk_drew ?_ | refine blk_alloc ?_ _)); refine blk_far ?_ NB145_171.out _; (with_reducible repeat (first | refine blk_drewN ?_ _ | refine blk_drew ?_ | refine blk_alloc ?_ _)); refine blk_far ?_ NB145_171.out _; (with_reducible repeat (first | refine blk_drewN ?_ _ | refine blk_drew ?_ | refine blk_alloc ?_ _)); refine blk_far ?_ NB145_171.out _; (with_reducible repeat (first | refine blk_drewN ?_ _ | refine blk_drew ?_ | refine blk_alloc ?_ _)); exact BK145.out⟩, ⟨by (with_reducible repeat (first | refine blk_drewN ?_ _ | refine blk_drew ?_ | refine blk_alloc ?_ _)); refine blk_far ?_ NB158_171.out _; (with_reducible repeat (first | refine blk_drewN ?_ _ | refine blk_drew ?_ | refine blk_alloc ?_ _)); refine blk_far ?_ NB158_171.out _; (with_reducible repeat (first | refine blk_drewN ?_ _ | refine blk_drew ?_ | refine blk_alloc ?_ _)); refine blk_far ?_ NB158_171.out _; (with_reducible repeat (first | refine blk_drewN ?_ _ | refine blk_drew ?_ | refine blk_alloc ?_ _)); refine blk_far ?_ NB158_171.out _; (with_reducible repeat (first | refine blk_drewN ?_ _ | refine blk_drew ?_ | refine blk_alloc ?_ _)); refine blk_far ?_ NB158_171.out _; (with_reducible repeat (first | refine blk_drewN ?_ _ | refine blk_drew ?_ | refine blk_alloc ?_ _)); refine blk_far ?_ NB158_171.out _; (with_reducible repeat (first | refine blk_drewN ?_ _ | refine blk_drew ?_ | refine blk_alloc ?_ _)); exact BK158.out⟩, ⟨by (with_reducible repeat (first | refine blk_drewN ?_ _ | refine blk_drew ?_ | refine blk_alloc ?_ _)); refine blk_put (cs := #[.int .i64 t162, .int .i64 t163, .int .i64 t164, .bool t165, .slice Ao38 t166.length co38, .int .i64 0]) ?_ 5 _ rfl; (with_reducible repeat (first | refine blk_drewN ?_ _ | refine blk_drew ?_ | refine blk_alloc ?_ _)); refine blk_put (cs := #[.int .i64 t162, .int .i64 t163, .int .i64 t164, .bool t165, .slice none 0 0, .int .i64 0]) ?_ 4 _ rfl; (with_reducible repeat (first | refine blk_drewN ?_ _ | refine blk_drew ?_ | refine blk_alloc ?_ _)); refine blk_put (cs := #[.int .i64 t162, .int .i64 t163, .int .i64 t164, .bool false, .slice none 0 0, .int .i64 0]) ?_ 3 _ rfl; (with_reducible repeat (first | refine blk_drewN ?_ _ | refine blk_drew ?_ | refine blk_alloc ?_ _)); refine blk_put (cs := #[.int .i64 t162, .int .i64 t163, .int .i64 0, .bool false, .slice none 0 0, .int .i64 0]) ?_ 2 _ rfl; (with_reducible repeat (first | refine blk_drewN ?_ _ | refine blk_drew ?_ | refine blk_alloc ?_ _)); refine blk_put (cs := #[.int .i64 t162, .int .i64 0, .int .i64 0, .bool false, .slice none 0 0, .int .i64 0]) ?_ 1 _ rfl; (with_reducible repeat (first | refine blk_drewN ?_ _ | refine blk_drew ?_ | refine blk_alloc ?_ _)); refine blk_put (cs := #[.int .i64 0, .int .i64 0, .int .i64 0, .bool false, .slice none 0 0, .int .i64 0]) ?_ 0 _ rfl; (with_reducible repeat (first | refine blk_drewN ?_ _ | refine blk_drew ?_ | refine blk_alloc ?_ _)); exact BK171.out⟩, ⟨by repeat (first | (with_reducible first | exact HB.out | apply below_alloc | apply pw_below_drewN | apply below_drew1 | refine below_set ?_ GE145.out | refine below_set ?_ GE158.out | refine below_set ?_ GE171.out) | exact HB.out)⟩⟩
          case rest =>
            clear HC14
            try clear c1
            try clear c2
            try clear p2
            try clear c3
            try clear c4
            try clear c5
            try clear c5b0
            try clear c5b1
            try clear c7
            try clear c8
            try clear c9
            try clear c9b0
            try clear c10
            try clear c27
            try clear c35
            try clear c36
            try clear c39
            try clear c40
            try clear hcz20_0
            try clear hcz20_1
            try clear hcz20_2
            try clear hcz20_3
            try clear hcz20_4
            try clear hcz20_5
            try clear hcz28_0
            try clear hcz28_1
            try clear hcz28_2
            try clear hcz28_3
            try clear hcz28_4
            try clear hcz28_5
            try clear hcz37_0
            try clear hcz37_1
            try clear hcz37_2
            try clear hcz37_3
            try clear hcz37_4
            try clear hcz37_5
            try clear hfz20_0
            try clear hfz20_1
            try clear hfz20_2
            try clear hfz20_3
            try clear hfz20_4
            try clear hfz20_5
            try clear hfz28_0
            try clear hfz28_1
            try clear hfz28_2
            try clear hfz28_3
            try clear hfz28_4
            try clear hfz28_5
            try clear hfz37_0
            try clear hfz37_1
            try clear hfz37_2
            try clear hfz37_3
            try clear hfz37_4
            try clear hfz37_5
            try clear p2
            obtain ⟨kq, x72_13, rfl, HA, HJ13, HO_146004, HO_159004, HO_172004, BK145, BK158, BK171, HB⟩ := hcut
            cases kq with
            | zero => exact absurd HA.out (by simp [laws_FnOverlapsParts.j1])
            | succ kj13 =>
              have H := HA.out
              clear HA
              simp only [laws_FnOverlapsParts.j1] at H
              by_cases c41 : x72_13 = true
              · subst c41
                have H1 : (some false) = some r := by rw [if_pos rfl] at H; exact H
                clear H
                have H := H1
                clear H1
                obtain rfl := Option.some.inj H
                go_wp2
                repeat (go_quiet (fail); try go_wp2)
                go_ret
                exact ⟨by first | rfl | (simp [errW_none, errW_some] <;> rfl) | (simp [*, errW_none, errW_some] <;> rfl), by repeat (first | (with_reducible first | exact HB.out | apply below_alloc | apply pw_below_drewN | apply below_drew1 | refine below_set ?_ GE145.out | refine below_set ?_ GE158.out | refine below_set ?_ GE171.out) | exact HB.out)⟩
              · replace c41 := Bool.eq_false_iff.mpr c41
                subst c41
                have H1 : (laws_FnOverlapsParts.l0 kj13 0 0 0 t136 t137 t138 t139 t140 t143 t149 t150 t151 t152 t153 t156 t162 t163 t164 t165 t166 t169) = some r := by rw [if_neg (show ¬ (false = true) by decide)] at H; exact H
                clear H
                have H := H1
                clear H1
                have H' := Aside0.mk H
                clear H
                go_wp2
                repeat (go_quiet (fail); try go_wp2)
                go_loopg [15, 16, 17] kj13 (fun kq v15 v16 v17 w' => ∃ (x15_3 : Int) (x16_3 : Int) (x17_3 : Int), v15 = .int .i64 x15_3 ∧ v16 = .int .i64 x16_3 ∧ v17 = .int .i64 x17_3 ∧ Aside0 (laws_FnOverlapsParts.l0 kq x15_3 x16_3 x17_3 t136 t137 t138 t139 t140 t143 t149 t150 t151 t152 t153 t156 t162 t163 t164 t165 t166 t169 = some r) ∧ Aside0 (kq ≤ kj13) ∧ Aside0 (Kd.R k29 29 w' w.heap.size (fun k_ => some k_ ≠ ((.slice Ao29 t153.length co29) : Value).ownBlock ∧ some k_ ≠ ((.slice Ao38 t166.length co38) : Value).ownBlock) (.slice Ao21 t140.length co21) t140) ∧ Aside0 (Kd.R k29 29 w' w.heap.size (fun k_ => some k_ ≠ ((.slice Ao21 t140.length co21) : Value).ownBlock ∧ some k_ ≠ ((.slice Ao38 t166.length co38) : Value).ownBlock) (.slice Ao29 t153.length co29) t153) ∧ Aside0 (Kd.R k29 29 w' w.heap.size (fun k_ => some k_ ≠ ((.slice Ao21 t140.length co21) : Value).ownBlock ∧ some k_ ≠ ((.slice Ao29 t153.length co29) : Value).ownBlock) (.slice Ao38 t166.length co38) t166) ∧ Aside0 (w'.heap[gb145]? = some (.cells #[.int .i64 t136, .int .i64 t137, .int .i64 t138, .bool t139, (.slice Ao21 t140.length co21), .int .i64 t143] 32 (0, 0))) ∧ Aside0 (w'.heap[gb158]? = some (.cells #[.int .i64 t149, .int .i64 t150, .int .i64 t151, .bool t152, (.slice Ao29 t153.length co29), .int .i64 t156] 32 (0, 0))) ∧ Aside0 (w'.heap[gb171]? = some (.cells #[.int .i64 t162, .int .i64 t163, .int .i64 t164, .bool t165, (.slice Ao38 t166.length co38), .int .i64 t169] 32 (0, 0))) ∧ Aside0 (Below w.heap.size w w'))
                case atStart => exact ⟨(0), (0), (0), (by first | rfl | (simp; done) | (simp [*]; done)), (by first | rfl | (simp; done) | (simp [*]; done)), (by first | rfl | (simp; done) | (simp [*]; done)), H', ⟨Nat.le_refl _⟩, ⟨by (with_reducible repeat (first | apply Kd.R_alloc | apply Kd.R_drewN | apply Kd.R_drew)); exact HO_146004.out⟩, ⟨by (with_reducible repeat (first | apply Kd.R_alloc | apply Kd.R_drewN | apply Kd.R_drew)); exact HO_159004.out⟩, ⟨by (with_reducible repeat (first | apply Kd.R_alloc | apply Kd.R_drewN | apply Kd.R_drew)); exact HO_172004.out⟩, ⟨by (with_reducible repeat (first | refine blk_drewN ?_ _ | refine blk_drew ?_ | refine blk_alloc ?_ _)); exact BK145.out⟩, ⟨by (with_reducible repeat (first | refine blk_drewN ?_ _ | refine blk_drew ?_ | refine blk_alloc ?_ _)); exact BK158.out⟩, ⟨by (with_reducible repeat (first | refine blk_drewN ?_ _ | refine blk_drew ?_ | refine blk_alloc ?_ _)); exact BK171.out⟩, ⟨by repeat (first | (with_reducible first | exact HB.out | apply below_alloc | apply pw_below_drewN | apply below_drew1 | refine below_set ?_ GE145.out | refine below_set ?_ GE158.out | refine below_set ?_ GE171.out) | exact HB.out)⟩⟩
                case round =>
                  clear H'
                  try clear c1
                  try clear c2
                  try clear p2
                  try clear c3
                  try clear c4
                  try clear c5
                  try clear c5b0
                  try clear c5b1
                  try clear c7
                  try clear c8
                  try clear c9
                  try clear c9b0
                  try clear c10
                  try clear c27
                  try clear c35
                  try clear c36
                  try clear c39
                  try clear c40
                  try clear c41
                  try clear hcz20_0
                  try clear hcz20_1
                  try clear hcz20_2
                  try clear hcz20_3
                  try clear hcz20_4
                  try clear hcz20_5
                  try clear hcz28_0
                  try clear hcz28_1
                  try clear hcz28_2
                  try clear hcz28_3
                  try clear hcz28_4
                  try clear hcz28_5
                  try clear hcz37_0
                  try clear hcz37_1
                  try clear hcz37_2
                  try clear hcz37_3
                  try clear hcz37_4
                  try clear hcz37_5
                  try clear hfz20_0
                  try clear hfz20_1
                  try clear hfz20_2
                  try clear hfz20_3
                  try clear hfz20_4
                  try clear hfz20_5
                  try clear hfz28_0
                  try clear hfz28_1
                  try clear hfz28_2
                  try clear hfz28_3
                  try clear hfz28_4
                  try clear hfz28_5
                  try clear hfz37_0
                  try clear hfz37_1
                  try clear hfz37_2
                  try clear hfz37_3
                  try clear hfz37_4
                  try clear hfz37_5
                  try clear p2
                  obtain ⟨x15_3, x16_3, x17_3, rfl, rfl, rfl, HA, HK3, HO_146004, HO_159004, HO_172004, BK145, BK158, BK171, HB⟩ := hrel
                  cases gk with
                  | zero => exact absurd HA.out (by simp [laws_FnOverlapsParts.l0])
                  | succ k3 =>
                    have H := HA.out
                    clear HA
                    simp only [laws_FnOverlapsParts.l0] at H
                    by_cases c42 : x17_3 < (t166.length : Int)
                    · rw [if_pos c42] at H
                      have c42b0 : decide (x17_3 < (t166.length : Int)) = true := decide_eq_true c42
                      clear c42
                      have HC43 := Aside0.mk H
                      clear H
                      have hnb44 := NB171_145.out
                      have hnc44 := NB145_171.out
                      have hnb45 := NB171_158.out
                      have hnc45 := NB158_171.out
                      have hcz46_0 : wr.cell? ⟨gb171, 0, none⟩ = some (.int .i64 t162) := (blk_cell BK171.out 0).trans rfl
                      have hcz46_1 : wr.cell? ⟨gb171, 1, none⟩ = some (.int .i64 t163) := (blk_cell BK171.out 1).trans rfl
                      have hcz46_2 : wr.cell? ⟨gb171, 2, none⟩ = some (.int .i64 t164) := (blk_cell BK171.out 2).trans rfl
                      have hcz46_3 : wr.cell? ⟨gb171, 3, none⟩ = some (.bool t165) := (blk_cell BK171.out 3).trans rfl
                      have hcz46_4 : wr.cell? ⟨gb171, 4, none⟩ = some (.slice Ao38 t166.length co38) := (blk_cell BK171.out 4).trans rfl
                      have hcz46_5 : wr.cell? ⟨gb171, 5, none⟩ = some (.int .i64 t169) := (blk_cell BK171.out 5).trans rfl
                      have hfz46_0 := blk_frozen BK171.out 0
                      have hfz46_1 := blk_frozen BK171.out 1
                      have hfz46_2 := blk_frozen BK171.out 2
                      have hfz46_3 := blk_frozen BK171.out 3
                      have hfz46_4 := blk_frozen BK171.out 4
                      have hfz46_5 := blk_frozen BK171.out 5
                      go_upto_region 14 with (fail)
                      repeat (go_quiet (fail); go_upto_region 14 with (fail))
                      go_cut [18] (fun v18 wc => ∃ (kq : Nat) (x18_42 : Bool), v18 = .bool x18_42 ∧ Aside0 (laws_FnOverlapsParts.j3 kq x15_3 x16_3 x17_3 x18_42 t136 t137 t138 t139 t140 t143 t149 t150 t151 t152 t153 t156 t162 t163 t164 t165 t166 t169 = some r) ∧ Aside0 (kq ≤ k3) ∧ Aside0 (Kd.R k29 29 wc w.heap.size (fun k_ => some k_ ≠ ((.slice Ao29 t153.length co29) : Value).ownBlock ∧ some k_ ≠ ((.slice Ao38 t166.length co38) : Value).ownBlock) (.slice Ao21 t140.length co21) t140) ∧ Aside0 (Kd.R k29 29 wc w.heap.size (fun k_ => some k_ ≠ ((.slice Ao21 t140.length co21) : Value).ownBlock ∧ some k_ ≠ ((.slice Ao38 t166.length co38) : Value).ownBlock) (.slice Ao29 t153.length co29) t153) ∧ Aside0 (Kd.R k29 29 wc w.heap.size (fun k_ => some k_ ≠ ((.slice Ao21 t140.length co21) : Value).ownBlock ∧ some k_ ≠ ((.slice Ao29 t153.length co29) : Value).ownBlock) (.slice Ao38 t166.length co38) t166) ∧ Aside0 (wc.heap[gb145]? = some (.cells #[.int .i64 t136, .int .i64 t137, .int .i64 t138, .bool t139, (.slice Ao21 t140.length co21), .int .i64 t143] 32 (0, 0))) ∧ Aside0 (wc.heap[gb158]? = some (.cells #[.int .i64 t149, .int .i64 t150, .int .i64 t151, .bool t152, (.slice Ao29 t153.length co29), .int .i64 t156] 32 (0, 0))) ∧ Aside0 (wc.heap[gb171]? = some (.cells #[.int .i64 t162, .int .i64 t163, .int .i64 t164, .bool t165, (.slice Ao38 t166.length co38), .int .i64 t169] 32 (0, 0))) ∧ Aside0 (Below w.heap.size w wc))
                      case first =>
                        have H := HC43.out
                        clear HC43
                        by_cases c47 : x15_3 < (t140.length : Int)
                        · rw [if_pos c47] at H
                          have c47b0 : decide (x15_3 < (t140.length : Int)) = true := decide_eq_true c47
                          clear c47
                          (first | rw [c47b0] | (simp only [i64_w, i32_w]; rw [c47b0]) | skip)
                          by_cases c48 : 0 ≤ x15_3
                          · rw [if_pos c48] at H
                            have c48b0 : decide (0 ≤ x15_3) = true := decide_eq_true c48
                            clear c48
                            by_cases c49 : 0 ≤ x17_3
                            · rw [if_pos c49] at H
                              have c49b0 : decide (0 ≤ x17_3) = true := decide_eq_true c49
                              clear c49
                              have H' := Aside0.mk H
                              clear H
                              have hnb50 := NB145_158.out
                              have hnc50 := NB158_145.out
                              have hnb51 := NB145_171.out
                              have hnc51 := NB171_145.out
                              have hcz52_0 : wr.cell? ⟨gb145, 0, none⟩ = some (.int .i64 t136) := (blk_cell BK145.out 0).trans rfl
                              have hcz52_1 : wr.cell? ⟨gb145, 1, none⟩ = some (.int .i64 t137) := (blk_cell BK145.out 1).trans rfl
                              have hcz52_2 : wr.cell? ⟨gb145, 2, none⟩ = some (.int .i64 t138) := (blk_cell BK145.out 2).trans rfl
                              have hcz52_3 : wr.cell? ⟨gb145, 3, none⟩ = some (.bool t139) := (blk_cell BK145.out 3).trans rfl
                              have hcz52_4 : wr.cell? ⟨gb145, 4, none⟩ = some (.slice Ao21 t140.length co21) := (blk_cell BK145.out 4).trans rfl
                              have hcz52_5 : wr.cell? ⟨gb145, 5, none⟩ = some (.int .i64 t143) := (blk_cell BK145.out 5).trans rfl
                              have hfz52_0 := blk_frozen BK145.out 0
                              have hfz52_1 := blk_frozen BK145.out 1
                              have hfz52_2 := blk_frozen BK145.out 2
                              have hfz52_3 := blk_frozen BK145.out 3
                              have hfz52_4 := blk_frozen BK145.out 4
                              have hfz52_5 := blk_frozen BK145.out 5
                              have p172 : 0 ≤ (x15_3 : Int) := of_decide_eq_true (by first | (with_reducible assumption) | assumption)
                              have q172 : x15_3 < (t140.length : Int) := of_decide_eq_true (by first | (with_reducible assumption) | assumption)
                              obtain ⟨ad172, e172, hx172_0, hx172_1, hx172_2⟩ := at_T29 (Kd.R_reads' HO_146004.out).2.2 x15_3 p172 q172
                              cases e172
                              replace p172 := eq_true p172
                              replace q172 := eq_true q172
                              have hnb53 := NB171_158.out
                              have hnc53 := NB158_171.out
                              have hcz54_0 : wr.cell? ⟨gb171, 0, none⟩ = some (.int .i64 t162) := (blk_cell BK171.out 0).trans rfl
                              have hcz54_1 : wr.cell? ⟨gb171, 1, none⟩ = some (.int .i64 t163) := (blk_cell BK171.out 1).trans rfl
                              have hcz54_2 : wr.cell? ⟨gb171, 2, none⟩ = some (.int .i64 t164) := (blk_cell BK171.out 2).trans rfl
                              have hcz54_3 : wr.cell? ⟨gb171, 3, none⟩ = some (.bool t165) := (blk_cell BK171.out 3).trans rfl
                              have hcz54_4 : wr.cell? ⟨gb171, 4, none⟩ = some (.slice Ao38 t166.length co38) := (blk_cell BK171.out 4).trans rfl
                              have hcz54_5 : wr.cell? ⟨gb171, 5, none⟩ = some (.int .i64 t169) := (blk_cell BK171.out 5).trans rfl
                              have hfz54_0 := blk_frozen BK171.out 0
                              have hfz54_1 := blk_frozen BK171.out 1
                              have hfz54_2 := blk_frozen BK171.out 2
                              have hfz54_3 := blk_frozen BK171.out 3
                              have hfz54_4 := blk_frozen BK171.out 4
                              have hfz54_5 := blk_frozen BK171.out 5
                              have p173 : 0 ≤ (x17_3 : Int) := of_decide_eq_true (by first | (with_reducible assumption) | assumption)
                              have q173 : x17_3 < (t166.length : Int) := of_decide_eq_true (by first | (with_reducible assumption) | assumption)
                              obtain ⟨ad173, e173, hx173_0, hx173_1, hx173_2⟩ := at_T29 (Kd.R_reads' HO_172004.out).2.2 x17_3 p173 q173
                              cases e173
                              replace p173 := eq_true p173
                              replace q173 := eq_true q173
                              go_wp2
                              repeat (go_quiet (fail); try go_wp2)
                              go_meet
                              case rel => exact ⟨_, ((((rd_T29 t140 x15_3).f0) == ((rd_T29 t166 x17_3).f0) && (((rd_T29 t140 x15_3).f1) == ((rd_T29 t166 x17_3).f1) && (((rd_T29 t140 x15_3).f2) == ((rd_T29 t166 x17_3).f2))))), (by first | rfl | (simp; done) | (simp [*]; done)), H', ⟨by have := HJ5.out; have := HJ13.out; have := HK3.out; first | omega | exact Nat.le_refl _⟩, ⟨by (with_reducible repeat (first | apply Kd.R_alloc | apply Kd.R_drewN | apply Kd.R_drew)); exact HO_146004.out⟩, ⟨by (with_reducible repeat (first | apply Kd.R_alloc | apply Kd.R_drewN | apply Kd.R_drew)); exact HO_159004.out⟩, ⟨by (with_reducible repeat (first | apply Kd.R_alloc | apply Kd.R_drewN | apply Kd.R_drew)); exact HO_172004.out⟩, ⟨by (with_reducible repeat (first | refine blk_drewN ?_ _ | refine blk_drew ?_ | refine blk_alloc ?_ _)); exact BK145.out⟩, ⟨by (with_reducible repeat (first | refine blk_drewN ?_ _ | refine blk_drew ?_ | refine blk_alloc ?_ _)); exact BK158.out⟩, ⟨by (with_reducible repeat (first | refine blk_drewN ?_ _ | refine blk_drew ?_ | refine blk_alloc ?_ _)); exact BK171.out⟩, ⟨by repeat (first | (with_reducible first | exact HB.out | apply below_alloc | apply pw_below_drewN | apply below_drew1 | refine below_set ?_ GE145.out | refine below_set ?_ GE158.out | refine below_set ?_ GE171.out) | exact HB.out)⟩⟩
                            · rw [if_neg c49] at H
                              exact absurd H (by simp)
                          · rw [if_neg c48] at H
                            exact absurd H (by simp)
                        · rw [if_neg c47] at H
                          have c47b0 : decide (x15_3 < (t140.length : Int)) = false := decide_eq_false c47
                          clear c47
                          (first | rw [c47b0] | (simp only [i64_w, i32_w]; rw [c47b0]) | skip)
                          have H' := Aside0.mk H
                          clear H
                          have hnb55 := NB145_158.out
                          have hnc55 := NB158_145.out
                          have hnb56 := NB145_171.out
                          have hnc56 := NB171_145.out
                          have hcz57_0 : wr.cell? ⟨gb145, 0, none⟩ = some (.int .i64 t136) := (blk_cell BK145.out 0).trans rfl
                          have hcz57_1 : wr.cell? ⟨gb145, 1, none⟩ = some (.int .i64 t137) := (blk_cell BK145.out 1).trans rfl
                          have hcz57_2 : wr.cell? ⟨gb145, 2, none⟩ = some (.int .i64 t138) := (blk_cell BK145.out 2).trans rfl
                          have hcz57_3 : wr.cell? ⟨gb145, 3, none⟩ = some (.bool t139) := (blk_cell BK145.out 3).trans rfl
                          have hcz57_4 : wr.cell? ⟨gb145, 4, none⟩ = some (.slice Ao21 t140.length co21) := (blk_cell BK145.out 4).trans rfl
                          have hcz57_5 : wr.cell? ⟨gb145, 5, none⟩ = some (.int .i64 t143) := (blk_cell BK145.out 5).trans rfl
                          have hfz57_0 := blk_frozen BK145.out 0
                          have hfz57_1 := blk_frozen BK145.out 1
                          have hfz57_2 := blk_frozen BK145.out 2
                          have hfz57_3 := blk_frozen BK145.out 3
                          have hfz57_4 := blk_frozen BK145.out 4
                          have hfz57_5 := blk_frozen BK145.out 5
                          go_wp2
                          repeat (go_quiet (fail); try go_wp2)
                          go_meet
                          case rel => exact ⟨_, (false), (by first | rfl | (simp; done) | (simp [*]; done)), H', ⟨by have := HJ5.out; have := HJ13.out; have := HK3.out; first | omega | exact Nat.le_refl _⟩, ⟨by (with_reducible repeat (first | apply Kd.R_alloc | apply Kd.R_drewN | apply Kd.R_drew)); exact HO_146004.out⟩, ⟨by (with_reducible repeat (first | apply Kd.R_alloc | apply Kd.R_drewN | apply Kd.R_drew)); exact HO_159004.out⟩, ⟨by (with_reducible repeat (first | apply Kd.R_alloc | apply Kd.R_drewN | apply Kd.R_drew)); exact HO_172004.out⟩, ⟨by (with_reducible repeat (first | refine blk_drewN ?_ _ | refine blk_drew ?_ | refine blk_alloc ?_ _)); exact BK145.out⟩, ⟨by (with_reducible repeat (first | refine blk_drewN ?_ _ | refine blk_drew ?_ | refine blk_alloc ?_ _)); exact BK158.out⟩, ⟨by (with_reducible repeat (first | refine blk_drewN ?_ _ | refine blk_drew ?_ | refine blk_alloc ?_ _)); exact BK171.out⟩, ⟨by repeat (first | (with_reducible first | exact HB.out | apply below_alloc | apply pw_below_drewN | apply below_drew1 | refine below_set ?_ GE145.out | refine below_set ?_ GE158.out | refine below_set ?_ GE171.out) | exact HB.out)⟩⟩
                      case rest =>
                        clear HC43
                        try clear c1
                        try clear p1
                        try clear q1
                        try clear hx1
                        try clear c2
                        try clear p2
                        try clear c3
                        try clear c4
                        try clear c5
                        try clear c5b0
                        try clear c5b1
                        try clear c7
                        try clear c8
                        try clear c9
                        try clear c9b0
                        try clear c10
                        try clear p17
                        try clear q17
                        try clear hx17
                        try clear c27
                        try clear c35
                        try clear c36
                        try clear c39
                        try clear c40
                        try clear c41
                        try clear c42
                        try clear c42b0
                        try clear c44
                        try clear c45
                        try clear c47
                        try clear c47b0
                        try clear c48
                        try clear c48b0
                        try clear c49
                        try clear c49b0
                        try clear c50
                        try clear c51
                        try clear c53
                        try clear c55
                        try clear c56
                        try clear hcz20_0
                        try clear hcz20_1
                        try clear hcz20_2
                        try clear hcz20_3
                        try clear hcz20_4
                        try clear hcz20_5
                        try clear hcz28_0
                        try clear hcz28_1
                        try clear hcz28_2
                        try clear hcz28_3
                        try clear hcz28_4
                        try clear hcz28_5
                        try clear hcz37_0
                        try clear hcz37_1
                        try clear hcz37_2
                        try clear hcz37_3
                        try clear hcz37_4
                        try clear hcz37_5
                        try clear hcz46_0
                        try clear hcz46_1
                        try clear hcz46_2
                        try clear hcz46_3
                        try clear hcz46_4
                        try clear hcz46_5
                        try clear hcz52_0
                        try clear hcz52_1
                        try clear hcz52_2
                        try clear hcz52_3
                        try clear hcz52_4
                        try clear hcz52_5
                        try clear hcz54_0
                        try clear hcz54_1
                        try clear hcz54_2
                        try clear hcz54_3
                        try clear hcz54_4
                        try clear hcz54_5
                        try clear hcz57_0
                        try clear hcz57_1
                        try clear hcz57_2
                        try clear hcz57_3
                        try clear hcz57_4
                        try clear hcz57_5
                        try clear hfz20_0
                        try clear hfz20_1
                        try clear hfz20_2
                        try clear hfz20_3
                        try clear hfz20_4
                        try clear hfz20_5
                        try clear hfz28_0
                        try clear hfz28_1
                        try clear hfz28_2
                        try clear hfz28_3
                        try clear hfz28_4
                        try clear hfz28_5
                        try clear hfz37_0
                        try clear hfz37_1
                        try clear hfz37_2
                        try clear hfz37_3
                        try clear hfz37_4
                        try clear hfz37_5
                        try clear hfz46_0
                        try clear hfz46_1
                        try clear hfz46_2
                        try clear hfz46_3
                        try clear hfz46_4
                        try clear hfz46_5
                        try clear hfz52_0
                        try clear hfz52_1
                        try clear hfz52_2
                        try clear hfz52_3
                        try clear hfz52_4
                        try clear hfz52_5
                        try clear hfz54_0
                        try clear hfz54_1
                        try clear hfz54_2
                        try clear hfz54_3
                        try clear hfz54_4
                        try clear hfz54_5
                        try clear hfz57_0
                        try clear hfz57_1
                        try clear hfz57_2
                        try clear hfz57_3
                        try clear hfz57_4
                        try clear hfz57_5
                        try clear hx172_0
                        try clear hx172_1
                        try clear hx172_2
                        try clear hx173_0
                        try clear hx173_1
                        try clear hx173_2
                        try clear p172
                        try clear p173
                        try clear p2
                        try clear q172
                        try clear q173
                        obtain ⟨kq, x18_42, rfl, HA, HJ42, HO_146004, HO_159004, HO_172004, BK145, BK158, BK171, HB⟩ := hcut
                        cases kq with
                        | zero => exact absurd HA.out (by simp [laws_FnOverlapsParts.j3])
                        | succ kj42 =>
                          have H := HA.out
                          clear HA
                          simp only [laws_FnOverlapsParts.j3] at H
                          have HC58 := Aside0.mk H
                          clear H
                          go_upto_region 15 with (fail)
                          repeat (go_quiet (fail); go_upto_region 15 with (fail))
                          go_cut [19] (fun v19 wc => ∃ (kq : Nat) (x19_57 : Bool), v19 = .bool x19_57 ∧ Aside0 (laws_FnOverlapsParts.j4 kq x15_3 x16_3 x17_3 x18_42 x19_57 t136 t137 t138 t139 t140 t143 t149 t150 t151 t152 t153 t156 t162 t163 t164 t165 t166 t169 = some r) ∧ Aside0 (kq ≤ kj42) ∧ Aside0 (Kd.R k29 29 wc w.heap.size (fun k_ => some k_ ≠ ((.slice Ao29 t153.length co29) : Value).ownBlock ∧ some k_ ≠ ((.slice Ao38 t166.length co38) : Value).ownBlock) (.slice Ao21 t140.length co21) t140) ∧ Aside0 (Kd.R k29 29 wc w.heap.size (fun k_ => some k_ ≠ ((.slice Ao21 t140.length co21) : Value).ownBlock ∧ some k_ ≠ ((.slice Ao38 t166.length co38) : Value).ownBlock) (.slice Ao29 t153.length co29) t153) ∧ Aside0 (Kd.R k29 29 wc w.heap.size (fun k_ => some k_ ≠ ((.slice Ao21 t140.length co21) : Value).ownBlock ∧ some k_ ≠ ((.slice Ao29 t153.length co29) : Value).ownBlock) (.slice Ao38 t166.length co38) t166) ∧ Aside0 (wc.heap[gb145]? = some (.cells #[.int .i64 t136, .int .i64 t137, .int .i64 t138, .bool t139, (.slice Ao21 t140.length co21), .int .i64 t143] 32 (0, 0))) ∧ Aside0 (wc.heap[gb158]? = some (.cells #[.int .i64 t149, .int .i64 t150, .int .i64 t151, .bool t152, (.slice Ao29 t153.length co29), .int .i64 t156] 32 (0, 0))) ∧ Aside0 (wc.heap[gb171]? = some (.cells #[.int .i64 t162, .int .i64 t163, .int .i64 t164, .bool t165, (.slice Ao38 t166.length co38), .int .i64 t169] 32 (0, 0))) ∧ Aside0 (Below w.heap.size w wc))
                          case first =>
                            have H := HC58.out
                            clear HC58
                            by_cases c59 : x16_3 < (t153.length : Int)
                            · rw [if_pos c59] at H
                              have c59b0 : decide (x16_3 < (t153.length : Int)) = true := decide_eq_true c59
                              clear c59
                              (first | rw [c59b0] | (simp only [i64_w, i32_w]; rw [c59b0]) | skip)
                              by_cases c60 : 0 ≤ x16_3
                              · rw [if_pos c60] at H
                                have c60b0 : decide (0 ≤ x16_3) = true := decide_eq_true c60
                                clear c60
                                by_cases c61 : 0 ≤ x17_3
                                · rw [if_pos c61] at H
                                  have c61b0 : decide (0 ≤ x17_3) = true := decide_eq_true c61
                                  clear c61
                                  by_cases c62 : x17_3 < (t166.length : Int)
                                  · rw [if_pos c62] at H
                                    have c62b0 : decide (x17_3 < (t166.length : Int)) = true := decide_eq_true c62
                                    clear c62
                                    have H' := Aside0.mk H
                                    clear H
                                    have hnb63 := NB158_145.out
                                    have hnc63 := NB145_158.out
                                    have hnb64 := NB158_171.out
                                    have hnc64 := NB171_158.out
                                    have hcz65_0 : wc.cell? ⟨gb158, 0, none⟩ = some (.int .i64 t149) := (blk_cell BK158.out 0).trans rfl
                                    have hcz65_1 : wc.cell? ⟨gb158, 1, none⟩ = some (.int .i64 t150) := (blk_cell BK158.out 1).trans rfl
                                    have hcz65_2 : wc.cell? ⟨gb158, 2, none⟩ = some (.int .i64 t151) := (blk_cell BK158.out 2).trans rfl
                                    have hcz65_3 : wc.cell? ⟨gb158, 3, none⟩ = some (.bool t152) := (blk_cell BK158.out 3).trans rfl
                                    have hcz65_4 : wc.cell? ⟨gb158, 4, none⟩ = some (.slice Ao29 t153.length co29) := (blk_cell BK158.out 4).trans rfl
                                    have hcz65_5 : wc.cell? ⟨gb158, 5, none⟩ = some (.int .i64 t156) := (blk_cell BK158.out 5).trans rfl
                                    have hfz65_0 := blk_frozen BK158.out 0
                                    have hfz65_1 := blk_frozen BK158.out 1
                                    have hfz65_2 := blk_frozen BK158.out 2
                                    have hfz65_3 := blk_frozen BK158.out 3
                                    have hfz65_4 := blk_frozen BK158.out 4
                                    have hfz65_5 := blk_frozen BK158.out 5
                                    have p174 : 0 ≤ (x16_3 : Int) := of_decide_eq_true (by first | (with_reducible assumption) | assumption)
                                    have q174 : x16_3 < (t153.length : Int) := of_decide_eq_true (by first | (with_reducible assumption) | assumption)
                                    obtain ⟨ad174, e174, hx174_0, hx174_1, hx174_2⟩ := at_T29 (Kd.R_reads' HO_159004.out).2.2 x16_3 p174 q174
                                    cases e174
                                    replace p174 := eq_true p174
                                    replace q174 := eq_true q174
                                    have hnb66 := NB171_145.out
                                    have hnc66 := NB145_171.out
                                    have hcz67_0 : wc.cell? ⟨gb171, 0, none⟩ = some (.int .i64 t162) := (blk_cell BK171.out 0).trans rfl
                                    have hcz67_1 : wc.cell? ⟨gb171, 1, none⟩ = some (.int .i64 t163) := (blk_cell BK171.out 1).trans rfl
                                    have hcz67_2 : wc.cell? ⟨gb171, 2, none⟩ = some (.int .i64 t164) := (blk_cell BK171.out 2).trans rfl
                                    have hcz67_3 : wc.cell? ⟨gb171, 3, none⟩ = some (.bool t165) := (blk_cell BK171.out 3).trans rfl
                                    have hcz67_4 : wc.cell? ⟨gb171, 4, none⟩ = some (.slice Ao38 t166.length co38) := (blk_cell BK171.out 4).trans rfl
                                    have hcz67_5 : wc.cell? ⟨gb171, 5, none⟩ = some (.int .i64 t169) := (blk_cell BK171.out 5).trans rfl
                                    have hfz67_0 := blk_frozen BK171.out 0
                                    have hfz67_1 := blk_frozen BK171.out 1
                                    have hfz67_2 := blk_frozen BK171.out 2
                                    have hfz67_3 := blk_frozen BK171.out 3
                                    have hfz67_4 := blk_frozen BK171.out 4
                                    have hfz67_5 := blk_frozen BK171.out 5
                                    have p175 : 0 ≤ (x17_3 : Int) := of_decide_eq_true (by first | (with_reducible assumption) | assumption)
                                    have q175 : x17_3 < (t166.length : Int) := of_decide_eq_true (by first | (with_reducible assumption) | assumption)
                                    obtain ⟨ad175, e175, hx175_0, hx175_1, hx175_2⟩ := at_T29 (Kd.R_reads' HO_172004.out).2.2 x17_3 p175 q175
                                    cases e175
                                    replace p175 := eq_true p175
                                    replace q175 := eq_true q175
                                    go_wp2
                                    repeat (go_quiet (fail); try go_wp2)
                                    go_meet
                                    case rel => exact ⟨_, ((((rd_T29 t153 x16_3).f0) == ((rd_T29 t166 x17_3).f0) && (((rd_T29 t153 x16_3).f1) == ((rd_T29 t166 x17_3).f1) && (((rd_T29 t153 x16_3).f2) == ((rd_T29 t166 x17_3).f2))))), (by first | rfl | (simp; done) | (simp [*]; done)), H', ⟨by have := HJ5.out; have := HJ13.out; have := HK3.out; have := HJ42.out; first | omega | exact Nat.le_refl _⟩, ⟨by (with_reducible repeat (first | apply Kd.R_alloc | apply Kd.R_drewN | apply Kd.R_drew)); exact HO_146004.out⟩, ⟨by (with_reducible repeat (first | apply Kd.R_alloc | apply Kd.R_drewN | apply Kd.R_drew)); exact HO_159004.out⟩, ⟨by (with_reducible repeat (first | apply Kd.R_alloc | apply Kd.R_drewN | apply Kd.R_drew)); exact HO_172004.out⟩, ⟨by (with_reducible repeat (first | refine blk_drewN ?_ _ | refine blk_drew ?_ | refine blk_alloc ?_ _)); exact BK145.out⟩, ⟨by (with_reducible repeat (first | refine blk_drewN ?_ _ | refine blk_drew ?_ | refine blk_alloc ?_ _)); exact BK158.out⟩, ⟨by (with_reducible repeat (first | refine blk_drewN ?_ _ | refine blk_drew ?_ | refine blk_alloc ?_ _)); exact BK171.out⟩, ⟨by repeat (first | (with_reducible first | exact HB.out | apply below_alloc | apply pw_below_drewN | apply below_drew1 | refine below_set ?_ GE145.out | refine below_set ?_ GE158.out | refine below_set ?_ GE171.out) | exact HB.out)⟩⟩
                                  · rw [if_neg c62] at H
                                    exact absurd H (by simp)
                                · rw [if_neg c61] at H
                                  exact absurd H (by simp)
                              · rw [if_neg c60] at H
                                exact absurd H (by simp)
                            · rw [if_neg c59] at H
                              have c59b0 : decide (x16_3 < (t153.length : Int)) = false := decide_eq_false c59
                              clear c59
                              (first | rw [c59b0] | (simp only [i64_w, i32_w]; rw [c59b0]) | skip)
                              have H' := Aside0.mk H
                              clear H
                              have hnb68 := NB158_145.out
                              have hnc68 := NB145_158.out
                              have hnb69 := NB158_171.out
                              have hnc69 := NB171_158.out
                              have hcz70_0 : wc.cell? ⟨gb158, 0, none⟩ = some (.int .i64 t149) := (blk_cell BK158.out 0).trans rfl
                              have hcz70_1 : wc.cell? ⟨gb158, 1, none⟩ = some (.int .i64 t150) := (blk_cell BK158.out 1).trans rfl
                              have hcz70_2 : wc.cell? ⟨gb158, 2, none⟩ = some (.int .i64 t151) := (blk_cell BK158.out 2).trans rfl
                              have hcz70_3 : wc.cell? ⟨gb158, 3, none⟩ = some (.bool t152) := (blk_cell BK158.out 3).trans rfl
                              have hcz70_4 : wc.cell? ⟨gb158, 4, none⟩ = some (.slice Ao29 t153.length co29) := (blk_cell BK158.out 4).trans rfl
                              have hcz70_5 : wc.cell? ⟨gb158, 5, none⟩ = some (.int .i64 t156) := (blk_cell BK158.out 5).trans rfl
                              have hfz70_0 := blk_frozen BK158.out 0
                              have hfz70_1 := blk_frozen BK158.out 1
                              have hfz70_2 := blk_frozen BK158.out 2
                              have hfz70_3 := blk_frozen BK158.out 3
                              have hfz70_4 := blk_frozen BK158.out 4
                              have hfz70_5 := blk_frozen BK158.out 5
                              go_wp2
                              repeat (go_quiet (fail); try go_wp2)
                              go_meet
                              case rel => exact ⟨_, (false), (by first | rfl | (simp; done) | (simp [*]; done)), H', ⟨by have := HJ5.out; have := HJ13.out; have := HK3.out; have := HJ42.out; first | omega | exact Nat.le_refl _⟩, ⟨by (with_reducible repeat (first | apply Kd.R_alloc | apply Kd.R_drewN | apply Kd.R_drew)); exact HO_146004.out⟩, ⟨by (with_reducible repeat (first | apply Kd.R_alloc | apply Kd.R_drewN | apply Kd.R_drew)); exact HO_159004.out⟩, ⟨by (with_reducible repeat (first | apply Kd.R_alloc | apply Kd.R_drewN | apply Kd.R_drew)); exact HO_172004.out⟩, ⟨by (with_reducible repeat (first | refine blk_drewN ?_ _ | refine blk_drew ?_ | refine blk_alloc ?_ _)); exact BK145.out⟩, ⟨by (with_reducible repeat (first | refine blk_drewN ?_ _ | refine blk_drew ?_ | refine blk_alloc ?_ _)); exact BK158.out⟩, ⟨by (with_reducible repeat (first | refine blk_drewN ?_ _ | refine blk_drew ?_ | refine blk_alloc ?_ _)); exact BK171.out⟩, ⟨by repeat (first | (with_reducible first | exact HB.out | apply below_alloc | apply pw_below_drewN | apply below_drew1 | refine below_set ?_ GE145.out | refine below_set ?_ GE158.out | refine below_set ?_ GE171.out) | exact HB.out)⟩⟩
                          case rest =>
                            clear HC58
                            try clear c1
                            try clear p1
                            try clear q1
                            try clear hx1
                            try clear c2
                            try clear p2
                            try clear c3
                            try clear c4
                            try clear c5
                            try clear c5b0
                            try clear c5b1
                            try clear c6
                            try clear c7
                            try clear c8
                            try clear c9
                            try clear c9b0
                            try clear c10
                            try clear p17
                            try clear q17
                            try clear hx17
                            try clear c27
                            try clear c35
                            try clear c36
                            try clear c39
                            try clear c40
                            try clear c41
                            try clear c42
                            try clear c42b0
                            try clear c44
                            try clear c45
                            try clear c47
                            try clear c47b0
                            try clear c48
                            try clear c48b0
                            try clear c49
                            try clear c49b0
                            try clear c50
                            try clear c51
                            try clear c53
                            try clear c55
                            try clear c56
                            try clear c59
                            try clear c59b0
                            try clear c60
                            try clear c60b0
                            try clear c61
                            try clear c61b0
                            try clear c62
                            try clear c62b0
                            try clear c63
                            try clear c64
                            try clear c66
                            try clear c68
                            try clear c69
                            try clear hcz20_0
                            try clear hcz20_1
                            try clear hcz20_2
                            try clear hcz20_3
                            try clear hcz20_4
                            try clear hcz20_5
                            try clear hcz28_0
                            try clear hcz28_1
                            try clear hcz28_2
                            try clear hcz28_3
                            try clear hcz28_4
                            try clear hcz28_5
                            try clear hcz37_0
                            try clear hcz37_1
                            try clear hcz37_2
                            try clear hcz37_3
                            try clear hcz37_4
                            try clear hcz37_5
                            try clear hcz46_0
                            try clear hcz46_1
                            try clear hcz46_2
                            try clear hcz46_3
                            try clear hcz46_4
                            try clear hcz46_5
                            try clear hcz52_0
                            try clear hcz52_1
                            try clear hcz52_2
                            try clear hcz52_3
                            try clear hcz52_4
                            try clear hcz52_5
                            try clear hcz54_0
                            try clear hcz54_1
                            try clear hcz54_2
                            try clear hcz54_3
                            try clear hcz54_4
                            try clear hcz54_5
                            try clear hcz57_0
                            try clear hcz57_1
                            try clear hcz57_2
                            try clear hcz57_3
                            try clear hcz57_4
                            try clear hcz57_5
                            try clear hcz65_0
                            try clear hcz65_1
                            try clear hcz65_2
                            try clear hcz65_3
                            try clear hcz65_4
                            try clear hcz65_5
                            try clear hcz67_0
                            try clear hcz67_1
                            try clear hcz67_2
                            try clear hcz67_3
                            try clear hcz67_4
                            try clear hcz67_5
                            try clear hcz70_0
                            try clear hcz70_1
                            try clear hcz70_2
                            try clear hcz70_3
                            try clear hcz70_4
                            try clear hcz70_5
                            try clear hfz20_0
                            try clear hfz20_1
                            try clear hfz20_2
                            try clear hfz20_3
                            try clear hfz20_4
                            try clear hfz20_5
                            try clear hfz28_0
                            try clear hfz28_1
                            try clear hfz28_2
                            try clear hfz28_3
                            try clear hfz28_4
                            try clear hfz28_5
                            try clear hfz37_0
                            try clear hfz37_1
                            try clear hfz37_2
                            try clear hfz37_3
                            try clear hfz37_4
                            try clear hfz37_5
                            try clear hfz46_0
                            try clear hfz46_1
                            try clear hfz46_2
                            try clear hfz46_3
                            try clear hfz46_4
                            try clear hfz46_5
                            try clear hfz52_0
                            try clear hfz52_1
                            try clear hfz52_2
                            try clear hfz52_3
                            try clear hfz52_4
                            try clear hfz52_5
                            try clear hfz54_0
                            try clear hfz54_1
                            try clear hfz54_2
                            try clear hfz54_3
                            try clear hfz54_4
                            try clear hfz54_5
                            try clear hfz57_0
                            try clear hfz57_1
                            try clear hfz57_2
                            try clear hfz57_3
                            try clear hfz57_4
                            try clear hfz57_5
                            try clear hfz65_0
                            try clear hfz65_1
                            try clear hfz65_2
                            try clear hfz65_3
                            try clear hfz65_4
                            try clear hfz65_5
                            try clear hfz67_0
                            try clear hfz67_1
                            try clear hfz67_2
                            try clear hfz67_3
                            try clear hfz67_4
                            try clear hfz67_5
                            try clear hfz70_0
                            try clear hfz70_1
                            try clear hfz70_2
                            try clear hfz70_3
                            try clear hfz70_4
                            try clear hfz70_5
                            try clear hx172_0
                            try clear hx172_1
                            try clear hx172_2
                            try clear hx173_0
                            try clear hx173_1
                            try clear hx173_2
                            try clear hx174_0
                            try clear hx174_1
                            try clear hx174_2
                            try clear hx175_0
                            try clear hx175_1
                            try clear hx175_2
                            try clear p1
                            try clear p17
                            try clear p172
                            try clear p173
                            try clear p174
                            try clear p175
                            try clear p2
                            try clear q1
                            try clear q17
                            try clear q172
                            try clear q173
                            try clear q174
                            try clear q175
                            obtain ⟨kq, x19_57, rfl, HA, HJ57, HO_146004, HO_159004, HO_172004, BK145, BK158, BK171, HB⟩ := hcut
                            cases kq with
                            | zero => exact absurd HA.out (by simp [laws_FnOverlapsParts.j4])
                            | succ kj57 =>
                              have H := HA.out
                              clear HA
                              simp only [laws_FnOverlapsParts.j4] at H
                              have HC71 := Aside0.mk H
                              clear H
                              go_upto_region 16 with (fail)
                              repeat (go_quiet (fail); go_upto_region 16 with (fail))
                              go_cut [121] (fun v121 wc => ∃ (kq : Nat) (x121_70 : Bool), v121 = .bool x121_70 ∧ Aside0 (laws_FnOverlapsParts.j5 kq x15_3 x16_3 x17_3 x18_42 x19_57 x121_70 t136 t137 t138 t139 t140 t143 t149 t150 t151 t152 t153 t156 t162 t163 t164 t165 t166 t169 = some r) ∧ Aside0 (kq ≤ kj57) ∧ Aside0 (Kd.R k29 29 wc w.heap.size (fun k_ => some k_ ≠ ((.slice Ao29 t153.length co29) : Value).ownBlock ∧ some k_ ≠ ((.slice Ao38 t166.length co38) : Value).ownBlock) (.slice Ao21 t140.length co21) t140) ∧ Aside0 (Kd.R k29 29 wc w.heap.size (fun k_ => some k_ ≠ ((.slice Ao21 t140.length co21) : Value).ownBlock ∧ some k_ ≠ ((.slice Ao38 t166.length co38) : Value).ownBlock) (.slice Ao29 t153.length co29) t153) ∧ Aside0 (Kd.R k29 29 wc w.heap.size (fun k_ => some k_ ≠ ((.slice Ao21 t140.length co21) : Value).ownBlock ∧ some k_ ≠ ((.slice Ao29 t153.length co29) : Value).ownBlock) (.slice Ao38 t166.length co38) t166) ∧ Aside0 (wc.heap[gb145]? = some (.cells #[.int .i64 t136, .int .i64 t137, .int .i64 t138, .bool t139, (.slice Ao21 t140.length co21), .int .i64 t143] 32 (0, 0))) ∧ Aside0 (wc.heap[gb158]? = some (.cells #[.int .i64 t149, .int .i64 t150, .int .i64 t151, .bool t152, (.slice Ao29 t153.length co29), .int .i64 t156] 32 (0, 0))) ∧ Aside0 (wc.heap[gb171]? = some (.cells #[.int .i64 t162, .int .i64 t163, .int .i64 t164, .bool t165, (.slice Ao38 t166.length co38), .int .i64 t169] 32 (0, 0))) ∧ Aside0 (Below w.heap.size w wc))
                              case first =>
                                have H := HC71.out
                                clear HC71
                                by_cases c72 : x18_42 = true
                                · subst c72
                                  have H1 : (laws_FnOverlapsParts.j5 kj57 x15_3 x16_3 x17_3 true x19_57 false t136 t137 t138 t139 t140 t143 t149 t150 t151 t152 t153 t156 t162 t163 t164 t165 t166 t169) = some r := by rw [if_pos rfl] at H; exact H
                                  clear H
                                  have H := H1
                                  clear H1
                                  have H' := Aside0.mk H
                                  clear H
                                  go_wp2
                                  repeat (go_quiet (fail); try go_wp2)
                                  go_meet
                                  case rel => exact ⟨_, (false), (by first | rfl | (simp; done) | (simp [*]; done)), H', ⟨by have := HJ5.out; have := HJ13.out; have := HK3.out; have := HJ42.out; have := HJ57.out; first | omega | exact Nat.le_refl _⟩, ⟨by (with_reducible repeat (first | apply Kd.R_alloc | apply Kd.R_drewN | apply Kd.R_drew)); exact HO_146004.out⟩, ⟨by (with_reducible repeat (first | apply Kd.R_alloc | apply Kd.R_drewN | apply Kd.R_drew)); exact HO_159004.out⟩, ⟨by (with_reducible repeat (first | apply Kd.R_alloc | apply Kd.R_drewN | apply Kd.R_drew)); exact HO_172004.out⟩, ⟨by (with_reducible repeat (first | refine blk_drewN ?_ _ | refine blk_drew ?_ | refine blk_alloc ?_ _)); exact BK145.out⟩, ⟨by (with_reducible repeat (first | refine blk_drewN ?_ _ | refine blk_drew ?_ | refine blk_alloc ?_ _)); exact BK158.out⟩, ⟨by (with_reducible repeat (first | refine blk_drewN ?_ _ | refine blk_drew ?_ | refine blk_alloc ?_ _)); exact BK171.out⟩, ⟨by repeat (first | (with_reducible first | exact HB.out | apply below_alloc | apply pw_below_drewN | apply below_drew1 | refine below_set ?_ GE145.out | refine below_set ?_ GE158.out | refine below_set ?_ GE171.out) | exact HB.out)⟩⟩
                                · replace c72 := Bool.eq_false_iff.mpr c72
                                  subst c72
                                  have H1 : (laws_FnOverlapsParts.j5 kj57 x15_3 x16_3 x17_3 false x19_57 (!x19_57) t136 t137 t138 t139 t140 t143 t149 t150 t151 t152 t153 t156 t162 t163 t164 t165 t166 t169) = some r := by rw [if_neg (show ¬ (false = true) by decide)] at H; exact H
                                  clear H
                                  have H := H1
                                  clear H1
                                  have H' := Aside0.mk H
                                  clear H
                                  go_wp2
                                  repeat (go_quiet (fail); try go_wp2)
                                  go_meet
                                  case rel => exact ⟨_, (!x19_57), (by first | rfl | (simp; done) | (simp [*]; done)), H', ⟨by have := HJ5.out; have := HJ13.out; have := HK3.out; have := HJ42.out; have := HJ57.out; first | omega | exact Nat.le_refl _⟩, ⟨by (with_reducible repeat (first | apply Kd.R_alloc | apply Kd.R_drewN | apply Kd.R_drew)); exact HO_146004.out⟩, ⟨by (with_reducible repeat (first | apply Kd.R_alloc | apply Kd.R_drewN | apply Kd.R_drew)); exact HO_159004.out⟩, ⟨by (with_reducible repeat (first | apply Kd.R_alloc | apply Kd.R_drewN | apply Kd.R_drew)); exact HO_172004.out⟩, ⟨by (with_reducible repeat (first | refine blk_drewN ?_ _ | refine blk_drew ?_ | refine blk_alloc ?_ _)); exact BK145.out⟩, ⟨by (with_reducible repeat (first | refine blk_drewN ?_ _ | refine blk_drew ?_ | refine blk_alloc ?_ _)); exact BK158.out⟩, ⟨by (with_reducible repeat (first | refine blk_drewN ?_ _ | refine blk_drew ?_ | refine blk_alloc ?_ _)); exact BK171.out⟩, ⟨by repeat (first | (with_reducible first | exact HB.out | apply below_alloc | apply pw_below_drewN | apply below_drew1 | refine below_set ?_ GE145.out | refine below_set ?_ GE158.out | refine below_set ?_ GE171.out) | exact HB.out)⟩⟩
                              case rest =>
                                clear HC71
                                try clear c1
                                try clear p1
                                try clear q1
                                try clear hx1
                                try clear c2
                                try clear p2
                                try clear c3
                                try clear c4
                                try clear c5
                                try clear c5b0
                                try clear c5b1
                                try clear c6
                                try clear c7
                                try clear c8
                                try clear c9
                                try clear c9b0
                                try clear c10
                                try clear p17
                                try clear q17
                                try clear hx17
                                try clear c27
                                try clear c35
                                try clear c36
                                try clear c39
                                try clear c40
                                try clear c41
                                try clear c42
                                try clear c42b0
                                try clear c44
                                try clear c45
                                try clear c47
                                try clear c47b0
                                try clear c48
                                try clear c48b0
                                try clear c49
                                try clear c49b0
                                try clear c50
                                try clear c51
                                try clear c53
                                try clear c55
                                try clear c56
                                try clear c59
                                try clear c59b0
                                try clear c60
                                try clear c60b0
                                try clear c61
                                try clear c61b0
                                try clear c62
                                try clear c62b0
                                try clear c63
                                try clear c64
                                try clear c66
                                try clear c68
                                try clear c69
                                try clear c72
                                try clear hcz20_0
                                try clear hcz20_1
                                try clear hcz20_2
                                try clear hcz20_3
                                try clear hcz20_4
                                try clear hcz20_5
                                try clear hcz28_0
                                try clear hcz28_1
                                try clear hcz28_2
                                try clear hcz28_3
                                try clear hcz28_4
                                try clear hcz28_5
                                try clear hcz37_0
                                try clear hcz37_1
                                try clear hcz37_2
                                try clear hcz37_3
                                try clear hcz37_4
                                try clear hcz37_5
                                try clear hcz46_0
                                try clear hcz46_1
                                try clear hcz46_2
                                try clear hcz46_3
                                try clear hcz46_4
                                try clear hcz46_5
                                try clear hcz52_0
                                try clear hcz52_1
                                try clear hcz52_2
                                try clear hcz52_3
                                try clear hcz52_4
                                try clear hcz52_5
                                try clear hcz54_0
                                try clear hcz54_1
                                try clear hcz54_2
                                try clear hcz54_3
                                try clear hcz54_4
                                try clear hcz54_5
                                try clear hcz57_0
                                try clear hcz57_1
                                try clear hcz57_2
                                try clear hcz57_3
                                try clear hcz57_4
                                try clear hcz57_5
                                try clear hcz65_0
                                try clear hcz65_1
                                try clear hcz65_2
                                try clear hcz65_3
                                try clear hcz65_4
                                try clear hcz65_5
                                try clear hcz67_0
                                try clear hcz67_1
                                try clear hcz67_2
                                try clear hcz67_3
                                try clear hcz67_4
                                try clear hcz67_5
                                try clear hcz70_0
                                try clear hcz70_1
                                try clear hcz70_2
                                try clear hcz70_3
                                try clear hcz70_4
                                try clear hcz70_5
                                try clear hfz20_0
                                try clear hfz20_1
                                try clear hfz20_2
                                try clear hfz20_3
                                try clear hfz20_4
                                try clear hfz20_5
                                try clear hfz28_0
                                try clear hfz28_1
                                try clear hfz28_2
                                try clear hfz28_3
                                try clear hfz28_4
                                try clear hfz28_5
                                try clear hfz37_0
                                try clear hfz37_1
                                try clear hfz37_2
                                try clear hfz37_3
                                try clear hfz37_4
                                try clear hfz37_5
                                try clear hfz46_0
                                try clear hfz46_1
                                try clear hfz46_2
                                try clear hfz46_3
                                try clear hfz46_4
                                try clear hfz46_5
                                try clear hfz52_0
                                try clear hfz52_1
                                try clear hfz52_2
                                try clear hfz52_3
                                try clear hfz52_4
                                try clear hfz52_5
                                try clear hfz54_0
                                try clear hfz54_1
                                try clear hfz54_2
                                try clear hfz54_3
                                try clear hfz54_4
                                try clear hfz54_5
                                try clear hfz57_0
                                try clear hfz57_1
                                try clear hfz57_2
                                try clear hfz57_3
                                try clear hfz57_4
                                try clear hfz57_5
                                try clear hfz65_0
                                try clear hfz65_1
                                try clear hfz65_2
                                try clear hfz65_3
                                try clear hfz65_4
                                try clear hfz65_5
                                try clear hfz67_0
                                try clear hfz67_1
                                try clear hfz67_2
                                try clear hfz67_3
                                try clear hfz67_4
                                try clear hfz67_5
                                try clear hfz70_0
                                try clear hfz70_1
                                try clear hfz70_2
                                try clear hfz70_3
                                try clear hfz70_4
                                try clear hfz70_5
                                try clear hx172_0
                                try clear hx172_1
                                try clear hx172_2
                                try clear hx173_0
                                try clear hx173_1
                                try clear hx173_2
                                try clear hx174_0
                                try clear hx174_1
                                try clear hx174_2
                                try clear hx175_0
                                try clear hx175_1
                                try clear hx175_2
                                try clear p1
                                try clear p17
                                try clear p172
                                try clear p173
                                try clear p174
                                try clear p175
                                try clear p2
                                try clear q1
                                try clear q17
                                try clear q172
                                try clear q173
                                try clear q174
                                try clear q175
                                obtain ⟨kq, x121_70, rfl, HA, HJ70, HO_146004, HO_159004, HO_172004, BK145, BK158, BK171, HB⟩ := hcut
                                cases kq with
                                | zero => exact absurd HA.out (by simp [laws_FnOverlapsParts.j5])
                                | succ kj70 =>
                                  have H := HA.out
                                  clear HA
                                  simp only [laws_FnOverlapsParts.j5] at H
                                  by_cases c73 : x121_70 = true
                                  · subst c73
                                    have H1 : (some false) = some r := by rw [if_pos rfl] at H; exact H
                                    clear H
                                    have H := H1
                                    clear H1
                                    obtain rfl := Option.some.inj H
                                    go_wp2
                                    repeat (go_quiet (fail); try go_wp2)
                                    go_ret
                                    exact ⟨by first | rfl | (simp [errW_none, errW_some] <;> rfl) | (simp [*, errW_none, errW_some] <;> rfl), by repeat (first | (with_reducible first | exact HB.out | apply below_alloc | apply pw_below_drewN | apply below_drew1 | refine below_set ?_ GE145.out | refine below_set ?_ GE158.out | refine below_set ?_ GE171.out) | exact HB.out)⟩
                                  · replace c73 := Bool.eq_false_iff.mpr c73
                                    subst c73
                                    have H1 : (if x18_42 = true then (if x19_57 = true then (laws_FnOverlapsParts.l0 kj70 (wrap64 (x15_3 + 1)) (wrap64 (x16_3 + 1)) (wrap64 (x17_3 + 1)) t136 t137 t138 t139 t140 t143 t149 t150 t151 t152 t153 t156 t162 t163 t164 t165 t166 t169) else (laws_FnOverlapsParts.l0 kj70 (wrap64 (x15_3 + 1)) x16_3 (wrap64 (x17_3 + 1)) t136 t137 t138 t139 t140 t143 t149 t150 t151 t152 t153 t156 t162 t163 t164 t165 t166 t169)) else (if x19_57 = true then (laws_FnOverlapsParts.l0 kj70 x15_3 (wrap64 (x16_3 + 1)) (wrap64 (x17_3 + 1)) t136 t137 t138 t139 t140 t143 t149 t150 t151 t152 t153 t156 t162 t163 t164 t165 t166 t169) else (laws_FnOverlapsParts.l0 kj70 x15_3 x16_3 (wrap64 (x17_3 + 1)) t136 t137 t138 t139 t140 t143 t149 t150 t151 t152 t153 t156 t162 t163 t164 t165 t166 t169))) = some r := by rw [if_neg (show ¬ (false = true) by decide)] at H; exact H
                                    clear H
                                    have H := H1
                                    clear H1
                                    by_cases c74 : x18_42 = true
                                    · subst c74
                                      have H1 : (if x19_57 = true then (laws_FnOverlapsParts.l0 kj70 (wrap64 (x15_3 + 1)) (wrap64 (x16_3 + 1)) (wrap64 (x17_3 + 1)) t136 t137 t138 t139 t140 t143 t149 t150 t151 t152 t153 t156 t162 t163 t164 t165 t166 t169) else (laws_FnOverlapsParts.l0 kj70 (wrap64 (x15_3 + 1)) x16_3 (wrap64 (x17_3 + 1)) t136 t137 t138 t139 t140 t143 t149 t150 t151 t152 t153 t156 t162 t163 t164 t165 t166 t169)) = some r := by rw [if_pos rfl] at H; exact H
                                      clear H
                                      have H := H1
                                      clear H1
                                      by_cases c75 : x19_57 = true
                                      · subst c75
                                        have H1 : (laws_FnOverlapsParts.l0 kj70 (wrap64 (x15_3 + 1)) (wrap64 (x16_3 + 1)) (wrap64 (x17_3 + 1)) t136 t137 t138 t139 t140 t143 t149 t150 t151 t152 t153 t156 t162 t163 t164 t165 t166 t169) = some r := by rw [if_pos rfl] at H; exact H
                                        clear H
                                        have H := H1
                                        clear H1
                                        have H' := Aside0.mk H
                                        clear H
                                        go_wp2
                                        repeat (go_quiet (fail); try go_wp2)
                                        go_roundg kj70
                                        case measure => have := HJ5.out; have := HJ13.out; have := HK3.out; have := HJ42.out; have := HJ57.out; have := HJ70.out; omega
                                        case rel => exact ⟨(wrap64 (x15_3 + 1)), (wrap64 (x16_3 + 1)), (wrap64 (x17_3 + 1)), (by first | rfl | (simp; done) | (simp [*]; done)), (by first | rfl | (simp; done) | (simp [*]; done)), (by first | rfl | (simp; done) | (simp [*]; done)), H', ⟨by have := HJ5.out; have := HJ13.out; have := HK3.out; have := HJ42.out; have := HJ57.out; have := HJ70.out; omega⟩, ⟨by (with_reducible repeat (first | apply Kd.R_alloc | apply Kd.R_drewN | apply Kd.R_drew)); exact HO_146004.out⟩, ⟨by (with_reducible repeat (first | apply Kd.R_alloc | apply Kd.R_drewN | apply Kd.R_drew)); exact HO_159004.out⟩, ⟨by (with_reducible repeat (first | apply Kd.R_alloc | apply Kd.R_drewN | apply Kd.R_drew)); exact HO_172004.out⟩, ⟨by (with_reducible repeat (first | refine blk_drewN ?_ _ | refine blk_drew ?_ | refine blk_alloc ?_ _)); exact BK145.out⟩, ⟨by (with_reducible repeat (first | refine blk_drewN ?_ _ | refine blk_drew ?_ | refine blk_alloc ?_ _)); exact BK158.out⟩, ⟨by (with_reducible repeat (first | refine blk_drewN ?_ _ | refine blk_drew ?_ | refine blk_alloc ?_ _)); exact BK171.out⟩, ⟨by repeat (first | (with_reducible first | exact HB.out | apply below_alloc | apply pw_below_drewN | apply below_drew1 | refine below_set ?_ GE145.out | refine below_set ?_ GE158.out | refine below_set ?_ GE171.out) | exact HB.out)⟩⟩
                                      · replace c75 := Bool.eq_false_iff.mpr c75
                                        subst c75
                                        have H1 : (laws_FnOverlapsParts.l0 kj70 (wrap64 (x15_3 + 1)) x16_3 (wrap64 (x17_3 + 1)) t136 t137 t138 t139 t140 t143 t149 t150 t151 t152 t153 t156 t162 t163 t164 t165 t166 t169) = some r := by rw [if_neg (show ¬ (false = true) by decide)] at H; exact H
                                        clear H
                                        have H := H1
                                        clear H1
                                        have H' := Aside0.mk H
                                        clear H
                                        go_wp2
                                        repeat (go_quiet (fail); try go_wp2)
                                        go_roundg kj70
                                        case measure => have := HJ5.out; have := HJ13.out; have := HK3.out; have := HJ42.out; have := HJ57.out; have := HJ70.out; omega
                                        case rel => exact ⟨(wrap64 (x15_3 + 1)), (x16_3), (wrap64 (x17_3 + 1)), (by first | rfl | (simp; done) | (simp [*]; done)), (by first | rfl | (simp; done) | (simp [*]; done)), (by first | rfl | (simp; done) | (simp [*]; done)), H', ⟨by have := HJ5.out; have := HJ13.out; have := HK3.out; have := HJ42.out; have := HJ57.out; have := HJ70.out; omega⟩, ⟨by (with_reducible repeat (first | apply Kd.R_alloc | apply Kd.R_drewN | apply Kd.R_drew)); exact HO_146004.out⟩, ⟨by (with_reducible repeat (first | apply Kd.R_alloc | apply Kd.R_drewN | apply Kd.R_drew)); exact HO_159004.out⟩, ⟨by (with_reducible repeat (first | apply Kd.R_alloc | apply Kd.R_drewN | apply Kd.R_drew)); exact HO_172004.out⟩, ⟨by (with_reducible repeat (first | refine blk_drewN ?_ _ | refine blk_drew ?_ | refine blk_alloc ?_ _)); exact BK145.out⟩, ⟨by (with_reducible repeat (first | refine blk_drewN ?_ _ | refine blk_drew ?_ | refine blk_alloc ?_ _)); exact BK158.out⟩, ⟨by (with_reducible repeat (first | refine blk_drewN ?_ _ | refine blk_drew ?_ | refine blk_alloc ?_ _)); exact BK171.out⟩, ⟨by repeat (first | (with_reducible first | exact HB.out | apply below_alloc | apply pw_below_drewN | apply below_drew1 | refine below_set ?_ GE145.out | refine below_set ?_ GE158.out | refine below_set ?_ GE171.out) | exact HB.out)⟩⟩
                                    · replace c74 := Bool.eq_false_iff.mpr c74
                                      subst c74
                                      have H1 : (if x19_57 = true then (laws_FnOverlapsParts.l0 kj70 x15_3 (wrap64 (x16_3 + 1)) (wrap64 (x17_3 + 1)) t136 t137 t138 t139 t140 t143 t149 t150 t151 t152 t153 t156 t162 t163 t164 t165 t166 t169) else (laws_FnOverlapsParts.l0 kj70 x15_3 x16_3 (wrap64 (x17_3 + 1)) t136 t137 t138 t139 t140 t143 t149 t150 t151 t152 t153 t156 t162 t163 t164 t165 t166 t169)) = some r := by rw [if_neg (show ¬ (false = true) by decide)] at H; exact H
                                      clear H
                                      have H := H1
                                      clear H1
                                      by_cases c76 : x19_57 = true
                                      · subst c76
                                        have H1 : (laws_FnOverlapsParts.l0 kj70 x15_3 (wrap64 (x16_3 + 1)) (wrap64 (x17_3 + 1)) t136 t137 t138 t139 t140 t143 t149 t150 t151 t152 t153 t156 t162 t163 t164 t165 t166 t169) = some r := by rw [if_pos rfl] at H; exact H
                                        clear H
                                        have H := H1
                                        clear H1
                                        have H' := Aside0.mk H
                                        clear H
                                        go_wp2
                                        repeat (go_quiet (fail); try go_wp2)
                                        go_roundg kj70
                                        case measure => have := HJ5.out; have := HJ13.out; have := HK3.out; have := HJ42.out; have := HJ57.out; have := HJ70.out; omega
                                        case rel => exact ⟨(x15_3), (wrap64 (x16_3 + 1)), (wrap64 (x17_3 + 1)), (by first | rfl | (simp; done) | (simp [*]; done)), (by first | rfl | (simp; done) | (simp [*]; done)), (by first | rfl | (simp; done) | (simp [*]; done)), H', ⟨by have := HJ5.out; have := HJ13.out; have := HK3.out; have := HJ42.out; have := HJ57.out; have := HJ70.out; omega⟩, ⟨by (with_reducible repeat (first | apply Kd.R_alloc | apply Kd.R_drewN | apply Kd.R_drew)); exact HO_146004.out⟩, ⟨by (with_reducible repeat (first | apply Kd.R_alloc | apply Kd.R_drewN | apply Kd.R_drew)); exact HO_159004.out⟩, ⟨by (with_reducible repeat (first | apply Kd.R_alloc | apply Kd.R_drewN | apply Kd.R_drew)); exact HO_172004.out⟩, ⟨by (with_reducible repeat (first | refine blk_drewN ?_ _ | refine blk_drew ?_ | refine blk_alloc ?_ _)); exact BK145.out⟩, ⟨by (with_reducible repeat (first | refine blk_drewN ?_ _ | refine blk_drew ?_ | refine blk_alloc ?_ _)); exact BK158.out⟩, ⟨by (with_reducible repeat (first | refine blk_drewN ?_ _ | refine blk_drew ?_ | refine blk_alloc ?_ _)); exact BK171.out⟩, ⟨by repeat (first | (with_reducible first | exact HB.out | apply below_alloc | apply pw_below_drewN | apply below_drew1 | refine below_set ?_ GE145.out | refine below_set ?_ GE158.out | refine below_set ?_ GE171.out) | exact HB.out)⟩⟩
                                      · replace c76 := Bool.eq_false_iff.mpr c76
                                        subst c76
                                        have H1 : (laws_FnOverlapsParts.l0 kj70 x15_3 x16_3 (wrap64 (x17_3 + 1)) t136 t137 t138 t139 t140 t143 t149 t150 t151 t152 t153 t156 t162 t163 t164 t165 t166 t169) = some r := by rw [if_neg (show ¬ (false = true) by decide)] at H; exact H
                                        clear H
                                        have H := H1
                                        clear H1
                                        have H' := Aside0.mk H
                                        clear H
                                        go_wp2
                                        repeat (go_quiet (fail); try go_wp2)
                                        go_roundg kj70
                                        case measure => have := HJ5.out; have := HJ13.out; have := HK3.out; have := HJ42.out; have := HJ57.out; have := HJ70.out; omega
                                        case rel => exact ⟨(x15_3), (x16_3), (wrap64 (x17_3 + 1)), (by first | rfl | (simp; done) | (simp [*]; done)), (by first | rfl | (simp; done) | (simp [*]; done)), (by first | rfl | (simp; done) | (simp [*]; done)), H', ⟨by have := HJ5.out; have := HJ13.out; have := HK3.out; have := HJ42.out; have := HJ57.out; have := HJ70.out; omega⟩, ⟨by (with_reducible repeat (first | apply Kd.R_alloc | apply Kd.R_drewN | apply Kd.R_drew)); exact HO_146004.out⟩, ⟨by (with_reducible repeat (first | apply Kd.R_alloc | apply Kd.R_drewN | apply Kd.R_drew)); exact HO_159004.out⟩, ⟨by (with_reducible repeat (first | apply Kd.R_alloc | apply Kd.R_drewN | apply Kd.R_drew)); exact HO_172004.out⟩, ⟨by (with_reducible repeat (first | refine blk_drewN ?_ _ | refine blk_drew ?_ | refine blk_alloc ?_ _)); exact BK145.out⟩, ⟨by (with_reducible repeat (first | refine blk_drewN ?_ _ | refine blk_drew ?_ | refine blk_alloc ?_ _)); exact BK158.out⟩, ⟨by (with_reducible repeat (first | refine blk_drewN ?_ _ | refine blk_drew ?_ | refine blk_alloc ?_ _)); exact BK171.out⟩, ⟨by repeat (first | (with_reducible first | exact HB.out | apply below_alloc | apply pw_below_drewN | apply below_drew1 | refine below_set ?_ GE145.out | refine below_set ?_ GE158.out | refine below_set ?_ GE171.out) | exact HB.out)⟩⟩
                    · rw [if_neg c42] at H
                      have c42b0 : decide (x17_3 < (t166.length : Int)) = false := decide_eq_false c42
                      clear c42
                      by_cases c77 : x15_3 = (t140.length : Int)
                      · rw [if_pos c77] at H
                        have c77b0 : (x15_3 == (t140.length : Int)) = true := beq_iff_eq.mpr c77
                        have c77b1 : (x15_3 != (t140.length : Int)) = false := bne_eq_false_iff_eq.mpr c77
                        clear c77
                        obtain rfl := Option.some.inj H
                        have hnb78 := NB171_145.out
                        have hnc78 := NB145_171.out
                        have hnb79 := NB171_158.out
                        have hnc79 := NB158_171.out
                        have hcz80_0 : wr.cell? ⟨gb171, 0, none⟩ = some (.int .i64 t162) := (blk_cell BK171.out 0).trans rfl
                        have hcz80_1 : wr.cell? ⟨gb171, 1, none⟩ = some (.int .i64 t163) := (blk_cell BK171.out 1).trans rfl
                        have hcz80_2 : wr.cell? ⟨gb171, 2, none⟩ = some (.int .i64 t164) := (blk_cell BK171.out 2).trans rfl
                        have hcz80_3 : wr.cell? ⟨gb171, 3, none⟩ = some (.bool t165) := (blk_cell BK171.out 3).trans rfl
                        have hcz80_4 : wr.cell? ⟨gb171, 4, none⟩ = some (.slice Ao38 t166.length co38) := (blk_cell BK171.out 4).trans rfl
                        have hcz80_5 : wr.cell? ⟨gb171, 5, none⟩ = some (.int .i64 t169) := (blk_cell BK171.out 5).trans rfl
                        have hfz80_0 := blk_frozen BK171.out 0
                        have hfz80_1 := blk_frozen BK171.out 1
                        have hfz80_2 := blk_frozen BK171.out 2
                        have hfz80_3 := blk_frozen BK171.out 3
                        have hfz80_4 := blk_frozen BK171.out 4
                        have hfz80_5 := blk_frozen BK171.out 5
                        have hnb81 := NB145_158.out
                        have hnc81 := NB158_145.out
                        have hcz82_0 : wr.cell? ⟨gb145, 0, none⟩ = some (.int .i64 t136) := (blk_cell BK145.out 0).trans rfl
                        have hcz82_1 : wr.cell? ⟨gb145, 1, none⟩ = some (.int .i64 t137) := (blk_cell BK145.out 1).trans rfl
                        have hcz82_2 : wr.cell? ⟨gb145, 2, none⟩ = some (.int .i64 t138) := (blk_cell BK145.out 2).trans rfl
                        have hcz82_3 : wr.cell? ⟨gb145, 3, none⟩ = some (.bool t139) := (blk_cell BK145.out 3).trans rfl
                        have hcz82_4 : wr.cell? ⟨gb145, 4, none⟩ = some (.slice Ao21 t140.length co21) := (blk_cell BK145.out 4).trans rfl
                        have hcz82_5 : wr.cell? ⟨gb145, 5, none⟩ = some (.int .i64 t143) := (blk_cell BK145.out 5).trans rfl
                        have hfz82_0 := blk_frozen BK145.out 0
                        have hfz82_1 := blk_frozen BK145.out 1
                        have hfz82_2 := blk_frozen BK145.out 2
                        have hfz82_3 := blk_frozen BK145.out 3
                        have hfz82_4 := blk_frozen BK145.out 4
                        have hfz82_5 := blk_frozen BK145.out 5
                        have hcz83_0 : wr.cell? ⟨gb158, 0, none⟩ = some (.int .i64 t149) := (blk_cell BK158.out 0).trans rfl
                        have hcz83_1 : wr.cell? ⟨gb158, 1, none⟩ = some (.int .i64 t150) := (blk_cell BK158.out 1).trans rfl
                        have hcz83_2 : wr.cell? ⟨gb158, 2, none⟩ = some (.int .i64 t151) := (blk_cell BK158.out 2).trans rfl
                        have hcz83_3 : wr.cell? ⟨gb158, 3, none⟩ = some (.bool t152) := (blk_cell BK158.out 3).trans rfl
                        have hcz83_4 : wr.cell? ⟨gb158, 4, none⟩ = some (.slice Ao29 t153.length co29) := (blk_cell BK158.out 4).trans rfl
                        have hcz83_5 : wr.cell? ⟨gb158, 5, none⟩ = some (.int .i64 t156) := (blk_cell BK158.out 5).trans rfl
                        have hfz83_0 := blk_frozen BK158.out 0
                        have hfz83_1 := blk_frozen BK158.out 1
                        have hfz83_2 := blk_frozen BK158.out 2
                        have hfz83_3 := blk_frozen BK158.out 3
                        have hfz83_4 := blk_frozen BK158.out 4
                        have hfz83_5 := blk_frozen BK158.out 5
                        go_wp2
                        repeat (go_quiet (fail); try go_wp2)
                        go_ret
                        exact ⟨by first | rfl | (simp [errW_none, errW_some] <;> rfl) | (simp [*, errW_none, errW_some] <;> rfl), by repeat (first | (with_reducible first | exact HB.out | apply below_alloc | apply pw_below_drewN | apply below_drew1 | refine below_set ?_ GE145.out | refine below_set ?_ GE158.out | refine below_set ?_ GE171.out) | exact HB.out)⟩
                      · rw [if_neg c77] at H
                        have c77b0 : (x15_3 == (t140.length : Int)) = false := beq_eq_false_iff_ne.mpr c77
                        have c77b1 : (x15_3 != (t140.length : Int)) = true := bne_iff_ne.mpr c77
                        obtain rfl := Option.some.inj H
                        have hnb84 := NB171_145.out
                        have hnc84 := NB145_171.out
                        have hnb85 := NB171_158.out
                        have hnc85 := NB158_171.out
                        have hcz86_0 : wr.cell? ⟨gb171, 0, none⟩ = some (.int .i64 t162) := (blk_cell BK171.out 0).trans rfl
                        have hcz86_1 : wr.cell? ⟨gb171, 1, none⟩ = some (.int .i64 t163) := (blk_cell BK171.out 1).trans rfl
                        have hcz86_2 : wr.cell? ⟨gb171, 2, none⟩ = some (.int .i64 t164) := (blk_cell BK171.out 2).trans rfl
                        have hcz86_3 : wr.cell? ⟨gb171, 3, none⟩ = some (.bool t165) := (blk_cell BK171.out 3).trans rfl
                        have hcz86_4 : wr.cell? ⟨gb171, 4, none⟩ = some (.slice Ao38 t166.length co38) := (blk_cell BK171.out 4).trans rfl
                        have hcz86_5 : wr.cell? ⟨gb171, 5, none⟩ = some (.int .i64 t169) := (blk_cell BK171.out 5).trans rfl
                        have hfz86_0 := blk_frozen BK171.out 0
                        have hfz86_1 := blk_frozen BK171.out 1
                        have hfz86_2 := blk_frozen BK171.out 2
                        have hfz86_3 := blk_frozen BK171.out 3
                        have hfz86_4 := blk_frozen BK171.out 4
                        have hfz86_5 := blk_frozen BK171.out 5
                        have hnb87 := NB145_158.out
                        have hnc87 := NB158_145.out
                        have hcz88_0 : wr.cell? ⟨gb145, 0, none⟩ = some (.int .i64 t136) := (blk_cell BK145.out 0).trans rfl
                        have hcz88_1 : wr.cell? ⟨gb145, 1, none⟩ = some (.int .i64 t137) := (blk_cell BK145.out 1).trans rfl
                        have hcz88_2 : wr.cell? ⟨gb145, 2, none⟩ = some (.int .i64 t138) := (blk_cell BK145.out 2).trans rfl
                        have hcz88_3 : wr.cell? ⟨gb145, 3, none⟩ = some (.bool t139) := (blk_cell BK145.out 3).trans rfl
                        have hcz88_4 : wr.cell? ⟨gb145, 4, none⟩ = some (.slice Ao21 t140.length co21) := (blk_cell BK145.out 4).trans rfl
                        have hcz88_5 : wr.cell? ⟨gb145, 5, none⟩ = some (.int .i64 t143) := (blk_cell BK145.out 5).trans rfl
                        have hfz88_0 := blk_frozen BK145.out 0
                        have hfz88_1 := blk_frozen BK145.out 1
                        have hfz88_2 := blk_frozen BK145.out 2
                        have hfz88_3 := blk_frozen BK145.out 3
                        have hfz88_4 := blk_frozen BK145.out 4
                        have hfz88_5 := blk_frozen BK145.out 5
                        go_wp2
                        repeat (go_quiet (fail); try go_wp2)
                        go_ret
                        exact ⟨by first | rfl | (simp [errW_none, errW_some] <;> rfl) | (simp [*, errW_none, errW_some] <;> rfl), by repeat (first | (with_reducible first | exact HB.out | apply below_alloc | apply pw_below_drewN | apply below_drew1 | refine below_set ?_ GE145.out | refine below_set ?_ GE158.out | refine below_set ?_ GE171.out) | exact HB.out)⟩

end Go.Proofs.Ytmnjkdbopafkfaa.QFnOverlapsParts
