/- The place of the brace that opens one that is closed just behind is told, in any text without backslashes: no other condition. -/
import Derived.Test.YtdhfpgbidlanaaaPFnGlobOpeningx1
import Derived.IntWalk
namespace Go.Proofs.Ytdhfpgbidlanaaa.Pure
open Go.RowKit Go.IntWalk Go.Proofs.Ytdhfpgbidlanaaa.PFnGlobOpening Go.Proofs.YtdhfpgbidlanaaaW.PrintWords Go.Proofs.YtdhfpgbidlanaaaW.PrintLast

theorem go_loop_same (s : ByteArray) (hs : s.size ≤ 2147483647) (hall : ∀ j : Int, 0 ≤ j → j < s.size → bt s j ≠ 92) (d : Nat) : ∀ (i a : Int), (i + 1).toNat ≤ d → -1 ≤ i → i < s.size → 1 ≤ a → a + i ≤ s.size →
    ∃ r, Ev (fun k => doublestar_indexMatchedOpeningAlt.l0 k s a i) r ∧ Ev (fun k => spec_GlobOpens.l0 k s a i) r := by
  induction d with
  | zero =>
    intro i a hd h0 h1 ha hb
    have hi : ¬ i ≥ 0 := by omega
    refine ⟨-1, Ev.step (f := fun _ => some (-1)) (fun k => ?_) (Ev.now _), Ev.step (f := fun _ => some (-1)) (fun k => ?_) (Ev.now _)⟩
    · simp only [doublestar_indexMatchedOpeningAlt.l0]; rw [if_neg hi]
    · simp only [spec_GlobOpens.l0]; rw [if_neg hi]
  | succ d ih =>
    intro i a hd h0 h1 ha hb
    by_cases hi : i ≥ 0
    · have w1 : wrap64 (i - 1) = i - 1 := wrap64_in _ (by omega)
      have w2 : wrap64 (a + 1) = a + 1 := wrap64_in _ (by omega)
      have w3 : wrap64 (a - 1) = a - 1 := wrap64_in _ (by omega)
      by_cases h125 : bt s i = 125
      · obtain ⟨r, hr, hq⟩ := ih (i - 1) (a + 1) (by omega) (by omega) (by omega) (by omega) (by omega)
        refine ⟨r, Ev.step (f := fun k => doublestar_indexMatchedOpeningAlt.j1 k s a i true) (fun k => ?_) (Ev.step (fun k => ?_) hr), Ev.step (fun k => ?_) hq⟩
        · simp only [doublestar_indexMatchedOpeningAlt.l0]; rw [if_pos hi, if_pos hi, if_pos h1, if_pos h125]
          by_cases hz : i = 0
          · rw [if_pos hz]
          · rw [if_neg hz, w1, if_pos (by omega), if_pos (by omega), bne_iff_ne.2 (hall (i - 1) (by omega) (by omega))]
        · simp only [doublestar_indexMatchedOpeningAlt.j1]; rw [if_pos trivial, w1, w2]
        · simp only [spec_GlobOpens.l0]; rw [if_pos hi, if_pos hi, if_pos h1, if_pos h125, w2, if_neg (by omega), w1]
      · by_cases h123 : bt s i = 123
        · have hl : ∀ k, doublestar_indexMatchedOpeningAlt.l0 (k + 1) s a i = doublestar_indexMatchedOpeningAlt.j1 k s a i false := fun k => by
            simp only [doublestar_indexMatchedOpeningAlt.l0]; rw [if_pos hi, if_pos hi, if_pos h1, if_neg h125]
          have hj : ∀ k, doublestar_indexMatchedOpeningAlt.j1 (k + 1) s a i false = doublestar_indexMatchedOpeningAlt.j2 k s a i true := fun k => by
            simp only [doublestar_indexMatchedOpeningAlt.j1]; rw [if_neg Bool.false_ne_true, if_pos hi, if_pos h1, if_pos h123]
            by_cases hz : i = 0
            · rw [if_pos hz]
            · rw [if_neg hz, w1, if_pos (by omega), if_pos (by omega), bne_iff_ne.2 (hall (i - 1) (by omega) (by omega))]
          by_cases h1a : a - 1 = 0
          · refine ⟨i, Ev.step hl (Ev.step hj (Ev.step (f := fun _ => some i) (fun k => ?_) (Ev.now _))), Ev.step (f := fun _ => some i) (fun k => ?_) (Ev.now _)⟩
            · simp only [doublestar_indexMatchedOpeningAlt.j2]; rw [if_pos trivial, w3, if_pos h1a]
            · simp only [spec_GlobOpens.l0]; rw [if_pos hi, if_pos hi, if_pos h1, if_neg h125, if_pos h123, w3, if_pos h1a]
          · obtain ⟨r, hr, hq⟩ := ih (i - 1) (a - 1) (by omega) (by omega) (by omega) (by omega) (by omega)
            refine ⟨r, Ev.step hl (Ev.step hj (Ev.step (fun k => ?_) hr)), Ev.step (fun k => ?_) hq⟩
            · simp only [doublestar_indexMatchedOpeningAlt.j2]; rw [if_pos trivial, w3, if_neg h1a, w1]
            · simp only [spec_GlobOpens.l0]; rw [if_pos hi, if_pos hi, if_pos h1, if_neg h125, if_pos h123, w3, if_neg h1a, w1]
        · obtain ⟨r, hr, hq⟩ := ih (i - 1) a (by omega) (by omega) (by omega) (by omega) (by omega)
          refine ⟨r, Ev.step (f := fun k => doublestar_indexMatchedOpeningAlt.j1 k s a i false) (fun k => ?_) (Ev.step (f := fun k => doublestar_indexMatchedOpeningAlt.j2 k s a i false) (fun k => ?_) (Ev.step (fun k => ?_) hr)), Ev.step (fun k => ?_) hq⟩
          · simp only [doublestar_indexMatchedOpeningAlt.l0]; rw [if_pos hi, if_pos hi, if_pos h1, if_neg h125]
          · simp only [doublestar_indexMatchedOpeningAlt.j1]; rw [if_neg Bool.false_ne_true, if_pos hi, if_pos h1, if_neg h123]
          · simp only [doublestar_indexMatchedOpeningAlt.j2]; rw [if_neg Bool.false_ne_true, w1]
          · simp only [spec_GlobOpens.l0]; rw [if_pos hi, if_pos hi, if_pos h1, if_neg h125, if_neg h123, if_neg (by omega), w1]
    · refine ⟨-1, Ev.step (f := fun _ => some (-1)) (fun k => ?_) (Ev.now _), Ev.step (f := fun _ => some (-1)) (fun k => ?_) (Ev.now _)⟩
      · simp only [doublestar_indexMatchedOpeningAlt.l0]; rw [if_neg hi]
      · simp only [spec_GlobOpens.l0]; rw [if_neg hi]

theorem go_end (s : ByteArray) (hs : s.size ≤ 2147483647) (hall : ∀ j : Int, 0 ≤ j → j < s.size → bt s j ≠ 92) : Ev (fun k => laws_FnGlobOpening.l0 k s (s.size : Int)) true := by
  have w1 : wrap64 ((s.size : Int) - 1) = (s.size : Int) - 1 := wrap64_in _ (by omega)
  obtain ⟨r, hr, hq⟩ := go_loop_same s hs hall s.size ((s.size : Int) - 1) 1 (by omega) (by omega) (by omega) (by omega) (by omega)
  have hi : Ev (fun k => impl_GlobOpeningAlt.f k s) r := by
    unfold impl_GlobOpeningAlt.f doublestar_ZzOpeningAlt.f doublestar_indexMatchedOpeningAlt.f
    rw [w1]
    exact Ev.bind (Ev.bind hr (Ev.now _)) (Ev.now _)
  have hp : Ev (fun k => spec_GlobOpens.f k s) r := by
    unfold spec_GlobOpens.f
    rw [w1]; exact hq
  have ha : Ev (fun k => impl_GlobOpeningAlt.f k (⟨#[]⟩ : ByteArray)) (-1) := Ev.of (impl_GlobOpeningAlt.mono _) (k := 5) (by decide +kernel)
  refine Ev.step (f := fun k => (impl_GlobOpeningAlt.f k s).bind fun t103 => ((spec_GlobOpens.f k s).bind fun t104 => (if t103 = t104 then ((impl_GlobOpeningAlt.f k (⟨#[]⟩ : ByteArray)).bind fun t105 => (some (t105 == (-1)))) else (some false)))) (fun k => ?_) (Ev.bind hi (Ev.bind (a := r) hp ?_))
  · simp only [laws_FnGlobOpening.l0]; rw [if_neg (by omega)]
  · refine Ev.congr (f := fun k => (impl_GlobOpeningAlt.f k (⟨#[]⟩ : ByteArray)).bind fun t106 => (some (t106 == (-1)))) (fun k => by rw [if_pos rfl]) ?_
    exact Ev.bind ha (Ev.now _)

theorem go_scan (s : ByteArray) (hs : s.size ≤ 2147483647) (d : Nat) : ∀ i : Int, 0 ≤ i → i ≤ s.size → ((s.size : Int) - i).toNat ≤ d → (∀ j : Int, 0 ≤ j → j < i → bt s j ≠ 92) → Ev (fun k => laws_FnGlobOpening.l0 k s i) true := by
  induction d with
  | zero =>
    intro i h0 h1 hd hj
    obtain rfl : i = (s.size : Int) := by omega
    exact go_end s hs hj
  | succ d ih =>
    intro i h0 h1 hd hj
    by_cases hi : i < (s.size : Int)
    · by_cases hb : bt s i = 92
      · refine Ev.step (f := fun _ => some true) (fun k => ?_) (Ev.now _)
        simp only [laws_FnGlobOpening.l0]; rw [if_pos hi, if_pos h0, if_pos hb]
      · refine Ev.step (fun k => ?_) (ih (i + 1) (by omega) (by omega) (by omega) ?_)
        · simp only [laws_FnGlobOpening.l0]; rw [if_pos hi, if_pos h0, if_neg hb, wrap64_in (i + 1) (by omega)]
        · intro j j0 j1
          by_cases he : j = i
          · rw [he]; exact hb
          · exact hj j j0 (by omega)
    · obtain rfl : i = (s.size : Int) := by omega
      exact go_end s hs hj

theorem FnGlobOpening : laws_FnGlobOpening.Pure := by
  intro s hs
  by_cases hz : (s.size : Int) > 2147483647
  · refine ⟨0, ?_⟩
    unfold laws_FnGlobOpening.f
    rw [if_pos hz]
  · obtain ⟨k, hk⟩ := (go_scan s (by omega) s.size 0 (by omega) (by omega) (by omega) (fun j h0 h1 => by omega)).rounds
    refine ⟨k, ?_⟩
    unfold laws_FnGlobOpening.f
    rw [if_neg hz]; exact hk

end Go.Proofs.Ytdhfpgbidlanaaa.Pure
