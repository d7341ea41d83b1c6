/- The first place of a byte that no backslash escapes is told, in any text: no condition. -/
import Derived.Test.YtdhfpgbidlanaaaPFnGlobIndexx1
import Derived.IntWalk
namespace Go.Proofs.Ytdhfpgbidlanaaa.Pure
open Go.RowKit Go.IntWalk Go.Proofs.Ytdhfpgbidlanaaa.PFnGlobIndex Go.Proofs.YtdhfpgbidlanaaaW.PrintWords Go.Proofs.YtdhfpgbidlanaaaW.PrintLast

theorem gi_loop (s : ByteArray) (hs : s.size ≤ 2147483647) (c : Int) (e : Bool) (hce : ¬ (c = 92 ∧ e = true)) (d : Nat) : ∀ i : Int, 0 ≤ i → i ≤ s.size + 1 → ((s.size : Int) + 2 - i).toNat ≤ d →
    ∃ r, Ev (fun k => doublestar_indexUnescapedByte.l0 k s c e (s.size : Int) i) r ∧ Ev (fun k => spec_GlobAt.l0 k s c e i) r := by
  induction d with
  | zero => intro i h0 h1 hd; omega
  | succ d ih =>
    intro i h0 h1 hd
    by_cases hi : i < (s.size : Int)
    · have w1 : wrap64 (i + 1) = i + 1 := wrap64_in _ (by omega)
      have w2 : wrap64 (i + 1 + 1) = i + 2 := by rw [wrap64_in _ (by omega)]; omega
      have w3 : wrap64 (i + 2) = i + 2 := wrap64_in _ (by omega)
      cases e with
      | true =>
        have hc : c ≠ 92 := fun h => hce ⟨h, rfl⟩
        by_cases hb : bt s i = 92
        · obtain ⟨r, hr, hq⟩ := ih (i + 2) (by omega) (by omega) (by omega)
          refine ⟨r, ?_, ?_⟩
          · refine Ev.step (f := fun k => doublestar_indexUnescapedByte.j1 k s c true (s.size : Int) i true) (fun k => ?_) (Ev.step (fun k => ?_) hr)
            · simp only [doublestar_indexUnescapedByte.l0]; rw [if_pos hi, if_pos trivial, if_pos h0, if_pos hi, hb]; rfl
            · simp only [doublestar_indexUnescapedByte.j1]; rw [if_pos trivial, w1, w2]
          · refine Ev.step (fun k => ?_) hq
            simp only [spec_GlobAt.l0, spec_globSkip.f]; rw [if_pos hi, if_pos h0, hb, if_neg (fun h => hc h.symm), if_pos trivial, if_pos h0, if_pos hi, if_pos rfl, w3]; rfl
        · by_cases hbc : bt s i = c
          · refine ⟨i, ?_, ?_⟩
            · refine Ev.step (f := fun k => doublestar_indexUnescapedByte.j1 k s c true (s.size : Int) i false) (fun k => ?_) (Ev.step (f := fun _ => some i) (fun k => ?_) (Ev.now _))
              · simp only [doublestar_indexUnescapedByte.l0]; rw [if_pos hi, if_pos trivial, if_pos h0, if_pos hi, beq_eq_false_iff_ne.2 hb]
              · simp only [doublestar_indexUnescapedByte.j1]; rw [if_neg Bool.false_ne_true, if_pos h0, if_pos hi, if_pos hbc]
            · refine Ev.step (f := fun _ => some i) (fun k => ?_) (Ev.now _)
              simp only [spec_GlobAt.l0]; rw [if_pos hi, if_pos h0, if_pos hbc]
          · obtain ⟨r, hr, hq⟩ := ih (i + 1) (by omega) (by omega) (by omega)
            refine ⟨r, ?_, ?_⟩
            · refine Ev.step (f := fun k => doublestar_indexUnescapedByte.j1 k s c true (s.size : Int) i false) (fun k => ?_) (Ev.step (fun k => ?_) hr)
              · simp only [doublestar_indexUnescapedByte.l0]; rw [if_pos hi, if_pos trivial, if_pos h0, if_pos hi, beq_eq_false_iff_ne.2 hb]
              · simp only [doublestar_indexUnescapedByte.j1]; rw [if_neg Bool.false_ne_true, if_pos h0, if_pos hi, if_neg hbc, w1]
            · refine Ev.step (fun k => ?_) hq
              simp only [spec_GlobAt.l0, spec_globSkip.f]; rw [if_pos hi, if_pos h0, if_neg hbc, if_pos trivial, if_pos h0, if_pos hi, if_neg hb, w1]; rfl
      | false =>
        by_cases hbc : bt s i = c
        · refine ⟨i, ?_, ?_⟩
          · refine Ev.step (f := fun k => doublestar_indexUnescapedByte.j1 k s c false (s.size : Int) i false) (fun k => ?_) (Ev.step (f := fun _ => some i) (fun k => ?_) (Ev.now _))
            · simp only [doublestar_indexUnescapedByte.l0]; rw [if_pos hi, if_neg Bool.false_ne_true]
            · simp only [doublestar_indexUnescapedByte.j1]; rw [if_neg Bool.false_ne_true, if_pos h0, if_pos hi, if_pos hbc]
          · refine Ev.step (f := fun _ => some i) (fun k => ?_) (Ev.now _)
            simp only [spec_GlobAt.l0]; rw [if_pos hi, if_pos h0, if_pos hbc]
        · obtain ⟨r, hr, hq⟩ := ih (i + 1) (by omega) (by omega) (by omega)
          refine ⟨r, ?_, ?_⟩
          · refine Ev.step (f := fun k => doublestar_indexUnescapedByte.j1 k s c false (s.size : Int) i false) (fun k => ?_) (Ev.step (fun k => ?_) hr)
            · simp only [doublestar_indexUnescapedByte.l0]; rw [if_pos hi, if_neg Bool.false_ne_true]
            · simp only [doublestar_indexUnescapedByte.j1]; rw [if_neg Bool.false_ne_true, if_pos h0, if_pos hi, if_neg hbc, w1]
          · refine Ev.step (fun k => ?_) hq
            simp only [spec_GlobAt.l0, spec_globSkip.f]; rw [if_pos hi, if_pos h0, if_neg hbc, if_neg Bool.false_ne_true, w1]; rfl
    · refine ⟨-1, Ev.step (f := fun _ => some (-1)) (fun k => ?_) (Ev.now _), Ev.step (f := fun _ => some (-1)) (fun k => ?_) (Ev.now _)⟩
      · simp only [doublestar_indexUnescapedByte.l0]; rw [if_neg hi]
      · simp only [spec_GlobAt.l0]; rw [if_neg hi]

theorem gi_empty (e : Bool) : Ev (fun k => impl_GlobIndexUnescaped.f k (⟨#[]⟩ : ByteArray) 97 e) (-1) := by
  refine Ev.step (f := fun _ => some (-1)) (fun k => ?_) (Ev.now _)
  unfold impl_GlobIndexUnescaped.f doublestar_ZzIndexUnescaped.f doublestar_indexUnescapedByte.f
  simp only [doublestar_indexUnescapedByte.l0]
  rw [if_neg (by decide)]; rfl

theorem FnGlobIndex : laws_FnGlobIndex.Pure := by
  intro s c e hs hc
  by_cases hz : (s.size : Int) > 2147483647
  · refine ⟨0, ?_⟩
    unfold laws_FnGlobIndex.f
    rw [if_pos hz]
  · have hmain : ¬ (c = 92 ∧ e = true) → Ev (fun k => laws_FnGlobIndex.j0 k s c e false) true := by
      intro hce
      obtain ⟨r, hr, hq⟩ := gi_loop s (by omega) c e hce (s.size + 2) 0 (by omega) (by omega) (by omega)
      refine Ev.step (f := fun k => (impl_GlobIndexUnescaped.f k s c e).bind fun t104 => ((spec_GlobAt.f k s c e).bind fun t105 => (if t104 = t105 then ((impl_GlobIndexUnescaped.f k (⟨#[]⟩ : ByteArray) 97 e).bind fun t106 => (some (t106 == (-1)))) else (some false)))) (fun k => ?_) ?_
      · simp only [laws_FnGlobIndex.j0]; rw [if_neg Bool.false_ne_true]
      · have hi : Ev (fun k => impl_GlobIndexUnescaped.f k s c e) r := by
          unfold impl_GlobIndexUnescaped.f doublestar_ZzIndexUnescaped.f doublestar_indexUnescapedByte.f
          exact Ev.bind (Ev.bind hr (Ev.now _)) (Ev.now _)
        refine Ev.bind hi (Ev.bind (a := r) hq ?_)
        refine Ev.congr (f := fun k => (impl_GlobIndexUnescaped.f k (⟨#[]⟩ : ByteArray) 97 e).bind fun t106 => (some (t106 == (-1)))) (fun k => by rw [if_pos rfl]) ?_
        exact Ev.bind (gi_empty e) (Ev.now _)
    by_cases hc2 : c = 92
    · cases e with
      | true =>
        refine ⟨1, ?_⟩
        unfold laws_FnGlobIndex.f
        rw [if_neg hz, if_pos hc2]; simp [laws_FnGlobIndex.j0]
      | false =>
        obtain ⟨k, hk⟩ := (hmain (by simp)).rounds
        refine ⟨k, ?_⟩
        unfold laws_FnGlobIndex.f
        rw [if_neg hz, if_pos hc2]; exact hk
    · obtain ⟨k, hk⟩ := (hmain (fun h => hc2 h.1)).rounds
      refine ⟨k, ?_⟩
      unfold laws_FnGlobIndex.f
      rw [if_neg hz, if_neg hc2]; exact hk

end Go.Proofs.Ytdhfpgbidlanaaa.Pure
