/- The first sign that means something, and that no backslash escapes, is told, in any text: no condition. -/
import Derived.Test.YtdhfpgbidlanaaaPFnGlobMetax1
import Derived.IntWalk
namespace Go.Proofs.Ytdhfpgbidlanaaa.Pure
open Go.RowKit Go.IntWalk Go.Proofs.Ytdhfpgbidlanaaa.PFnGlobMeta Go.Proofs.YtdhfpgbidlanaaaW.PrintWords Go.Proofs.YtdhfpgbidlanaaaW.PrintLast

theorem gm_loop (s : ByteArray) (hs : s.size ≤ 2147483647) (d : Nat) : ∀ i : Int, 0 ≤ i → i ≤ s.size + 1 → ((s.size : Int) + 2 - i).toNat ≤ d →
    ∃ r, Ev (fun k => doublestar_indexMeta.l0 k s (s.size : Int) i) r ∧ Ev (fun k => spec_GlobSign.l0 k s i) r := by
  induction d with
  | zero => intro i h0 h1 hd; omega
  | succ d ih =>
    intro i h0 h1 hd
    by_cases hi : i < (s.size : Int)
    · have w1 : wrap64 (i + 1) = i + 1 := wrap64_in _ (by omega)
      have w2 : wrap64 (i + 1 + 1) = i + 2 := by rw [wrap64_in _ (by omega)]; omega
      have w3 : wrap64 (i + 2) = i + 2 := wrap64_in _ (by omega)
      have hyes : ∀ b, Ev (fun k => doublestar_indexMeta.j1 k s b (s.size : Int) i true) i := fun b => by
        refine Ev.step (f := fun _ => some i) (fun k => ?_) (Ev.now _)
        simp only [doublestar_indexMeta.j1]; rw [if_pos trivial]
      by_cases h42 : bt s i = 42
      · refine ⟨i, Ev.step (fun k => ?_) (hyes (bt s i)), Ev.step (f := fun _ => some i) (fun k => ?_) (Ev.now _)⟩
        · simp only [doublestar_indexMeta.l0]; rw [if_pos hi, if_pos h0, if_pos hi, if_pos h42]
        · simp only [spec_GlobSign.l0]; rw [if_pos hi, if_pos h0, if_pos h42]
      · by_cases h63 : bt s i = 63
        · refine ⟨i, Ev.step (fun k => ?_) (hyes (bt s i)), Ev.step (f := fun _ => some i) (fun k => ?_) (Ev.now _)⟩
          · simp only [doublestar_indexMeta.l0]; rw [if_pos hi, if_pos h0, if_pos hi, if_neg h42, if_pos h63]
          · simp only [spec_GlobSign.l0]; rw [if_pos hi, if_pos h0, if_neg h42, if_pos h63]
        · by_cases h91 : bt s i = 91
          · refine ⟨i, Ev.step (fun k => ?_) (hyes (bt s i)), Ev.step (f := fun _ => some i) (fun k => ?_) (Ev.now _)⟩
            · simp only [doublestar_indexMeta.l0]; rw [if_pos hi, if_pos h0, if_pos hi, if_neg h42, if_neg h63, if_pos h91]
            · simp only [spec_GlobSign.l0]; rw [if_pos hi, if_pos h0, if_neg h42, if_neg h63, if_pos h91]
          · by_cases h123 : bt s i = 123
            · refine ⟨i, Ev.step (fun k => ?_) (hyes (bt s i)), Ev.step (f := fun _ => some i) (fun k => ?_) (Ev.now _)⟩
              · simp only [doublestar_indexMeta.l0]; rw [if_pos hi, if_pos h0, if_pos hi, if_neg h42, if_neg h63, if_neg h91, beq_iff_eq.2 h123]
              · simp only [spec_GlobSign.l0]; rw [if_pos hi, if_pos h0, if_neg h42, if_neg h63, if_neg h91, if_pos h123]
            · by_cases hb : bt s i = 92
              · obtain ⟨r, hr, hq⟩ := ih (i + 2) (by omega) (by omega) (by omega)
                refine ⟨r, ?_, ?_⟩
                · refine Ev.step (f := fun k => doublestar_indexMeta.j1 k s (bt s i) (s.size : Int) i false) (fun k => ?_) (Ev.step (fun k => ?_) hr)
                  · simp only [doublestar_indexMeta.l0]; rw [if_pos hi, if_pos h0, if_pos hi, if_neg h42, if_neg h63, if_neg h91, beq_eq_false_iff_ne.2 h123]
                  · simp only [doublestar_indexMeta.j1]; rw [if_neg Bool.false_ne_true, if_pos hb, w1, w2]
                · refine Ev.step (fun k => ?_) hq
                  simp only [spec_GlobSign.l0, spec_globSkip.f]; rw [if_pos hi, if_pos h0, if_neg h42, if_neg h63, if_neg h91, if_neg h123, if_pos trivial, if_pos h0, if_pos hi, if_pos hb, w3]; rfl
              · obtain ⟨r, hr, hq⟩ := ih (i + 1) (by omega) (by omega) (by omega)
                refine ⟨r, ?_, ?_⟩
                · refine Ev.step (f := fun k => doublestar_indexMeta.j1 k s (bt s i) (s.size : Int) i false) (fun k => ?_) (Ev.step (fun k => ?_) hr)
                  · simp only [doublestar_indexMeta.l0]; rw [if_pos hi, if_pos h0, if_pos hi, if_neg h42, if_neg h63, if_neg h91, beq_eq_false_iff_ne.2 h123]
                  · simp only [doublestar_indexMeta.j1]; rw [if_neg Bool.false_ne_true, if_neg hb, w1]
                · refine Ev.step (fun k => ?_) hq
                  simp only [spec_GlobSign.l0, spec_globSkip.f]; rw [if_pos hi, if_pos h0, if_neg h42, if_neg h63, if_neg h91, if_neg h123, if_pos trivial, if_pos h0, if_pos hi, if_neg hb, w1]; rfl
    · refine ⟨-1, Ev.step (f := fun _ => some (-1)) (fun k => ?_) (Ev.now _), Ev.step (f := fun _ => some (-1)) (fun k => ?_) (Ev.now _)⟩
      · simp only [doublestar_indexMeta.l0]; rw [if_neg hi]
      · simp only [spec_GlobSign.l0]; rw [if_neg hi]

theorem gm_impl {s : ByteArray} {r : Int} (h : Ev (fun k => doublestar_indexMeta.l0 k s (s.size : Int) 0) r) : Ev (fun k => impl_GlobIndexMeta.f k s) r := by
  unfold impl_GlobIndexMeta.f doublestar_ZzIndexMeta.f doublestar_indexMeta.f
  exact Ev.bind (Ev.bind h (Ev.now _)) (Ev.now _)

theorem FnGlobMeta : laws_FnGlobMeta.Pure := by
  intro s hs
  by_cases hz : (s.size : Int) > 2147483647
  · refine ⟨0, ?_⟩
    unfold laws_FnGlobMeta.f
    rw [if_pos hz]
  · obtain ⟨r, hr, hq⟩ := gm_loop s (by omega) (s.size + 2) 0 (by omega) (by omega) (by omega)
    have ha : Ev (fun k => impl_GlobIndexMeta.f k (⟨#[97]⟩ : ByteArray)) (-1) := Ev.of (impl_GlobIndexMeta.mono _) (k := 5) (by decide +kernel)
    refine Ev.rounds (r := true) (Ev.congr (fun k => by unfold laws_FnGlobMeta.f; rw [if_neg hz]) (Ev.bind (gm_impl hr) (Ev.bind (a := r) hq ?_)))
    refine Ev.congr (f := fun k => (impl_GlobIndexMeta.f k (⟨#[97]⟩ : ByteArray)).bind fun t106 => (some (t106 == (-1)))) (fun k => by rw [if_pos rfl]) ?_
    exact Ev.bind ha (Ev.now _)

end Go.Proofs.Ytdhfpgbidlanaaa.Pure
