/- Ternary search tries in memory: the methods that tell keys. For every trie whose nodes all lead to words. -/
import Derived.Test.YtkgbflcbeeghoaaTrieG
namespace Go.Proofs.Ytkgbflcbeeghoaa.Trie
open Go Go.RowKit Go.Deep Go.Proofs.Ytkgbflcbeeghoaa.Hk Go.Proofs.Ytkgbflcbeeghoaa.TriePure Go.Proofs.Ytkgbflcbeeghoaa.Pre Go.Proofs.YtkgbflcbeeghoaaW.PrintWords Go.Proofs.YtkgbflcbeeghoaaW.PrintLast Go.Proofs.YtkgbflcbeeghoaaW.PrintMore
theorem used_get : ∀ (t : T) (ks : W), T.Used t → T.Used (T.get t ks)
  | .nil, _, _ => trivial
  | .node _ _ _ _ _ _, [], _ => trivial
  | .node c l m r v ok, [k], h => by
    rw [T.get_one]
    split
    · exact used_get l _ h.2.1
    · split
      · exact used_get r _ h.2.2.2
      · exact h
  | .node c l m r v ok, k :: k2 :: ks, h => by
    rw [T.get_more]
    split
    · exact used_get l _ h.2.1
    · split
      · exact used_get r _ h.2.2.2
      · exact used_get m _ h.2.2.1
/-- Words that a trie may hold, so that all that tells them has room. -/
structure Fit (t : T) : Prop where
  ord : T.Ord t
  used : T.Used t
  long : ∀ p ∈ T.words t, p.1.length ≤ B32
  many : (T.words t).length + 1 ≤ B32
def keysT (t : T) : List ByteArray := texts [] (T.words t)
def keysOf (t : T) (s : ByteArray) : List ByteArray := if s.size = 0 then keysT t else (T.from_ t (wd s)).map st
theorem st_wd (s : ByteArray) : st (wd s) = s := by cases s; rfl
theorem fit_from {t : T} {s : ByteArray} (h : Fit t) (h0 : s.size ≠ 0) {c : UInt8} {l m r : T} {v : Int} {ok : Bool} (hg : T.get t (wd s) = .node c l m r v ok) : (∀ p ∈ T.words m, (wd s).length + p.1.length ≤ B32) ∧ (T.words m).length + 1 ≤ B32 := by
  have e : T.from_ t (wd s) = (heads (T.words t)).filter (T.pre (wd s)) := by
    cases hw : wd s with
    | nil => exact absurd (by simpa using congrArg List.length hw) h0
    | cons k ks => exact T.from_words t k ks h.ord
  unfold T.from_ at e
  rw [hg] at e
  simp only at e
  refine ⟨fun p hp => ?_, ?_⟩
  · have h1 : wd s ++ p.1 ∈ (heads (T.words t)).filter (T.pre (wd s)) := by
      rw [← e]
      exact List.mem_append_right _ (List.mem_map.2 ⟨p, hp, rfl⟩)
    obtain ⟨q, hq, e2⟩ := List.mem_map.1 (List.mem_filter.1 h1).1
    have h2 := h.long q hq
    rw [e2, List.length_append] at h2
    exact h2
  · have h1 := congrArg List.length e
    have h2 := List.length_filter_le (T.pre (wd s)) (heads (T.words t))
    have h3 := h.many
    simp only [List.length_append, List.length_map, heads] at h1 h2
    omega
theorem reps_str {w : World} {base : Nat} {s : ByteArray} {ok : Nat → Prop} : Reps (Kd.string.M w base ok) Kd.string.sz [s] [.string s] := by
  refine ⟨rfl, fun j q hj => ?_⟩
  match j, hj with
  | 0, hj =>
    simp only [List.getElem?_cons_zero, Option.some.injEq] at hj
    subst hj
    rfl
theorem bytes_below (w : World) (E : TypeId) (s : ByteArray) : Below w.heap.size w (Lib.bytesWorld w E s) := ⟨rfl, rfl, rfl, by rw [Lib.bytesWorld_size]; omega, fun k hk => Lib.bytesWorld_at_old w E s k hk⟩
set_option maxHeartbeats 8000000 in
set_option maxRecDepth 100000 in
theorem Keys_any (base Tb : Nat) (n : Int) (t : N) (w : World) (hT : Tr base Tb n t w) (hF : Fit t.raw) :
    Calls Try.prog 44 #[.pointer (some ⟨Tb, 0, none⟩)] w fun e w' => ∃ q, e = .returned q ∧ Strs w' w.heap.size q (keysT t.raw) ∧ Below w.heap.size w w' := by
  have HT := hid hT
  have HF := hid hF
  have c1 : w.cell? ⟨Tb, 1, none⟩ = some t.ptr := hT.blk.cell 1
  obtain ⟨u, hu⟩ := t.ptr_some
  have HU := hid hu
  rw [hu] at c1
  clear hT hF hu
  go_enter Try.func44, Try.ntmps44
  go_wp2_with fail
  clear c1
  rw [← HU.out]
  have hcl := collect_any (some ⟨Tb, 0, none⟩) w.heap.size t [] (.slice none 0 0) (.slice none 0 0) [] w HT.out.good.mem (HT.out.good.mem.lt) (Nat.le_refl _) (.inl ⟨rfl, rfl⟩) (Kd.R_nil _ _ _ _ _) HF.out.used (fun p hp => by have := HF.out.long p hp; simpa using this) (by have := HF.out.many; simp only [List.length_nil]; omega)
  refine hcl.mono ?_
  clear hcl
  rintro e w1 ⟨q1, rfl, hc⟩
  have HC := hid hc
  clear hc
  go_wp2_with fail
  go_ret
  exact ⟨_, rfl, HC.out.row, HC.out.below (Nat.le_refl _) (ps := []) (.inl ⟨rfl, rfl⟩) (Kd.R_nil _ _ _ _ _)⟩
set_option maxHeartbeats 8000000 in
set_option maxRecDepth 100000 in
theorem Prefix_any (base Tb : Nat) (n : Int) (t : N) (s : ByteArray) (w : World) (hT : Tr base Tb n t w) (hF : Fit t.raw) (hs : s.size ≤ 1099511627776) :
    Calls Try.prog 45 #[.pointer (some ⟨Tb, 0, none⟩), .string s] w fun e w' => ∃ q, e = .returned q ∧ Strs w' w.heap.size q (keysOf t.raw s) ∧ Below w.heap.size w w' := by
  have HT := hid hT
  have HF := hid hF
  have HS := hid hs
  by_cases h0 : s.size = 0
  · have HE : Hid (keysOf t.raw s = keysT t.raw) := hid (if_pos h0)
    have z1 : (s.size == 0) = true := by simp [h0]
    have z2 : ((s.size : Int) == 0) = true := by simp [h0]
    clear h0 hT hF hs
    go_enter Try.func45, Try.ntmps45
    go_wp2_with fail
    refine (Keys_any base Tb n t w HT.out HF.out).mono ?_
    rintro e w1 ⟨q, rfl, hq, hb⟩
    have HQ := hid (And.intro hq hb)
    clear hq hb
    go_wp2_with fail
    go_ret
    exact ⟨_, rfl, by rw [HE.out]; exact HQ.out.1, HQ.out.2⟩
  · have HD : Hid (0 < s.size) := hid (by omega)
    have HN := hid h0
    have z1 : (s.size == 0) = false := beq_eq_false_iff_ne.2 h0
    have z2 : ((s.size : Int) == 0) = false := beq_eq_false_iff_ne.2 (by omega)
    have c1 : w.cell? ⟨Tb, 1, none⟩ = some t.ptr := hT.blk.cell 1
    have HK : Hid (keysOf t.raw s = (T.from_ t.raw (wd s)).map st) := hid (if_neg h0)
    obtain ⟨u, hu⟩ := t.ptr_some
    have HU := hid hu
    rw [hu] at c1
    clear h0 hT hF hs hu
    go_enter Try.func45, Try.ntmps45
    go_wp2_with fail
    clear c1
    rw [← HU.out]
    refine (get_any s (some ⟨Tb, 0, none⟩) HS.out t 0 w HT.out.good.mem HD.out).mono ?_
    rintro e w1 ⟨rfl, rfl⟩
    obtain ⟨w, rfl⟩ : ∃ w_, w_ = w1 := ⟨_, rfl⟩
    have HR := hid (sub_raw t (suf s 0))
    have HI := hid (sub_in t (suf s 0) HT.out.good.mem)
    have HV := hid (used_get t.raw (suf s 0) HF.out.used)
    rw [← HR.out] at HV
    generalize t.sub (suf s 0) = x at HR HI HV ⊢
    cases x with
    | nil =>
      have HE : Hid (keysOf t.raw s = []) := by
        rw [HK.out]
        unfold T.from_
        rw [← suf0, ← HR.out]
        exact hid rfl
      rw [show N.nil.ptr = .pointer none from rfl]
      go_wp2_with fail
      go_ret
      exact ⟨_, rfl, by rw [HE.out]; exact Kd.R_nil _ _ _ _ _, Below.refl _ _⟩
    | node b c l m r v ok =>
      have k5 : w.cell? ⟨b, 5, none⟩ = some (.bool ok) := HI.out.1.cell 5
      have k2 : w.cell? ⟨b, 2, none⟩ = some m.ptr := HI.out.1.cell 2
      obtain ⟨um, hum⟩ := m.ptr_some
      have HUM := hid hum
      rw [hum] at k2
      clear hum
      have HM : Hid (T.Used m.raw ∧ (∀ p ∈ T.words m.raw, (wd s).length + p.1.length ≤ B32) ∧ (T.words m.raw).length + 1 ≤ B32) := hid ⟨HV.out.2.2.1, fit_from HF.out HN.out HR.out.symm⟩
      have HE0 : Hid (keysOf t.raw s = ((if ok then [wd s] else []) ++ (T.words m.raw).map (fun p => wd s ++ p.1)).map st) := by
        rw [HK.out]
        unfold T.from_
        rw [← suf0, ← HR.out]
        exact hid rfl
      rw [show (N.node b c l m r v ok).ptr = .pointer (some ⟨b, 0, none⟩) from rfl]
      clear HV HR HK
      cases ok with
      | true =>
        have HE : Hid (keysOf t.raw s = [s] ++ texts (wd s) (T.words m.raw)) := by
          rw [HE0.out, List.map_append, List.map_map]
          simp only [if_true, List.map_cons, List.map_nil, st_wd]
          exact hid rfl
        clear HE0
        have HQ : Hid (Strs (w.alloc (.cells #[.string s] 9)) w.heap.size (.slice (some ⟨w.heap.size, 0, none⟩) 1 1) [s] ∧ Below w.heap.size w (w.alloc (.cells #[.string s] 9))) :=
          hid ⟨Kd.R_of_own (World.ownsRow_lit (base := w.heap.size) (e := 9) (size := 1) w #[.string s] 1 (Nat.le_refl _) (by decide) rfl) (fun _ _ => trivial), (Below.refl _ _).alloc (Nat.le_refl _) _⟩
        have k2' : (w.alloc (.cells #[.string s] 9)).cell? ⟨b, 2, none⟩ = some (.pointer um) := by rw [← HUM.out]; exact (HI.out.1.below HQ.out.2 HI.out.1.lt).cell 2
        have HCV : Hid (Below w.heap.size w (Lib.bytesWorld (w.alloc (.cells #[.string s] 9)) 5 s) ∧ Strs (Lib.bytesWorld (w.alloc (.cells #[.string s] 9)) 5 s) w.heap.size (.slice (some ⟨w.heap.size, 0, none⟩) 1 1) [s] ∧ Pre 5 (Lib.bytesWorld (w.alloc (.cells #[.string s] 9)) 5 s) w.heap.size (.slice (some ⟨(w.alloc (.cells #[.string s] 9)).heap.size, 0, none⟩) s.size (grownCap (w.alloc (.cells #[.string s] 9)) s.size 0 5)) (wd s)) := by
          have hb := bytes_below (w.alloc (.cells #[.string s] 9)) 5 s
          refine hid ⟨below_at HQ.out.2 hb HQ.out.2.size, Kd.R_below HQ.out.1 hb, ?_⟩
          rcases Pre.bytes (E := 5) (w.alloc (.cells #[.string s] 9)) s with h | ⟨g, n, c, e, h⟩
          · exact .inl h
          · exact .inr ⟨g, n, c, e, Nat.le_trans HQ.out.2.size h.1, h.2⟩
        have hcv := Lib.run_convert_string_bytes (P := Try.prog) (w.alloc (.cells #[.string s] 9)) 9 100 5 s Try.underlying9 Try.underlying100 Try.underlying5
        go_wp2_with fail
        clear hcv
        rw [alloc_size] at HCV
        generalize grownCap (w.alloc (.cells #[.string s] 9)) s.size 0 5 = gc at HCV ⊢
        generalize Lib.bytesWorld (w.alloc (.cells #[.string s] 9)) 5 s = Wb at HCV ⊢
        have hcl := collect_any (some ⟨Tb, 0, none⟩) w.heap.size m (wd s) (.slice (some ⟨w.heap.size + 1, 0, none⟩) s.size gc) (.slice (some ⟨w.heap.size, 0, none⟩) 1 1) [s] Wb (in_keep HI.out.2.2.1 (HI.out.2.2.1.lt) HCV.out.1) (HI.out.2.2.1.lt) HCV.out.1.size HCV.out.2.2 HCV.out.2.1 HM.out.1 HM.out.2.1 (by have h_ := HM.out.2.2; simp only [List.length_singleton]; omega)
        rw [HUM.out] at hcl
        refine hcl.mono ?_
        clear hcl
        rintro e w2 ⟨q2, rfl, hc⟩
        have HC := hid hc
        clear hc
        go_wp2_with fail
        go_ret
        exact ⟨_, rfl, by rw [HE.out]; exact HC.out.row, HCV.out.1.trans (HC.out.below HCV.out.1.size HCV.out.2.2 HCV.out.2.1)⟩
      | false =>
        have HE : Hid (keysOf t.raw s = [] ++ texts (wd s) (T.words m.raw)) := by
          rw [HE0.out, List.map_append, List.map_map]
          simp only [Bool.false_eq_true, if_false, List.map_nil]
          exact hid rfl
        clear HE0
        have HCV : Hid (Below w.heap.size w (Lib.bytesWorld w 5 s) ∧ Strs (Lib.bytesWorld w 5 s) w.heap.size (.slice none 0 0) [] ∧ Pre 5 (Lib.bytesWorld w 5 s) w.heap.size (.slice (some ⟨w.heap.size, 0, none⟩) s.size (grownCap w s.size 0 5)) (wd s)) := by
          have hb := bytes_below w 5 s
          refine hid ⟨hb, Kd.R_nil _ _ _ _ _, ?_⟩
          rcases Pre.bytes (E := 5) w s with h | ⟨g, n, c, e, h⟩
          · exact .inl h
          · exact .inr ⟨g, n, c, e, h.1, h.2⟩
        have hcv := Lib.run_convert_string_bytes (P := Try.prog) w 9 100 5 s Try.underlying9 Try.underlying100 Try.underlying5
        go_wp2_with fail
        clear hcv
        generalize grownCap w s.size 0 5 = gc at HCV ⊢
        generalize Lib.bytesWorld w 5 s = Wb at HCV ⊢
        have hcl := collect_any (some ⟨Tb, 0, none⟩) w.heap.size m (wd s) (.slice (some ⟨w.heap.size, 0, none⟩) s.size gc) (.slice none 0 0) [] Wb (in_keep HI.out.2.2.1 (HI.out.2.2.1.lt) HCV.out.1) (HI.out.2.2.1.lt) HCV.out.1.size HCV.out.2.2 HCV.out.2.1 HM.out.1 HM.out.2.1 (by have h_ := HM.out.2.2; simp only [List.length_nil]; omega)
        rw [HUM.out] at hcl
        refine hcl.mono ?_
        clear hcl
        rintro e w2 ⟨q2, rfl, hc⟩
        have HC := hid hc
        clear hc
        go_wp2_with fail
        go_ret
        exact ⟨_, rfl, by rw [HE.out]; exact HC.out.row, HCV.out.1.trans (HC.out.below HCV.out.1.size HCV.out.2.2 HCV.out.2.1)⟩
end Go.Proofs.Ytkgbflcbeeghoaa.Trie
