/- Ternary search tries in memory: a trie, and what its methods do. For every trie and every word. -/
import Derived.Test.YtkgbflcbeeghoaaTrieD
namespace Go.Proofs.Ytkgbflcbeeghoaa.Trie
open Go Go.RowKit Go.Proofs.Ytkgbflcbeeghoaa.Hk Go.Proofs.Ytkgbflcbeeghoaa.TriePure
/-- A trie: how many words it says to have, and its nodes. -/
structure Tr (base Tb : Nat) (n : Int) (t : N) (w : World) : Prop where
  blk : Blk w Tb #[.int .i64 n, t.ptr] 95
  good : Good base w t
  tb : Tb ∉ t.ids
  ge : base ≤ Tb
/-- The blocks that a trie may turn, by their types. -/
def Zt (base : Nat) (w : World) (k : Nat) : Prop := base ≤ k ∧ ∃ cs t, w.heap[k]? = some (.cells cs t (0, 0)) ∧ (t = 95 ∨ t = 115)
theorem zt_trans {base : Nat} {a b c : World} (h : Fr (Zt base a) a b) (k : Fr (Zt base b) b c) : Fr (Zt base a) a c :=
  h.trans k (fun n hn hz => by
    by_cases h0 : Zt base a n
    · exact h0
    · have := h.block n hn h0
      obtain ⟨h1, h2⟩ := hz
      rw [this] at h2
      exact ⟨h1, h2⟩)
section
variable {base Tb : Nat} {n : Int} {t t' : N} {w w1 : World}
theorem in_typed : ∀ {t : N}, t.In w → ∀ b ∈ t.ids, ∃ cs, w.heap[b]? = some (.cells cs 115 (0, 0))
  | .nil, _, b, h => by simp [N.ids] at h
  | .node _ _ _ _ _ _ _, ⟨h1, h2, h3, h4⟩, b, h => by
    rcases List.mem_cons.1 h with e | h
    · rw [e]; exact ⟨_, h1⟩
    · rcases List.mem_append.1 h with h | h
      · exact in_typed h2 b h
      · rcases List.mem_append.1 h with h | h
        · exact in_typed h3 b h
        · exact in_typed h4 b h
theorem Tr.below (h : Tr base Tb n t w) (hB : Below w.heap.size w w1) : Tr base Tb n t w1 := ⟨h.blk.below hB h.blk.lt, h.good.below hB, h.tb, h.ge⟩
theorem Tr.zt (h : Tr base Tb n t w) : ∀ k, (k = Tb ∨ k ∈ t.ids) → Zt base w k := fun k hk => by
  rcases hk with rfl | hk
  · exact ⟨h.ge, _, _, h.blk, .inl rfl⟩
  · obtain ⟨cs, hc⟩ := in_typed h.good.mem k hk
    exact ⟨h.good.above k hk, cs, _, hc, .inr rfl⟩
theorem Tr.big (h : Tr base Tb n t w) : base ≤ w.heap.size := Nat.le_trans h.ge (Nat.le_of_lt h.blk.lt)
/-- The root turned, and set. -/
theorem Tr.root (h : Tr base Tb n t w) (hp : Put t t' w w1) : Blk w1 Tb #[.int .i64 n, t.ptr] 95 ∧ Tr base Tb n t' (w1.setCell ⟨Tb, 1, none⟩ t'.ptr) ∧ Fr (Zt base w) w (w1.setCell ⟨Tb, 1, none⟩ t'.ptr) := by
  have hk := h.blk.fr hp.fr h.tb
  have hbig := h.big
  have hlt := h.blk.lt
  have hg := hp.good h.good hbig
  have F2 : Fr (· = Tb) w1 (w1.setCell ⟨Tb, 1, none⟩ t'.ptr) := Fr.one
  have htb : Tb ∉ t'.ids := fun e => by
    rcases hp.ids _ e with q | q
    · exact h.tb q
    · omega
  exact ⟨hk, ⟨hk.set 1 _, ⟨hg.mem.fr F2 (fun x hx e => htb (e ▸ hx)), hg.nodup, hg.above⟩, htb, h.ge⟩, (hp.fr.mono (fun x _ hx => h.zt x (.inr hx))).trans F2 (fun x _ e => h.zt x (.inl e))⟩
theorem Tr.count (h : Tr base Tb n t w) (m : Int) : Tr base Tb m t (w.setCell ⟨Tb, 0, none⟩ (.int .i64 m)) ∧ Fr (Zt base w) w (w.setCell ⟨Tb, 0, none⟩ (.int .i64 m)) := by
  have F2 : Fr (· = Tb) w (w.setCell ⟨Tb, 0, none⟩ (.int .i64 m)) := Fr.one
  exact ⟨⟨h.blk.set 0 _, ⟨h.good.mem.fr F2 (fun x hx e => h.tb (e ▸ hx)), h.good.nodup, h.good.above⟩, h.tb, h.ge⟩, F2.mono (fun x _ e => h.zt x (.inl e))⟩
end
abbrev wd (s : ByteArray) : W := s.data.toList
theorem suf0 (s : ByteArray) : suf s 0 = wd s := rfl
/-- What Get tells. -/
def got (t : T) (w : W) : Int × Bool := match T.find t w with
  | none => (0, false)
  | some v => (v, true)
theorem find_nil (t : T) : T.find t [] = none := by cases t <;> rfl
theorem wd_nil {s : ByteArray} (h : s.size = 0) : wd s = [] := List.length_eq_zero_iff.1 (by simpa using h)

theorem New_any (w : World) : Calls Try.prog 28 #[] w fun e w' => ∃ Tb, e = .returned (.pointer (some ⟨Tb, 0, none⟩)) ∧ Tr w.heap.size Tb 0 .nil w' ∧ Below w.heap.size w w' := by
  go_enter Try.func28, Try.ntmps28
  go_wp2_with fail
  go_ret
  exact ⟨w.heap.size, rfl, ⟨Blk.new w _ _, ⟨trivial, List.nodup_nil, fun b hb => by simp [N.ids] at hb⟩, by simp [N.ids], Nat.le_refl _⟩, (Below.refl _ _).alloc (Nat.le_refl _) _⟩

set_option maxHeartbeats 8000000 in
set_option maxRecDepth 100000 in
theorem Get_any (base Tb : Nat) (n : Int) (t : N) (s : ByteArray) (w : World) (hT : Tr base Tb n t w) (hs : s.size ≤ 1099511627776) :
    Calls Try.prog 42 #[.pointer (some ⟨Tb, 0, none⟩), .string s] w fun e w' => e = .returned (.tuple #[.int .i64 (got t.raw (wd s)).1, .bool (got t.raw (wd s)).2]) ∧ w' = w := by
  have HT := hid hT
  have HS := hid hs
  by_cases h0 : s.size = 0
  · have HG : Hid (got t.raw (wd s) = (0, false)) := by unfold got; rw [wd_nil h0, find_nil]; exact hid rfl
    have z1 : (s.size == 0) = true := by simp [h0]
    have z2 : ((s.size : Int) == 0) = true := by simp [h0]
    clear h0 hT
    go_enter Try.func42, Try.ntmps42
    go_wp2_with fail
    go_ret2
    exact ⟨by rw [HG.out]; rfl, rfl⟩
  · have HD : Hid (0 < s.size) := hid (by omega)
    have z1 : (s.size == 0) = false := beq_eq_false_iff_ne.2 h0
    have z2 : ((s.size : Int) == 0) = false := beq_eq_false_iff_ne.2 (by omega)
    have c1 : w.cell? ⟨Tb, 1, none⟩ = some t.ptr := hT.blk.cell 1
    obtain ⟨u, hu⟩ := t.ptr_some
    have HU := hid hu
    rw [hu] at c1
    clear h0 hT hu
    go_enter Try.func42, Try.ntmps42
    go_wp2_with fail
    rw [← HU.out]
    refine (get_any s (some ⟨Tb, 0, none⟩) HS.out t 0 w HT.out.good.mem HD.out).mono ?_
    rintro e w1 ⟨rfl, rfl⟩
    obtain ⟨w, rfl⟩ : ∃ w_, w_ = w1 := ⟨_, rfl⟩
    have HR := hid (sub_raw t (suf s 0))
    have HI := hid (sub_in t (suf s 0) HT.out.good.mem)
    generalize t.sub (suf s 0) = x at HR HI ⊢
    cases x with
    | nil =>
      have HG : Hid (got t.raw (wd s) = (0, false)) := by
        unfold got T.find
        rw [← suf0, ← HR.out]
        exact hid rfl
      rw [show N.nil.ptr = .pointer none from rfl]
      go_wp2_with fail
      go_ret2
      exact ⟨by rw [HG.out]; rfl, rfl⟩
    | node b c l m r v ok =>
      have k5 : w.cell? ⟨b, 5, none⟩ = some (.bool ok) := HI.out.1.cell 5
      have k4 : w.cell? ⟨b, 4, none⟩ = some (.int .i64 v) := HI.out.1.cell 4
      rw [show (N.node b c l m r v ok).ptr = .pointer (some ⟨b, 0, none⟩) from rfl]
      cases ok with
      | true =>
        have HG : Hid (got t.raw (wd s) = (v, true)) := by
          unfold got T.find
          rw [← suf0, ← HR.out]
          exact hid rfl
        go_wp2_with fail
        go_ret2
        exact ⟨by rw [HG.out]; rfl, rfl⟩
      | false =>
        have HG : Hid (got t.raw (wd s) = (0, false)) := by
          unfold got T.find
          rw [← suf0, ← HR.out]
          exact hid rfl
        go_wp2_with fail
        go_ret2
        exact ⟨by rw [HG.out]; rfl, rfl⟩

set_option maxHeartbeats 8000000 in
set_option maxRecDepth 100000 in
theorem Contains_any (base Tb : Nat) (n : Int) (t : N) (s : ByteArray) (w : World) (hT : Tr base Tb n t w) (hs : s.size ≤ 1099511627776) :
    Calls Try.prog 43 #[.pointer (some ⟨Tb, 0, none⟩), .string s] w fun e w' => e = .returned (.bool (got t.raw (wd s)).2) ∧ w' = w := by
  have HT := hid hT
  have HS := hid hs
  by_cases h0 : s.size = 0
  · have HG : Hid (got t.raw (wd s) = (0, false)) := by unfold got; rw [wd_nil h0, find_nil]; exact hid rfl
    have z1 : (s.size == 0) = true := by simp [h0]
    have z2 : ((s.size : Int) == 0) = true := by simp [h0]
    clear h0 hT
    go_enter Try.func43, Try.ntmps43
    go_wp2_with fail
    go_ret
    exact ⟨by rw [HG.out]; rfl, rfl⟩
  · have z1 : (s.size == 0) = false := beq_eq_false_iff_ne.2 h0
    have z2 : ((s.size : Int) == 0) = false := beq_eq_false_iff_ne.2 (by omega)
    clear h0 hT
    go_enter Try.func43, Try.ntmps43
    go_wp2_with fail
    refine (Get_any base Tb n t s w HT.out HS.out).mono ?_
    rintro e w1 ⟨rfl, rfl⟩
    go_wp2_with fail
    go_ret
    exact ⟨rfl, rfl⟩

/-- What Put and Remove make of it. -/
def putT (s : ByteArray) (val : Int) (p : Int × T) : Int × T := if s.size = 0 then p else ((if (got p.2 (wd s)).2 = true then p.1 else p.1 + 1), T.put val p.2 (wd s))
def remT (s : ByteArray) (p : Int × T) : Int × T := if s.size = 0 then p else (p.1 - 1, T.rem p.2 (wd s))
set_option maxHeartbeats 8000000 in
set_option maxRecDepth 100000 in
theorem Put_any (base Tb : Nat) (n : Int) (t : N) (s : ByteArray) (val : Int) (w : World) (hT : Tr base Tb n t w) (hs : s.size ≤ 1099511627776) (hn : -4611686018427387904 ≤ n ∧ n ≤ 4611686018427387904) :
    Calls Try.prog 40 #[.pointer (some ⟨Tb, 0, none⟩), .string s, .int .i64 val] w fun e w' => e = .returned (.tuple #[]) ∧ ∃ t' : N, t'.raw = (putT s val (n, t.raw)).2 ∧ Tr base Tb (putT s val (n, t.raw)).1 t' w' ∧ Fr (Zt base w) w w' := by
  have HT := hid hT
  have HS := hid hs
  by_cases h0 : s.size = 0
  · have HG : Hid (putT s val (n, t.raw) = (n, t.raw)) := hid (if_pos h0)
    have z1 : (s.size == 0) = true := by simp [h0]
    have z2 : ((s.size : Int) == 0) = true := by simp [h0]
    clear h0 hT
    go_enter Try.func40, Try.ntmps40
    go_wp2_with fail
    (try simp only [Exit.inBlock, Exit.then]); refine bodyPost_ret (results_none rfl _ _ _) rfl ?_
    exact ⟨rfl, t, by rw [HG.out], by rw [HG.out]; exact HT.out, Fr.refl _ _⟩
  · have HD : Hid (0 < s.size) := hid (by omega)
    have HG : Hid (putT s val (n, t.raw) = ((if (got t.raw (wd s)).2 = true then n else n + 1), T.put val t.raw (wd s))) := hid (if_neg h0)
    have z1 : (s.size == 0) = false := beq_eq_false_iff_ne.2 h0
    have z2 : ((s.size : Int) == 0) = false := beq_eq_false_iff_ne.2 (by omega)
    obtain ⟨q, hq⟩ : ∃ q, (got t.raw (wd s)).2 = q := ⟨_, rfl⟩
    rw [hq] at HG
    have HQ := hid hq
    clear h0 hT hq
    go_enter Try.func40, Try.ntmps40
    go_wp2_with fail
    refine (Contains_any base Tb n t s w HT.out HS.out).mono ?_
    rintro e w1 ⟨rfl, rfl⟩
    obtain ⟨w, rfl⟩ : ∃ w_, w_ = w1 := ⟨_, rfl⟩
    rw [HQ.out]
    have H1 : Hid (∃ W, W = (if q = true then w else w.setCell ⟨Tb, 0, none⟩ (.int .i64 (n + 1))) ∧ Tr base Tb (if q = true then n else n + 1) t W ∧ Fr (Zt base w) w W) := by
      cases q with
      | true => exact hid ⟨w, rfl, HT.out, Fr.refl _ _⟩
      | false => exact hid ⟨_, rfl, HT.out.count (n + 1)⟩
    cases q with
    | true =>
      have c1 : w.cell? ⟨Tb, 1, none⟩ = some t.ptr := HT.out.blk.cell 1
      obtain ⟨u, hu⟩ := t.ptr_some
      have HU := hid hu
      rw [hu] at c1
      clear hu
      have HPC := hid (put_any base s val (some ⟨Tb, 0, none⟩) HS.out (s.size - 1) 0 (by have := HD.out; omega) t)
      go_wp2_with fail
      rw [← HU.out]
      refine (HPC.out w HT.out.good HT.out.big).mono ?_
      rintro e w1 ⟨t', rfl, hraw, hput⟩
      obtain ⟨hk, hr1, hr2⟩ := HT.out.root hput
      have H2 := hid (And.intro hraw (And.intro hr1 hr2))
      have d1 : w1.cell? ⟨Tb, 1, none⟩ = some t.ptr := hk.cell 1
      have f1 : w1.frozen? ⟨Tb, 1, none⟩ = false := hk.free 1
      obtain ⟨u', hu'⟩ := t'.ptr_some
      rw [hu'] at H2 ⊢
      clear hraw hput hk hr1 hr2 hu'
      go_wp2_with fail
      go_end0
      exact ⟨rfl, t', by rw [HG.out]; exact H2.out.1, by rw [HG.out]; exact H2.out.2.1, H2.out.2.2⟩
    | false =>
      have c1 : w.cell? ⟨Tb, 1, none⟩ = some t.ptr := HT.out.blk.cell 1
      have c0 : w.cell? ⟨Tb, 0, none⟩ = some (.int .i64 n) := HT.out.blk.cell 0
      have f0 : w.frozen? ⟨Tb, 0, none⟩ = false := HT.out.blk.free 0
      obtain ⟨u, hu⟩ := t.ptr_some
      have HU := hid hu
      rw [hu] at c1
      clear hu
      have HPC := hid (put_any base s val (some ⟨Tb, 0, none⟩) HS.out (s.size - 1) 0 (by have := HD.out; omega) t)
      have HC := hid (HT.out.count (n + 1))
      go_wp2_with fail
      rw [← HU.out]
      refine (HPC.out (w.setCell ⟨Tb, 0, none⟩ (.int .i64 (n + 1))) HC.out.1.good HC.out.1.big).mono ?_
      rintro e w1 ⟨t', rfl, hraw, hput⟩
      obtain ⟨hk, hr1, hr2⟩ := HC.out.1.root hput
      have H2 := hid (And.intro hraw (And.intro hr1 (zt_trans HC.out.2 hr2)))
      have d1 : w1.cell? ⟨Tb, 1, none⟩ = some t.ptr := hk.cell 1
      have f1 : w1.frozen? ⟨Tb, 1, none⟩ = false := hk.free 1
      obtain ⟨u', hu'⟩ := t'.ptr_some
      rw [hu'] at H2 ⊢
      clear hraw hput hk hr1 hr2 hu'
      go_wp2_with fail
      go_end0
      exact ⟨rfl, t', by rw [HG.out]; exact H2.out.1, by rw [HG.out]; exact H2.out.2.1, H2.out.2.2⟩

set_option maxHeartbeats 8000000 in
set_option maxRecDepth 100000 in
theorem Remove_any (base Tb : Nat) (n : Int) (t : N) (s : ByteArray) (w : World) (hT : Tr base Tb n t w) (hs : s.size ≤ 1099511627776) (hn : -4611686018427387904 ≤ n ∧ n ≤ 4611686018427387904) :
    Calls Try.prog 41 #[.pointer (some ⟨Tb, 0, none⟩), .string s] w fun e w' => e = .returned (.tuple #[]) ∧ ∃ t' : N, t'.raw = (remT s (n, t.raw)).2 ∧ Tr base Tb (remT s (n, t.raw)).1 t' w' ∧ Fr (Zt base w) w w' := by
  have HT := hid hT
  have HS := hid hs
  by_cases h0 : s.size = 0
  · have HG : Hid (remT s (n, t.raw) = (n, t.raw)) := hid (if_pos h0)
    have z1 : (s.size == 0) = true := by simp [h0]
    have z2 : ((s.size : Int) == 0) = true := by simp [h0]
    clear h0 hT
    go_enter Try.func41, Try.ntmps41
    go_wp2_with fail
    (try simp only [Exit.inBlock, Exit.then]); refine bodyPost_ret (results_none rfl _ _ _) rfl ?_
    exact ⟨rfl, t, by rw [HG.out], by rw [HG.out]; exact HT.out, Fr.refl _ _⟩
  · have HD : Hid (0 < s.size) := hid (by omega)
    have HG : Hid (remT s (n, t.raw) = (n - 1, T.rem t.raw (wd s))) := hid (if_neg h0)
    have z1 : (s.size == 0) = false := beq_eq_false_iff_ne.2 h0
    have z2 : ((s.size : Int) == 0) = false := beq_eq_false_iff_ne.2 (by omega)
    have c1 : w.cell? ⟨Tb, 1, none⟩ = some t.ptr := hT.blk.cell 1
    obtain ⟨u, hu⟩ := t.ptr_some
    have HU := hid hu
    rw [hu] at c1
    clear h0 hT hu
    have HPC := hid (rem_any base s (some ⟨Tb, 0, none⟩) HS.out (s.size - 1) 0 (by have := HD.out; omega) t)
    go_enter Try.func41, Try.ntmps41
    go_wp2_with fail
    rw [← HU.out]
    refine (HPC.out w HT.out.good HT.out.big).mono ?_
    rintro e w1 ⟨t', rfl, hraw, hput⟩
    obtain ⟨hk, hr1, hr2⟩ := HT.out.root hput
    obtain ⟨hr3, hr4⟩ := hr1.count (n - 1)
    have H2 := hid (And.intro hraw (And.intro hr3 (zt_trans hr2 hr4)))
    have d1 : w1.cell? ⟨Tb, 1, none⟩ = some t.ptr := hk.cell 1
    have f1 : w1.frozen? ⟨Tb, 1, none⟩ = false := hk.free 1
    have d0 : w1.cell? ⟨Tb, 0, none⟩ = some (.int .i64 n) := hk.cell 0
    have f0 : w1.frozen? ⟨Tb, 0, none⟩ = false := hk.free 0
    obtain ⟨u', hu'⟩ := t'.ptr_some
    rw [hu'] at H2 ⊢
    clear hraw hput hk hr1 hr2 hr3 hr4 hu'
    go_wp2_with fail
    go_end0
    exact ⟨rfl, t', by rw [HG.out]; exact H2.out.1, by rw [HG.out]; exact H2.out.2.1, H2.out.2.2⟩

theorem Size_any (base Tb : Nat) (n : Int) (t : N) (w : World) (hT : Tr base Tb n t w) :
    Calls Try.prog 47 #[.pointer (some ⟨Tb, 0, none⟩)] w fun e w' => e = .returned (.int .i64 n) ∧ w' = w := by
  have c0 : w.cell? ⟨Tb, 0, none⟩ = some (.int .i64 n) := hT.blk.cell 0
  clear hT
  go_enter Try.func47, Try.ntmps47
  go_wp2_with fail
  go_ret
  exact ⟨rfl, rfl⟩
def N.cnt : N → Nat
  | .nil => 0
  | .node _ _ l m r _ _ => l.cnt + m.cnt + r.cnt + 1
/-- What LongestPrefix tells. -/
def longS (t : T) (s : ByteArray) : ByteArray := s.extract 0 (T.long t (wd s) 0 0)
theorem long_le : ∀ (t : T) (q : W) (i best : Nat), best ≤ i → T.long t q i best ≤ i + q.length
  | .nil, _, _, _, h => by simp only [T.long]; omega
  | .node _ _ _ _ _ _, [], _, _, h => by simp only [T.long]; omega
  | .node c l m r _ ok, k :: ks, i, best, h => by
    simp only [T.long]
    split
    · exact long_le l _ i best h
    · split
      · exact long_le r _ i best h
      · have := long_le m ks (i + 1) (if ok = true then i + 1 else best) (by split <;> omega)
        simp only [List.length_cons]
        omega

set_option maxHeartbeats 8000000 in
set_option maxRecDepth 100000 in
theorem Longest_any (base Tb : Nat) (n : Int) (t : N) (s : ByteArray) (w : World) (hT : Tr base Tb n t w) (hs : s.size ≤ 1099511627776) :
    Calls Try.prog 46 #[.pointer (some ⟨Tb, 0, none⟩), .string s] w fun e w' => e = .returned (.string (longS t.raw s)) ∧ w' = w := by
  have HT := hid hT
  have HS := hid hs
  by_cases h0 : s.size = 0
  · have HG : Hid (longS t.raw s = ⟨#[]⟩) := by
      have e : s = ⟨#[]⟩ := by
        apply ByteArray.ext
        exact Array.eq_empty_of_size_eq_zero h0
      subst e
      unfold longS
      exact hid (by apply ByteArray.ext; simp)
    have z1 : (s.size == 0) = true := by simp [h0]
    have z2 : ((s.size : Int) == 0) = true := by simp [h0]
    clear h0 hT
    go_enter Try.func46, Try.ntmps46
    go_wp2_with fail
    go_ret
    exact ⟨by rw [HG.out]; rfl, rfl⟩
  · have z1 : (s.size == 0) = false := beq_eq_false_iff_ne.2 h0
    have z2 : ((s.size : Int) == 0) = false := beq_eq_false_iff_ne.2 (by omega)
    have c1 : w.cell? ⟨Tb, 1, none⟩ = some t.ptr := hT.blk.cell 1
    obtain ⟨u0, hu0⟩ := t.ptr_some
    have HU0 := hid hu0
    rw [hu0] at c1
    obtain ⟨L, hL⟩ : ∃ L, T.long t.raw (wd s) 0 0 = L := ⟨_, rfl⟩
    have HL0 := hid hL
    have HLS : Hid (L ≤ s.size) := by
      have h_ := long_le t.raw (wd s) 0 0 (Nat.le_refl _)
      rw [hL] at h_
      have h2_ : (wd s).length = s.size := by simp
      exact hid (by omega)
    clear h0 hT hu0 hL
    go_enter Try.func46, Try.ntmps46
    go_wp2_with fail
    go_loopg [5, 6, 7] t.cnt (fun gk v5 v6 v7 wr => ∃ (x : N) (i len : Nat), v5 = .int .i64 (len : Int) ∧ v6 = x.ptr ∧ v7 = .int .i64 (i : Int) ∧ Hid (wr = w) ∧ Hid (x.In w) ∧ Hid (len ≤ i ∧ i ≤ s.size) ∧ Hid (T.long x.raw (suf s i) i len = L) ∧ Hid (x.cnt ≤ gk))
    case atStart => exact ⟨t, 0, 0, rfl, by rw [HU0.out], rfl, hid rfl, hid HT.out.good.mem, hid ⟨Nat.le_refl _, Nat.zero_le _⟩, HL0, hid (Nat.le_refl _)⟩
    case round =>
      obtain ⟨x, i, len, rfl, rfl, rfl, hw, HI, HLE, HL, HG⟩ := hrel
      obtain rfl := hw.out
      clear hw c1
      have hle1 : len ≤ s.size := by have := HLE.out; omega
      have hle2 : i ≤ s.size := HLE.out.2
      cases x with
      | nil =>
        have HE : Hid (len = L) := hid HL.out
        rw [show N.nil.ptr = .pointer none from rfl]
        go_wp2_with fail
        go_ret
        exact ⟨by unfold longS; rw [HL0.out, ← HE.out]; rfl, rfl⟩
      | node b c l m r v ok =>
        rw [show (N.node b c l m r v ok).ptr = .pointer (some ⟨b, 0, none⟩) from rfl]
        by_cases hin : i < s.size
        · obtain ⟨kg, rfl⟩ : ∃ kg, gk = kg + 1 := ⟨gk - 1, by have h_ := HG.out; simp only [N.cnt] at h_; omega⟩
          have HX := hid (suf_cons s i hin)
          have HLT := hid hin
          have hin1 : (i : Int) < (s.size : Int) := by omega
          have hin2 : decide ((i : Int) < (s.size : Int)) = true := decide_eq_true hin1
          have hin3 : decide (i < s.size) = true := decide_eq_true hin
          have k0 : wr.cell? ⟨b, 0, none⟩ = some (.int .u8 (c.toNat : Int)) := HI.out.1.cell 0
          have k5 : wr.cell? ⟨b, 5, none⟩ = some (.bool ok) := HI.out.1.cell 5
          by_cases h1 : s[i] < c
          · have h1' : (s[i]).toNat < (c).toNat := u_lt.1 h1
            have h1i : decide (((s[i]).toNat : Int) < ((c).toNat : Int)) = true := decide_eq_true (by omega)
            have h1n : decide ((s[i]).toNat < (c).toNat) = true := decide_eq_true h1'
            have HE : Hid (T.long l.raw (suf s i) i len = L) := by
              have h_ := HL.out
              rw [HX.out] at h_ ⊢
              exact hid ((if_pos h1 : T.long (.node c l.raw m.raw r.raw v ok) (s[i] :: suf s (i + 1)) i len = T.long l.raw (s[i] :: suf s (i + 1)) i len).symm.trans h_)
            clear h1
            obtain ⟨u, hu⟩ := l.ptr_some
            have kp : wr.cell? ⟨b, 1, none⟩ = some (.pointer u) := by rw [← hu]; exact HI.out.1.cell 1
            have HU := hid hu
            clear hu
            go_wp2_with fail
            go_roundg kg
            case measure => omega
            case rel => exact ⟨l, i, len, rfl, by rw [HU.out], rfl, hid rfl, hid HI.out.2.1, HLE, HE, hid (by have h_ := HG.out; simp only [N.cnt] at h_; omega)⟩
          by_cases h2 : c < s[i]
          · have h2' : (c).toNat < (s[i]).toNat := u_lt.1 h2
            have h1' : ¬ (s[i]).toNat < (c).toNat := by omega
            have h1i : decide (((s[i]).toNat : Int) < ((c).toNat : Int)) = false := decide_eq_false (by omega)
            have h1n : decide ((s[i]).toNat < (c).toNat) = false := decide_eq_false h1'
            have h2i : decide (((c).toNat : Int) < ((s[i]).toNat : Int)) = true := decide_eq_true (by omega)
            have h2n : decide ((c).toNat < (s[i]).toNat) = true := decide_eq_true h2'
            have HE : Hid (T.long r.raw (suf s i) i len = L) := by
              have h_ := HL.out
              rw [HX.out] at h_ ⊢
              exact hid (((if_neg h1).trans (if_pos h2) : T.long (.node c l.raw m.raw r.raw v ok) (s[i] :: suf s (i + 1)) i len = T.long r.raw (s[i] :: suf s (i + 1)) i len).symm.trans h_)
            clear h1 h2
            obtain ⟨u, hu⟩ := r.ptr_some
            have kp : wr.cell? ⟨b, 3, none⟩ = some (.pointer u) := by rw [← hu]; exact HI.out.1.cell 3
            have HU := hid hu
            clear hu
            go_wp2_with fail
            go_roundg kg
            case measure => omega
            case rel => exact ⟨r, i, len, rfl, by rw [HU.out], rfl, hid rfl, hid HI.out.2.2.2, HLE, HE, hid (by have h_ := HG.out; simp only [N.cnt] at h_; omega)⟩
          have h1' : ¬ (s[i]).toNat < (c).toNat := fun e => h1 (u_lt.2 e)
          have h2' : ¬ (c).toNat < (s[i]).toNat := fun e => h2 (u_lt.2 e)
          have h1i : decide (((s[i]).toNat : Int) < ((c).toNat : Int)) = false := decide_eq_false (by omega)
          have h1n : decide ((s[i]).toNat < (c).toNat) = false := decide_eq_false h1'
          have h2i : decide (((c).toNat : Int) < ((s[i]).toNat : Int)) = false := decide_eq_false (by omega)
          have h2n : decide ((c).toNat < (s[i]).toNat) = false := decide_eq_false h2'
          obtain ⟨u, hu⟩ := m.ptr_some
          have kp : wr.cell? ⟨b, 2, none⟩ = some (.pointer u) := by rw [← hu]; exact HI.out.1.cell 2
          have HU := hid hu
          clear hu
          cases ok with
          | true =>
            have HE : Hid (T.long m.raw (suf s (i + 1)) (i + 1) (i + 1) = L) := by
              have h_ := HL.out
              rw [HX.out] at h_
              exact hid (((if_neg h1).trans (if_neg h2) : T.long (.node c l.raw m.raw r.raw v true) (s[i] :: suf s (i + 1)) i len = T.long m.raw (suf s (i + 1)) (i + 1) (i + 1)).symm.trans h_)
            clear h1 h2
            go_wp2_with fail
            go_roundg kg
            case measure => omega
            case rel => exact ⟨m, i + 1, (i + 1), by go_num, by rw [HU.out], by go_num, hid rfl, hid HI.out.2.2.1, hid (by have h_ := HLE.out; have h2_ := HLT.out; omega), HE, hid (by have h_ := HG.out; simp only [N.cnt] at h_; omega)⟩
          | false =>
            have HE : Hid (T.long m.raw (suf s (i + 1)) (i + 1) len = L) := by
              have h_ := HL.out
              rw [HX.out] at h_
              exact hid (((if_neg h1).trans (if_neg h2) : T.long (.node c l.raw m.raw r.raw v false) (s[i] :: suf s (i + 1)) i len = T.long m.raw (suf s (i + 1)) (i + 1) len).symm.trans h_)
            clear h1 h2
            go_wp2_with fail
            go_roundg kg
            case measure => omega
            case rel => exact ⟨m, i + 1, len, rfl, by rw [HU.out], by go_num, hid rfl, hid HI.out.2.2.1, hid (by have h_ := HLE.out; have h2_ := HLT.out; omega), HE, hid (by have h_ := HG.out; simp only [N.cnt] at h_; omega)⟩
        · have hin1 : ¬ (i : Int) < (s.size : Int) := by omega
          have hin2 : decide ((i : Int) < (s.size : Int)) = false := decide_eq_false hin1
          have hin3 : decide (i < s.size) = false := decide_eq_false hin
          have HE : Hid (len = L) := by
            have h_ := HL.out
            rw [suf_nil s i (by omega)] at h_
            exact hid h_
          go_wp2_with fail
          go_ret
          exact ⟨by unfold longS; rw [HL0.out, ← HE.out]; rfl, rfl⟩
end Go.Proofs.Ytkgbflcbeeghoaa.Trie
