/- Stacks in memory: one stack's block and row; New, Push, Pop, Peek, Size, Copy. For every stack. -/
import Derived.Test.YtmhnhfmkcipcpaaHeapF
namespace Go.Proofs.Ytmhnhfmkcipcpaa.Stack
open Go Go.RowKit Go.Proofs.Ytmhnhfmkcipcpaa.Hk Go.Proofs.Ytmhnhfmkcipcpaa.HeapPure Go.Proofs.Ytmhnhfmkcipcpaa.Heap Go.Proofs.YtmhnhfmkcipcpaaW.PrintWords Go.Proofs.YtmhnhfmkcipcpaaW.PrintLast Go.Proofs.YtmhnhfmkcipcpaaW.PrintMore

/-- A stack: its block, and its row. -/
structure One (base b : Nat) (v : Value) (xs : List Int) (w : World) : Prop where
  blk : Blk w b #[v] 107
  row : Ro w base v xs
  ge : base ≤ b
section
variable {base b : Nat} {xs ys : List Int} {v v1 : Value} {w w1 : World}
theorem One.ne (h : One base b v xs w) : some b ≠ v.ownBlock := Kd.R_ne h.row h.blk (by decide)
theorem One.below (h : One base b v xs w) (hb : Below w.heap.size w w1) : One base b v xs w1 := ⟨h.blk.below hb h.blk.lt, Kd.R_below h.row hb, h.ge⟩
theorem One.drewN (h : One base b v xs w) (n : Nat) : One base b v xs (w.drewN n) := ⟨h.blk.drewN n, h.row.drewN n, h.ge⟩
theorem One.fr {Z : Nat → Prop} (h : One base b v xs w) (hF : Fr Z w w1) (h1 : ¬ Z b) (h2 : ∀ k, v.ownBlock = some k → ¬ Z k) : One base b v xs w1 := ⟨h.blk.fr hF h1, h.row.fr hF h2, h.ge⟩
theorem One.slice (h : One base b v xs w) : ∃ A c, v = .slice A xs.length c := Kd.R_slice h.row
theorem One.store (h : One base b v xs w) (hr : Ro w base v1 ys) : One base b v1 ys (w.setCell ⟨b, 0, none⟩ v1) :=
  ⟨h.blk.set 0 _, hr.fr (Fr.one (b := b) (i := 0)) (fun k hk e => Kd.R_ne hr h.blk (by decide) (by rw [hk, e])), h.ge⟩
end

set_option maxHeartbeats 4000000 in
set_option maxRecDepth 100000 in
theorem new_any (w : World) : Calls Try.prog 30 #[] w fun e w' => ∃ b v, e = .returned (.pointer (some ⟨b, 0, none⟩)) ∧ One w.heap.size b v [] w' ∧ v.ownBlock = none ∧ Below w.heap.size w w' := by
  go_enter Try.func30, Try.ntmps30
  go_wp2_with fail
  go_ret
  exact ⟨w.heap.size, .slice none 0 0, rfl, ⟨Blk.new w _ _, Kd.R_nil .., Nat.le_refl _⟩, rfl, (Below.refl _ _).alloc (Nat.le_refl _) _⟩

set_option maxHeartbeats 4000000 in
set_option maxRecDepth 100000 in
theorem size_any (base b : Nat) (v : Value) (xs : List Int) (w : World) (hH : One base b v xs w) :
    Calls Try.prog 35 #[.pointer (some ⟨b, 0, none⟩)] w fun e w' => e = .returned (.int .i64 xs.length) ∧ w' = w := by
  obtain ⟨A, c, rfl⟩ := hH.slice
  have c0 : w.cell? ⟨b, 0, none⟩ = some (.slice A xs.length c) := hH.blk.cell 0
  clear hH
  go_enter Try.func35, Try.ntmps35
  go_wp2_with fail
  go_ret
  exact ⟨rfl, rfl⟩

/-- The last number, or nought. -/
def top (xs : List Int) : Int := at_ xs (xs.length - 1)
theorem top_nil {xs : List Int} (h : xs.length = 0) : top xs = 0 := by rw [List.length_eq_zero_iff.1 h]; rfl

set_option maxHeartbeats 4000000 in
set_option maxRecDepth 100000 in
theorem peek_any (base b : Nat) (v : Value) (xs : List Int) (w : World) (hH : One base b v xs w) (hl : xs.length ≤ 1099511627776) :
    Calls Try.prog 34 #[.pointer (some ⟨b, 0, none⟩)] w fun e w' => e = .returned (.int .i64 (top xs)) ∧ ∃ n, w' = w.drewN n := by
  by_cases h0 : xs.length = 0
  · obtain ⟨A, c, rfl⟩ := hH.slice
    have c0 : w.cell? ⟨b, 0, none⟩ = some (.slice A xs.length c) := hH.blk.cell 0
    rw [h0] at c0
    have HT : Hid (top xs = 0) := hid (top_nil h0)
    clear hH h0
    go_enter Try.func34, Try.ntmps34
    go_wp2_with fail
    go_ret
    exact ⟨by rw [HT.out]; rfl, 0, rfl⟩
  · obtain ⟨g, c, rfl, _, _, _⟩ := Kd.R_form hH.row (by omega)
    obtain ⟨y, hy⟩ : ∃ y, at_ xs (xs.length - 1) = y := ⟨_, rfl⟩
    have HT : Hid (top xs = y) := hid hy
    have c0 : w.cell? ⟨b, 0, none⟩ = some (.slice (some ⟨g, 0, none⟩) xs.length c) := hH.blk.cell 0
    have c2 : w.cell? ⟨g, xs.length - 1, none⟩ = some (.int .i64 y) := by rw [← hy]; exact ro_cell hH.row (xs.length - 1) (by omega)
    clear hH hy
    generalize xs.length = n at h0 c0 c2 hl
    obtain ⟨m, hm⟩ : ∃ m, n - 1 = m := ⟨_, rfl⟩
    have hz : (n == 0) = false := beq_eq_false_iff_ne.2 h0
    have hz2 : ((n : Int) == 0) = false := beq_eq_false_iff_ne.2 (by omega)
    have hq : (n : Int) - 1 = (m : Int) := by omega
    have hp2 : (m : Int) < (n : Int) := by omega
    have hw : IntKind.i64.wrap (m : Int) = (m : Int) := IntWalk.i64_in _ (by omega)
    rw [hm] at c2
    clear hm
    go_enter Try.func34, Try.ntmps34
    go_wp2_with fail
    go_still_tail 12, (by kernel_rfl)
    go_wp2_with fail
    go_ret
    exact ⟨by rw [HT.out]; rfl, 1, rfl⟩

set_option maxHeartbeats 4000000 in
set_option maxRecDepth 100000 in
theorem pop_any (base b : Nat) (v : Value) (xs : List Int) (w : World) (hH : One base b v xs w) (hl : xs.length ≤ 1099511627776) :
    Calls Try.prog 33 #[.pointer (some ⟨b, 0, none⟩)] w fun e w' => e = .returned (.int .i64 (top xs)) ∧ ∃ v', One base b v' (xs.take (xs.length - 1)) w' ∧ v'.ownBlock = v.ownBlock ∧ Fr (· = b) w w' := by
  by_cases h0 : xs.length = 0
  · have HH := hid hH
    have HE : Hid (xs.take (xs.length - 1) = xs) := by rw [List.length_eq_zero_iff.1 h0]; exact hid rfl
    obtain ⟨A, c, rfl⟩ := hH.slice
    have c0 : w.cell? ⟨b, 0, none⟩ = some (.slice A xs.length c) := hH.blk.cell 0
    rw [h0] at c0
    have HT : Hid (top xs = 0) := hid (top_nil h0)
    clear hH h0
    go_enter Try.func33, Try.ntmps33
    go_wp2_with fail
    go_ret
    exact ⟨by rw [HT.out]; rfl, _, by rw [HE.out]; exact HH.out, rfl, Fr.refl _ _⟩
  · obtain ⟨g, c, rfl, _, _, _⟩ := Kd.R_form hH.row (by omega)
    obtain ⟨y, hy⟩ : ∃ y, at_ xs (xs.length - 1) = y := ⟨_, rfl⟩
    have HT : Hid (top xs = y) := hid hy
    have HH := hid hH
    have c0 : w.cell? ⟨b, 0, none⟩ = some (.slice (some ⟨g, 0, none⟩) xs.length c) := hH.blk.cell 0
    have f0 : w.frozen? ⟨b, 0, none⟩ = false := hH.blk.free 0
    have c2 : w.cell? ⟨g, xs.length - 1, none⟩ = some (.int .i64 y) := by rw [← hy]; exact ro_cell hH.row (xs.length - 1) (by omega)
    clear hH hy
    obtain ⟨n, hn⟩ : ∃ n, xs.length = n := ⟨_, rfl⟩
    obtain ⟨m, hm⟩ : ∃ m, n - 1 = m := ⟨_, rfl⟩
    have HN : Hid (xs.length = n ∧ n - 1 = m) := ⟨hn, hm⟩
    rw [hn] at h0 c0 c2 hl HH
    have hz : (n == 0) = false := beq_eq_false_iff_ne.2 h0
    have hz2 : ((n : Int) == 0) = false := beq_eq_false_iff_ne.2 (by omega)
    have hq : (n : Int) - 1 = (m : Int) := by omega
    have hp2 : (m : Int) < (n : Int) := by omega
    have HMX : Hid (m ≤ xs.length) := hid (by omega)
    have hw : IntKind.i64.wrap (m : Int) = (m : Int) := IntWalk.i64_in _ (by omega)
    rw [hm] at c2
    clear hm hn
    go_enter Try.func33, Try.ntmps33
    go_wp2_with fail
    go_still_tail 12, (by kernel_rfl)
    go_wp2_with fail
    change Code.wp _ _ _ _ w.drew
    have HH2 := hid (HH.out.drewN 1)
    have d0 : w.drew.cell? ⟨b, 0, none⟩ = some (.slice (some ⟨g, 0, none⟩) n c) := c0
    have e0 : w.drew.frozen? ⟨b, 0, none⟩ = false := f0
    have HF1 : Hid (Fr (· = b) w w.drew) := hid (Fr.refl _ _).drew
    change Hid (One base b _ xs w.drew) at HH2
    clear c0 f0 c2
    generalize w.drew = w1 at HH2 d0 e0 HF1 ⊢
    obtain ⟨i3, hi3, _⟩ := Option.map_eq_some_iff.1 info3
    have hnc : n ≤ c := (Kd.R_reads' HH2.out.row).2.1
    have hcut := cut_to (P := Try.prog) 30 3 .i64 Try.underlying30 hi3 (some ⟨g, 0, none⟩) n c (m : Int) (by omega) (by omega) hnc
    rw [Int.toNat_natCast] at hcut
    clear hi3 hnc
    have H3 : Hid (One base b (.slice (some ⟨g, 0, none⟩) m c) (xs.take m) (w1.drew.setCell ⟨b, 0, none⟩ (.slice (some ⟨g, 0, none⟩) m c))) :=
      (HH2.out.drewN 1).store (w := w1.drew) (Kd.R_take (Kd.R_drewN HH2.out.row 1) HMX.out)
    go_still_tail 12, (by kernel_rfl)
    change wpList _ _ _ _ _ w1.drew
    have d0' : w1.drew.cell? ⟨b, 0, none⟩ = some (.slice (some ⟨g, 0, none⟩) n c) := d0
    have e0' : w1.drew.frozen? ⟨b, 0, none⟩ = false := e0
    go_wp2_with fail
    go_ret
    exact ⟨by rw [HT.out]; rfl, .slice (some ⟨g, 0, none⟩) m c, by rw [HN.out.1, HN.out.2]; exact H3.out, rfl, HF1.out.then (((Fr.refl _ _).drew).then Fr.one)⟩

set_option maxHeartbeats 4000000 in
set_option maxRecDepth 100000 in
theorem push_any (base b : Nat) (v : Value) (xs : List Int) (x : Int) (w : World) (hH : One base b v xs w) (hb : base ≤ w.heap.size) (hl : xs.length ≤ 1099511627776) :
    Calls Try.prog 32 #[.pointer (some ⟨b, 0, none⟩), .int .i64 x] w fun e w' => e = .returned (.tuple #[]) ∧ ∃ v', One base b v' (xs ++ [x]) w' ∧ (v'.ownBlock = v.ownBlock ∨ ∃ g, v'.ownBlock = some g ∧ w.heap.size ≤ g) ∧ Fr (fun k => k = b ∨ v.ownBlock = some k) w w' := by
  obtain ⟨A, c, rfl⟩ := hH.slice
  have HV := hid hH
  have HB := hid hb
  have HL := hid hl
  have c0 : w.cell? ⟨b, 0, none⟩ = some (.slice A xs.length c) := hH.blk.cell 0
  clear hH hb hl
  go_enter Try.func32, Try.ntmps32
  go_wp2_with ((with_reducible refine gate_builtin (b := .append) (xs := #[.tmp 8, .tmp 10]) rfl ?_); at_builtin
               refine Kd.R_append (W := w) (Kd.int .i64) (w0 := w) base rfl (.tmp 8) (.tmp 10) 30 3 (.int .i64 0) 8 rfl Try.underlying30 info3 rfl (by decide) (by omega) (.slice A xs.length c) xs x [.int .i64 x] (fun _ => True) (fun _ => False) rfl rfl ?aP (fun _ hk => hk.elim) (fun _ _ => trivial) ?aO ?aB ?aS ?aL ?_
               case aP => exact rfl
               case aO => exact HV.out.row
               case aB => exact Below.refl _ _
               case aS => exact HB.out
               case aL => have := HL.out; omega
               intro v1 w1 ho _ hg hat
               obtain ⟨A1, c1, rfl⟩ := Kd.R_slice ho
               have HO : Hid (Ro w1 base (.slice A1 (xs ++ [x]).length c1) (xs ++ [x]) ∧ w.grownBy w1 (Value.slice A xs.length c).ownBlock ∧ ((Value.slice A1 (xs ++ [x]).length c1).ownBlock = (Value.slice A xs.length c).ownBlock ∨ ∃ g, (Value.slice A1 (xs ++ [x]).length c1).ownBlock = some g ∧ w.heap.size ≤ g)) := ⟨ho, hg, hat⟩
               have HBk : Hid (One base b (.slice A xs.length c) xs w1 ∨ Blk w1 b #[.slice A xs.length c] 107) := hid (.inr (HV.out.blk.fr (Fr.of_grown hg) (fun e => HV.out.ne e)))
               have HBl : Hid (Blk w1 b #[.slice A xs.length c] 107) := hid (HV.out.blk.fr (Fr.of_grown hg) (fun e => HV.out.ne e))
               have f0 : w1.frozen? ⟨b, 0, none⟩ = false := HBl.out.free 0
               have d0 : w1.cell? ⟨b, 0, none⟩ = some (.slice A xs.length c) := HBl.out.cell 0
               clear ho hg hat c0)
  go_end0
  have hF : Fr (fun k => k = b ∨ (Value.slice A xs.length c).ownBlock = some k) w (w1.setCell ⟨b, 0, none⟩ (.slice A1 (xs ++ [x]).length c1)) :=
    ((Fr.of_grown HO.out.2.1).mono (fun n _ hz => .inr hz.symm)).setCell (p := ⟨b, 0, none⟩) (fun _ => .inl rfl) _
  have hrow : Ro (w1.setCell ⟨b, 0, none⟩ (.slice A1 (xs ++ [x]).length c1)) base (.slice A1 (xs ++ [x]).length c1) (xs ++ [x]) := HO.out.1.fr (Fr.one (b := b) (i := 0)) (fun k hk e => Kd.R_ne HO.out.1 HBl.out (by decide) (by rw [hk, e]))
  have hl2 : (xs ++ [x]).length = xs.length + 1 := by simp
  have hat := HO.out.2.2
  have hbl := HBl.out.set 0 (.slice A1 (xs ++ [x]).length c1)
  rw [hl2] at hF hrow hat hbl
  exact ⟨rfl, _, ⟨hbl, hrow, HV.out.ge⟩, hat, hF⟩

set_option maxHeartbeats 4000000 in
set_option maxRecDepth 100000 in
theorem copy_any (base b : Nat) (v : Value) (xs : List Int) (w : World) (hH : One base b v xs w) (hl : xs.length ≤ 1099511627776) :
    Calls Try.prog 36 #[.pointer (some ⟨b, 0, none⟩)] w fun e w' => ∃ b' v', e = .returned (.pointer (some ⟨b', 0, none⟩)) ∧ One w.heap.size b' v' xs w' ∧ Below w.heap.size w w' := by
  obtain ⟨A, c, rfl⟩ := hH.slice
  have HV := hid hH
  have HL := hid hl
  have c0 : w.cell? ⟨b, 0, none⟩ = some (.slice A xs.length c) := hH.blk.cell 0
  have HC := hid (Kd.R_reads' hH.row).2.2
  clear hH hl
  go_enter Try.func36, Try.ntmps36
  go_wp2_with (first | ((with_reducible refine gate_dst (N := 9) rfl ?_); refine Kd.R_make (Kd.int .i64) (w0 := w) w.heap.size 3 rfl (N := 9) rfl 30 (.tmp 8) (.tmp 8) rfl (xs.length : Int) rfl rfl Try.underlying30 (.int .i64 0) 8 info3 rfl (by decide) (by omega) (0 : Int) (ok := fun _ => True) (okp := fun _ => False) ?hz (fun _ hk => hk.elim) trivial ?h0 ?hl (Below.refl _ _) (Nat.le_refl _) ?_; (case hz => rfl); (case h0 => exact Int.natCast_nonneg _); (case hl => have h_ := HL.out; rw [Int.toNat_natCast]; omega); intro v1 w1 ho hb hg_ hnew_; rw [Int.toNat_natCast] at ho; obtain ⟨A_, c_, rfl⟩ := Kd.R_slice ho; have HO := hid (And.intro ho hb); rw [List.length_replicate] at HO; have d0 : w1.cell? ⟨b, 0, none⟩ = some (.slice A xs.length c) := (HV.out.blk.below hb HV.out.blk.lt).cell 0; clear hg_ hnew_ ho hb c0) | ((with_reducible refine gate_builtin (b := .copy) (xs := #[.tmp 10, .tmp 14]) rfl ?_); refine Kd.R_copy (enc := Value.int .i64) (h1 := fun _ => rfl) (0 : Int) (w0 := w) w.heap.size rfl (.tmp 10) (.tmp 14) 30 30 3 rfl Try.underlying30 ?hi _ (List.replicate xs.length 0) xs A xs.length c (fun _ => True) rfl rfl HO.out.1 (Kd.C_below HC.out HO.out.2) HO.out.2 HO.out.2.size ?_; (case hi => kernel_rfl); intro w2 hr hb hg; have H2 := hid (And.intro hr hb); clear hr hb hg HO d0))
  have H3 : Hid (Ro w2 w.heap.size (.slice A_ xs.length c_) xs ∧ Below w.heap.size w w2) := by
    have h1 := H2.out.1
    rw [List.length_replicate, Nat.min_self, List.take_length, List.drop_of_length_le (by rw [List.length_replicate]; exact Nat.le_refl _), List.append_nil] at h1
    exact hid ⟨h1, H2.out.2⟩
  clear H2
  go_ret
  have h1 : Below w2.heap.size w2 (w2.alloc (.cells #[.slice A_ xs.length c_] 107)) := (Below.refl _ _).alloc (Nat.le_refl _) _
  exact ⟨w2.heap.size, _, rfl, ⟨Blk.new w2 _ _, Kd.R_below H3.out.1 h1, H3.out.2.size⟩, below_at H3.out.2 h1 H3.out.2.size⟩
end Go.Proofs.Ytmhnhfmkcipcpaa.Stack
