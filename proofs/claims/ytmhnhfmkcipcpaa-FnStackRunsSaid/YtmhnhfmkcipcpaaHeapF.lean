/- Binary heaps in memory: rows copied, the order made, New, From, FromSlice. For every table and every row. -/
import Derived.Test.YtmhnhfmkcipcpaaHeapE
import Derived.Test.YtmhnhfmkcipcpaaHeapD
namespace Go.Proofs.Ytmhnhfmkcipcpaa.Heap
open Go Go.RowKit Go.Proofs.Ytmhnhfmkcipcpaa.Hk Go.Proofs.Ytmhnhfmkcipcpaa.HeapPure Go.Proofs.Ytmhnhfmkcipcpaa.Less Go.Proofs.YtmhnhfmkcipcpaaW.PrintWords Go.Proofs.YtmhnhfmkcipcpaaW.PrintLast Go.Proofs.YtmhnhfmkcipcpaaW.PrintMore

set_option maxHeartbeats 4000000 in
set_option maxRecDepth 100000 in
theorem copied_any (A : Option Addr) (c : Nat) (xs : List Int) (w : World) (hC : Kd.C (Kd.int .i64) w A xs.length xs) (hl : xs.length ≤ 1099511627776) :
    Calls Try.prog 46 #[.slice A xs.length c] w fun e w' => ∃ v, e = .returned v ∧ Ro w' w.heap.size v xs ∧ Below w.heap.size w w' := by
  have HC := hid hC
  have HL := hid hl
  clear hC hl
  go_enter Try.func46, Try.ntmps46
  go_wp2_with (first | ((with_reducible refine gate_dst (N := 3) rfl ?_); refine Kd.R_lit (Kd.int .i64) (w0 := w) w.heap.size 3 ?hg (N := 3) ?hd (xs := ([] : List Int)) (inner := []) (ok := fun _ => True) (okp := fun _ => True) ?hr ?hp (fun _ hk => hk) trivial (Below.refl _ _) (Nat.le_refl _) (by simp) ?_; (case hd => rfl); (case hg => rfl); (case hr => first | (go_simp; done) | (go_simp; rfl)); (case hp => exact (Reps.none _ _)); intro v_ w_ ho hb hg_ hnew_; obtain ⟨A_, c_, rfl⟩ := Kd.R_slice ho; have HO := hid (And.intro ho hb); clear hg_ hnew_ ho hb) | ((with_reducible refine gate_builtin (b := .append) (xs := #[.tmp 3, .tmp 4]) rfl ?_); at_builtin; refine Kd.R_append_rows (Kd.int .i64) (w0 := w) w.heap.size rfl (.tmp 3) (.tmp 4) 30 3 (.int .i64 0) 8 rfl Try.underlying30 info3 rfl (by decide) (by omega) _ [] xs _ _ _ (fun _ => True) (fun _ => False) rfl rfl ?aO ?aR (fun _ _ h => h) (fun _ h => h.elim) ?aF ?aB ?aS ?aL ?_; (case aR => exact (Kd.C_below HC.out HO.out.2)); (case aB => exact HO.out.2); (case aF => exact (fun _ _ => trivial)); (case aO => exact HO.out.1); (case aS => exact HO.out.2.size); (case aL => have h_ := HL.out; simp only [List.length_nil]; omega); intro v1 w1 ho hb hg hat; have HP := hid (And.intro ho hb); clear ho hb hg hat))
  go_ret
  exact ⟨_, rfl, HP.out.1, HP.out.2⟩

set_option maxHeartbeats 4000000 in
set_option maxRecDepth 100000 in
theorem data_any (base R : Nat) (tb xs : List Int) (w : World) (hH : HeapIn base R tb xs w) (hl : xs.length ≤ 1099511627776) :
    Calls Try.prog 45 #[.pointer (some ⟨R, 0, none⟩)] w fun e w' => ∃ v, e = .returned v ∧ Ro w' w.heap.size v xs ∧ Below w.heap.size w w' := by
  obtain ⟨v, lv, hV⟩ := hH
  obtain ⟨A, c, rfl⟩ := hV.slice
  have HC := hid (Kd.R_reads' hV.row).2.2
  have HL := hid hl
  have HBk := hid hV.blk
  clear hV hl
  go_enter Try.func45, Try.ntmps45
  go_wp2_with (first | ((with_reducible refine gate_dst (N := 3) rfl ?_); refine Kd.R_lit (Kd.int .i64) (w0 := w) w.heap.size 3 ?hg (N := 3) ?hd (xs := ([] : List Int)) (inner := []) (ok := fun _ => True) (okp := fun _ => True) ?hr ?hp (fun _ hk => hk) trivial (Below.refl _ _) (Nat.le_refl _) (by simp) ?_; (case hd => rfl); (case hg => rfl); (case hr => first | (go_simp; done) | (go_simp; rfl)); (case hp => exact (Reps.none _ _)); intro v_ w_ ho hb hg_ hnew_; obtain ⟨A_, c_, rfl⟩ := Kd.R_slice ho; have HO := hid (And.intro ho hb); have c0 : w_.cell? ⟨R, 0, none⟩ = some (.slice A xs.length c) := (HBk.out.below hb HBk.out.lt).cell 0; clear hg_ hnew_ ho hb) | ((with_reducible refine gate_builtin (b := .append) (xs := #[.tmp 3, .tmp 7]) rfl ?_); at_builtin; refine Kd.R_append_rows (Kd.int .i64) (w0 := w) w.heap.size rfl (.tmp 3) (.tmp 7) 30 3 (.int .i64 0) 8 rfl Try.underlying30 info3 rfl (by decide) (by omega) _ [] xs _ _ _ (fun _ => True) (fun _ => False) rfl rfl ?aO ?aR (fun _ _ h => h) (fun _ h => h.elim) ?aF ?aB ?aS ?aL ?_; (case aR => exact (Kd.C_below HC.out HO.out.2)); (case aB => exact HO.out.2); (case aF => exact (fun _ _ => trivial)); (case aO => exact HO.out.1); (case aS => exact HO.out.2.size); (case aL => have h_ := HL.out; simp only [List.length_nil]; omega); intro v1 w1 ho hb hg hat; have HP := hid (And.intro ho hb); clear ho hb hg hat))
  go_ret
  exact ⟨_, rfl, HP.out.1, HP.out.2⟩

theorem less_raw (A : Option Addr) (c n : Nat) (w : World) :
    Calls Try.prog 48 #[.slice A n c] w fun e w' => e = .returned (.func (.func 84) #[] #[.pointer (some ⟨w.heap.size, 0, none⟩)]) ∧ w' = w.alloc (.cells #[.slice A n c] 30) := by
  go_enter Try.func48, Try.ntmps48
  go_wp2_with fail
  go_ret
  exact ⟨rfl, rfl⟩
theorem less_any (A : Option Addr) (c : Nat) (tb : List Int) (w : World) (hC : Kd.C (Kd.int .i64) w A tb.length tb) (hn : tb.length ≤ 140737488351232) :
    Calls Try.prog 48 #[.slice A tb.length c] w fun e w' => ∃ lv, e = .returned lv ∧ w' = w.alloc (.cells #[.slice A tb.length c] 30) ∧ LessS w'.heap.size w' lv tb :=
  (less_raw A c tb.length w).mono (by
    rintro e w' ⟨rfl, rfl⟩
    exact ⟨_, rfl, rfl, LessS.of ⟨hn, w.heap.size, A, c, rfl, Blk.new w _ _, Kd.C_alloc hC _⟩⟩)

theorem LessS.fun {base : Nat} {w : World} {lv : Value} {tb : List Int} (h : LessS base w lv tb) : ∃ B, lv = .func (.func 84) #[] #[.pointer (some ⟨B, 0, none⟩)] := by
  obtain ⟨_, B, _, _, e, _⟩ := h.now
  exact ⟨B, e⟩

set_option maxHeartbeats 4000000 in
set_option maxRecDepth 100000 in
theorem new_any (base : Nat) (tb : List Int) (lv : Value) (w : World) (hL : LessS base w lv tb) (hb : base ≤ w.heap.size) :
    Calls Try.prog 76 #[lv] w fun e w' => ∃ R, e = .returned (.pointer (some ⟨R, 0, none⟩)) ∧ HeapIn base R tb [] w' ∧ Below w.heap.size w w' := by
  obtain ⟨B, rfl⟩ := hL.fun
  have HL := hid hL
  have HB := hid hb
  clear hL hb
  go_enter Try.func76, Try.ntmps76
  go_wp2_with (first | ((with_reducible refine gate_dst (N := 3) rfl ?_); refine Kd.R_make (Kd.int .i64) (w0 := w) w.heap.size 3 rfl (N := 3) rfl 30 (.const (.int .i64 0)) (.const (.int .i64 0)) rfl 0 rfl rfl Try.underlying30 (.int .i64 0) 8 info3 rfl (by decide) (by omega) (0 : Int) (ok := fun _ => True) (okp := fun _ => False) ?hz (fun _ hk => hk.elim) trivial (by omega) (by decide) (Below.refl _ _) (Nat.le_refl _) ?_; (case hz => rfl); intro v1 w1 ho hb hg_ hnew_; obtain ⟨A_, c_, rfl⟩ := Kd.R_slice ho; have HO : Hid (Ro w1 w.heap.size (.slice A_ 0 c_) [] ∧ Below w.heap.size w w1) := hid (And.intro ho hb); clear hg_ hnew_ ho hb))
  go_ret
  have h1 : Below w1.heap.size w1 (w1.alloc (.cells #[.slice A_ 0 c_, .func (.func 84) #[] #[.pointer (some ⟨B, 0, none⟩)]] 121)) := (Below.refl _ _).alloc (Nat.le_refl _) _
  have h2 := below_at HO.out.2 h1 HO.out.2.size
  exact ⟨w1.heap.size, rfl, ⟨_, _, ⟨Blk.new w1 _ _, HL.out.to ⟨h2.os, h2.tape, h2.output, h2.size, fun k hk => h2.block k (Nat.lt_of_lt_of_le hk HB.out)⟩, Kd.R_lower (Kd.R_below HO.out.1 h1) HB.out, Nat.le_trans HB.out HO.out.2.size⟩⟩, h2⟩

set_option maxHeartbeats 8000000 in
set_option maxRecDepth 100000 in
theorem fromSlice_any (base : Nat) (tb xs : List Int) (lv v : Value) (w : World) (hL : LessS base w lv tb) (hb : base ≤ w.heap.size) (hR : Ro w base v xs) (hl : xs.length ≤ 1099511627776) :
    Calls Try.prog 79 #[lv, v] w fun e w' => ∃ R, e = .returned (.pointer (some ⟨R, 0, none⟩)) ∧ HeapIn base R tb (buildT (rankOf tb) xs (xs.length / 2)) w' ∧ Fr (fun k => v.ownBlock = some k) w w' := by
  obtain ⟨B, rfl⟩ := hL.fun
  obtain ⟨A, c, rfl⟩ := Kd.R_slice hR
  have HL := hid hL
  have HB := hid hb
  have HR := hid hR
  have HLN := hid hl
  obtain ⟨n, hn⟩ : ∃ n, xs.length = n := ⟨_, rfl⟩
  obtain ⟨m0, hm0⟩ : ∃ m0, n / 2 = m0 := ⟨_, rfl⟩
  have hq : (n : Int).tdiv 2 = (m0 : Int) := by rw [Int.tdiv_eq_ediv_of_nonneg (by omega)]; omega
  have HN : Hid (xs.length = n ∧ n / 2 = m0) := ⟨hn, hm0⟩
  have hnb : (n : Int) ≤ 1099511627776 := by omega
  have hmb : (m0 : Int) ≤ (n : Int) := by omega
  rw [hn] at HR
  rw [hn, hm0]
  clear hL hb hR hl hn hm0
  go_enter Try.func79, Try.ntmps79
  go_wp2_with fail
  go_loopg [6] m0 (fun gk v6 wr => ∃ (m : Nat) (ys : List Int), v6 = .int .i64 ((m : Int) - 1) ∧ m ≤ gk ∧ m ≤ m0 ∧ Hid (ys.length = n ∧ buildT (rankOf tb) ys m = buildT (rankOf tb) xs m0 ∧ Ro wr base (.slice A n c) ys ∧ Fr (fun k => (Value.slice A n c).ownBlock = some k) w wr))
  case atStart => exact ⟨m0, xs, rfl, Nat.le_refl _, Nat.le_refl _, HN.out.1, rfl, HR.out, Fr.refl _ _⟩
  case round =>
    obtain ⟨m, ys, rfl, hg, hm, HI⟩ := hrel
    by_cases h0 : m = 0
    · subst h0
      go_wp2_with fail
      go_ret
      have h1 : Below wr.heap.size wr (wr.alloc (.cells #[.slice A n c, .func (.func 84) #[] #[.pointer (some ⟨B, 0, none⟩)]] 121)) := (Below.refl _ _).alloc (Nat.le_refl _) _
      have h2 : Below base w wr := HI.out.2.2.2.below HB.out (fun k hk => Kd.R_base HR.out k hk)
      have h3 : ys = buildT (rankOf tb) xs m0 := HI.out.2.1
      rw [← h3]
      exact ⟨wr.heap.size, rfl, ⟨_, _, ⟨Blk.new wr _ _, (HL.out.to h2).to ⟨h1.os, h1.tape, h1.output, h1.size, fun k hk => h1.block k (Nat.lt_of_lt_of_le hk (Nat.le_trans HB.out h2.size))⟩, Kd.R_below HI.out.2.2.1 h1, Nat.le_trans HB.out h2.size⟩⟩, HI.out.2.2.2.trans (Fr.new (Z := fun _ => False) h1) (fun _ _ h => h.elim)⟩
    · obtain ⟨j, hj⟩ : ∃ j, m - 1 = j := ⟨_, rfl⟩
      have hmj : m = j + 1 := by omega
      subst hmj
      have hj1 : ((j + 1 : Nat) : Int) - 1 = (j : Int) := by omega
      rw [hj1]
      clear hj hj1 h0
      have HJ : Hid (j < ys.length ∧ ys.length ≤ 1099511627776) := by
        have h1_ := HI.out.1
        have h2_ := HLN.out
        have h3_ := HN.out
        exact hid ⟨by rw [h1_]; omega, by omega⟩
      have HLr : Hid (LessS base wr (.func (.func 84) #[] #[.pointer (some ⟨B, 0, none⟩)]) tb) := HL.out.to (HI.out.2.2.2.below HB.out (fun k hk => Kd.R_base HR.out k hk))
      go_wp2_with fail
      refine (down_any base base tb _ _ ys j wr HLr.out (Nat.le_refl _) HI.out.2.2.1 HJ.out.1 HJ.out.2).mono ?_
      rintro e w1 ⟨rfl, hR1, hF1⟩
      have HI2 : Hid ((downT (rankOf tb) ys j).length = n ∧ buildT (rankOf tb) (downT (rankOf tb) ys j) j = buildT (rankOf tb) xs m0 ∧ Ro w1 base (.slice A n c) (downT (rankOf tb) ys j) ∧ Fr (fun k => (Value.slice A n c).ownBlock = some k) w w1) :=
        hid ⟨by rw [downT_length _ ys.length _ _ (by omega)]; exact HI.out.1, HI.out.2.1, hR1, HI.out.2.2.2.then hF1⟩
      clear hR1 hF1 HI
      obtain ⟨k1, rfl⟩ : ∃ k1, gk = k1 + 1 := ⟨gk - 1, by omega⟩
      go_wp2_with fail
      go_roundg k1
      case measure => omega
      case rel => exact ⟨j, _, rfl, by omega, by omega, HI2⟩
end Go.Proofs.Ytmhnhfmkcipcpaa.Heap
