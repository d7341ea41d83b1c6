/- Binary heaps in memory: From, HeapUp, heapOf. For every table and every row. -/
import Derived.Test.YtmhnhfmkcipcpaaHeapF
namespace Go.Proofs.Ytmhnhfmkcipcpaa.Heap
open Go Go.RowKit Go.Proofs.Ytmhnhfmkcipcpaa.Hk Go.Proofs.Ytmhnhfmkcipcpaa.HeapPure Go.Proofs.Ytmhnhfmkcipcpaa.Less Go.Proofs.YtmhnhfmkcipcpaaW.PrintWords Go.Proofs.YtmhnhfmkcipcpaaW.PrintLast Go.Proofs.YtmhnhfmkcipcpaaW.PrintMore

set_option maxHeartbeats 4000000 in
set_option maxRecDepth 100000 in
theorem from_any (base : Nat) (tb xs : List Int) (lv v : Value) (w : World) (hL : LessS base w lv tb) (hb : base ≤ w.heap.size) (hR : Ro w base v xs) (hl : xs.length ≤ 1099511627776) :
    Calls Try.prog 78 #[lv, v] w fun e w' => ∃ R, e = .returned (.pointer (some ⟨R, 0, none⟩)) ∧ HeapIn base R tb (buildT (rankOf tb) xs (xs.length / 2)) w' ∧ Fr (fun k => v.ownBlock = some k) w w' := by
  obtain ⟨B, rfl⟩ := hL.fun
  obtain ⟨A, c, rfl⟩ := Kd.R_slice hR
  have HL := hid hL
  have HB := hid hb
  have HR := hid hR
  have HLN := hid hl
  clear hL hb hR hl
  go_enter Try.func78, Try.ntmps78
  go_wp2_with fail
  refine (fromSlice_any base tb xs _ _ w HL.out HB.out HR.out HLN.out).mono ?_
  rintro e w1 ⟨R, rfl, hH, hF⟩
  have H1 := hid (And.intro hH hF)
  clear hH hF
  go_wp2_with fail
  go_ret
  exact ⟨R, rfl, H1.out.1, H1.out.2⟩

set_option maxHeartbeats 4000000 in
set_option maxRecDepth 100000 in
theorem zzUp_any (base : Nat) (tb : List Int) (B : Nat) (v : Value) (xs : List Int) (i : Nat) (w : World) (hL : ∀ w', Fr (fun k => v.ownBlock = some k) w w' → LessV w' (.func (.func 84) #[] #[.pointer (some ⟨B, 0, none⟩)]) tb) (hR : Ro w base v xs) (hi : i < xs.length) (hm : xs.length ≤ 1099511627776) :
    Calls Try.prog 47 #[v, .int .i64 i, .func (.func 84) #[] #[.pointer (some ⟨B, 0, none⟩)]] w fun e w' => e = .returned (.tuple #[]) ∧ Ro w' base v (upT (rankOf tb) xs i) ∧ Fr (fun k => v.ownBlock = some k) w w' := by
  obtain ⟨A, c, rfl⟩ := Kd.R_slice hR
  have HH := hid (And.intro hL (And.intro hR (And.intro hi hm)))
  clear hL hR hi hm
  go_enter Try.func47, Try.ntmps47
  go_wp2_with fail
  refine (up_gen base tb _ _ xs i w HH.out.1 HH.out.2.1 HH.out.2.2.1 HH.out.2.2.2).mono ?_
  rintro e w1 ⟨rfl, hR, hF⟩
  have H1 := hid (And.intro hR hF)
  clear hR hF
  go_wp2_with fail
  go_end0
  exact ⟨rfl, H1.out.1, H1.out.2⟩

set_option maxHeartbeats 4000000 in
set_option maxRecDepth 100000 in
theorem HeapUp_any (A : Option Addr) (c : Nat) (tb : List Int) (A1 : Option Addr) (c1 : Nat) (xs : List Int) (i : Nat) (w : World) (hT : Kd.C (Kd.int .i64) w A tb.length tb) (hX : Kd.C (Kd.int .i64) w A1 xs.length xs)
    (hn : tb.length ≤ 140737488351232) (hi : i < xs.length) (hl : xs.length ≤ 1099511627776) :
    Calls Try.prog 22 #[.slice A tb.length c, .slice A1 xs.length c1, .int .i64 i] w fun e w' => ∃ v, e = .returned v ∧ Ro w' w.heap.size v (upT (rankOf tb) xs i) ∧ Below w.heap.size w w' := by
  have HT := hid (And.intro hT hn)
  have HX := hid (And.intro hX (And.intro hi hl))
  clear hT hX hn hi hl
  go_enter Try.func22, Try.ntmps22
  go_wp2_with fail
  refine (copied_any A1 c1 xs w HX.out.1 HX.out.2.2).mono ?_
  rintro e w1 ⟨v, rfl, hR, hB⟩
  obtain ⟨A2, c2, rfl⟩ := Kd.R_slice hR
  have H1 := hid (And.intro hR hB)
  clear hR hB
  go_wp2_with fail
  refine (less_raw A c tb.length w1).mono ?_
  rintro e w2 ⟨rfl, rfl⟩
  have hA : Below w1.heap.size w1 (w1.alloc (.cells #[.slice A tb.length c] 30)) := (Below.refl _ _).alloc (Nat.le_refl _) _
  have H2 : Hid (Ro (w1.alloc (.cells #[.slice A tb.length c] 30)) w.heap.size (.slice A2 xs.length c2) xs ∧ Below w.heap.size w (w1.alloc (.cells #[.slice A tb.length c] 30)) ∧ ∀ w', Fr (fun k => (Value.slice A2 xs.length c2).ownBlock = some k) (w1.alloc (.cells #[.slice A tb.length c] 30)) w' → LessV w' (.func (.func 84) #[] #[.pointer (some ⟨w1.heap.size, 0, none⟩)]) tb) := by
    refine hid ⟨Kd.R_below H1.out.1 hA, below_at H1.out.2 hA H1.out.2.size, fun w' hF => ⟨HT.out.2, w1.heap.size, A, c, rfl, (Blk.new w1 _ _).fr hF (fun e => ?_), Kd.C_below HT.out.1 ?_⟩⟩
    · have := Kd.R_lt H1.out.1 _ e
      omega
    · exact (below_at H1.out.2 hA H1.out.2.size).trans (hF.below (below_at H1.out.2 hA H1.out.2.size).size (fun k hk => Kd.R_base H1.out.1 k hk))
  clear hA
  generalize w1.alloc (.cells #[.slice A tb.length c] 30) = w2 at H2 ⊢
  generalize w1.heap.size = B at H2 ⊢
  go_wp2_with fail
  refine (zzUp_any w.heap.size tb B _ xs i w2 H2.out.2.2 H2.out.1 HX.out.2.1 HX.out.2.2).mono ?_
  rintro e w3 ⟨rfl, hR, hF⟩
  have H3 : Hid (Ro w3 w.heap.size (.slice A2 xs.length c2) (upT (rankOf tb) xs i) ∧ Below w.heap.size w w3) := hid ⟨hR, H2.out.2.1.trans (hF.below H2.out.2.1.size (fun k hk => Kd.R_base H2.out.1 k hk))⟩
  clear hR hF
  go_wp2_with fail
  go_ret
  exact ⟨_, rfl, H3.out.1, H3.out.2⟩

set_option maxHeartbeats 4000000 in
set_option maxRecDepth 100000 in
theorem heapOf_any (A : Option Addr) (c : Nat) (tb : List Int) (how : Int) (A1 : Option Addr) (c1 : Nat) (xs : List Int) (w : World) (hT : Kd.C (Kd.int .i64) w A tb.length tb) (hX : Kd.C (Kd.int .i64) w A1 xs.length xs)
    (hn : tb.length ≤ 140737488351232) (hl : xs.length ≤ 1099511627776) :
    Calls Try.prog 42 #[.slice A tb.length c, .int .i64 how, .slice A1 xs.length c1] w fun e w' => ∃ R, e = .returned (.pointer (some ⟨R, 0, none⟩)) ∧ HeapIn (w.heap.size + 1) R tb (madeT (rankOf tb) how xs) w' ∧ Below w.heap.size w w' := by
  have HT := hid (And.intro hT hn)
  have HX := hid (And.intro hX hl)
  have HZ : Hid (∀ W, W = w.alloc (.cells #[.slice A tb.length c] 30) → ∀ lv, LessS W.heap.size W lv tb → W.heap.size = w.heap.size + 1 ∧ LessS (w.heap.size + 1) W lv tb ∧ Below w.heap.size w W) := by
    refine hid (fun W e lv hL => ?_)
    subst e
    have h1 : (w.alloc (.cells #[.slice A tb.length c] 30)).heap.size = w.heap.size + 1 := by simp
    exact ⟨h1, by rw [← h1]; exact hL, (Below.refl _ _).alloc (Nat.le_refl _) _⟩
  clear hT hX hn hl
  have HMADE : Hid (¬ how = 0 → madeT (rankOf tb) how xs = buildT (rankOf tb) xs (xs.length / 2)) := hid (fun h => if_neg h)
  by_cases h0 : how = 0
  · subst h0
    have HM0 : Hid (madeT (rankOf tb) 0 xs = xs.foldl (pushT (rankOf tb)) []) := hid (if_pos rfl)
    clear HMADE
    go_enter Try.func42, Try.ntmps42
    go_wp2_with fail
    refine (less_any A c tb w HT.out.1 HT.out.2).mono ?_
    rintro e w1 ⟨lv, rfl, hw, hL⟩
    obtain ⟨B, rfl⟩ := hL.fun
    have HL := hid (HZ.out w1 hw _ hL)
    clear hw hL HZ
    go_wp2_with fail
    refine (new_any (w.heap.size + 1) tb _ w1 HL.out.2.1 (Nat.le_of_eq HL.out.1.symm)).mono ?_
    rintro e w2 ⟨R, rfl, hH, hB⟩
    have H2 : Hid (HeapIn (w.heap.size + 1) R tb [] w2 ∧ Below w.heap.size w w2 ∧ w.heap.size + 1 ≤ w2.heap.size) := hid ⟨hH, below_at HL.out.2.2 hB HL.out.2.2.size, Nat.le_trans (Nat.le_of_eq HL.out.1.symm) hB.size⟩
    clear hH hB HL
    obtain ⟨n, hn⟩ : ∃ n, xs.length = n := ⟨_, rfl⟩
    have HN := hid hn
    rw [hn]
    have hnb : (n : Int) ≤ 1099511627776 := by have := HX.out.2; omega
    clear hn
    go_wp2_with fail
    go_loopg [18] n (fun gk v18 wr => ∃ (i : Nat), v18 = .int .i64 i ∧ i ≤ n ∧ Hid (gk + i = n) ∧ Hid (HeapIn (w.heap.size + 1) R tb ((xs.take i).foldl (pushT (rankOf tb)) []) wr ∧ Below w.heap.size w wr ∧ w.heap.size + 1 ≤ wr.heap.size))
    case atStart => exact ⟨0, rfl, Nat.zero_le _, Nat.add_zero _, H2⟩
    case round =>
      obtain ⟨i, rfl, hi, HG, HI⟩ := hrel
      by_cases hin : i < n
      · have HLI : Hid (i < xs.length) := by have := HN.out; exact hid (by omega)
        obtain ⟨x, hx⟩ : ∃ x, xs[i]'HLI.out = x := ⟨_, rfl⟩
        have HTK : Hid (xs.take (i + 1) = xs.take i ++ [x]) := by
          refine hid ?_
          rw [← hx, List.take_add_one, List.getElem?_eq_getElem HLI.out]; rfl
        have HLEN : Hid (((xs.take i).foldl (pushT (rankOf tb)) []).length < 1099511627776) := by
          have h1 := (pushes (rankOf tb) (xs.take i) [] (fun k _ hk => by simp at hk)).2.1
          have h2 := HLI.out
          have h3 := HX.out.2
          refine hid ?_
          rw [h1, List.length_take]
          simp only [List.length_nil]
          omega
        obtain ⟨ad, rfl, hc⟩ := Kd.at_int (Kd.C_below HX.out.1 HI.out.2.1) (i : Int) (by omega) (by have := HLI.out; omega)
        have hrd : rd xs (i : Int) = x := by
          rw [← hx]
          simp [rd, HLI.out]
        rw [hrd, Int.toNat_natCast] at hc
        clear hrd hx
        have HIN := hid hin
        obtain ⟨k1, rfl⟩ : ∃ k1, gk = k1 + 1 := ⟨gk - 1, by have := HG.out; omega⟩
        go_wp2_with fail
        refine (push_any (w.heap.size + 1) R tb ((xs.take i).foldl (pushT (rankOf tb)) []) x wr HI.out.1 HI.out.2.2 HLEN.out).mono ?_
        rintro e w3 ⟨rfl, hH, hF⟩
        have H3 : Hid (HeapIn (w.heap.size + 1) R tb ((xs.take (i + 1)).foldl (pushT (rankOf tb)) []) w3 ∧ Below w.heap.size w w3 ∧ w.heap.size + 1 ≤ w3.heap.size) := by
          refine hid ⟨?_, HI.out.2.1.trans ((zh_below hF HI.out.2.2).mono (Nat.le_succ _)), Nat.le_trans HI.out.2.2 hF.size⟩
          rw [HTK.out, List.foldl_append]
          exact hH
        clear hH hF hc HI
        go_wp2_with fail
        go_roundg k1
        case measure => omega
        case rel => exact ⟨i + 1, rfl, HIN.out, by have := HG.out; show k1 + (i + 1) = n; omega, H3⟩
      · have e : i = n := by omega
        subst e
        have H3 : Hid (HeapIn (w.heap.size + 1) R tb (madeT (rankOf tb) 0 xs) wr ∧ Below w.heap.size w wr) := by
          refine hid ⟨?_, HI.out.2.1⟩
          rw [HM0.out]
          have h_ := HI.out.1
          rw [List.take_of_length_le (by rw [HN.out]; exact Nat.le_refl _)] at h_
          exact h_
        clear HI
        go_wp2_with fail
        go_ret
        exact ⟨R, rfl, H3.out.1, H3.out.2⟩
  · have HM := hid (HMADE.out h0)
    have hz : (how == 0) = false := beq_eq_false_iff_ne.2 h0
    by_cases h1 : how = 1
    · subst h1
      clear hz h0 HMADE
      go_enter Try.func42, Try.ntmps42
      go_wp2_with fail
      refine (less_any A c tb w HT.out.1 HT.out.2).mono ?_
      rintro e w1 ⟨lv, rfl, hw, hL⟩
      obtain ⟨B, rfl⟩ := hL.fun
      have HL := hid (HZ.out w1 hw _ hL)
      clear hw hL HZ
      go_wp2_with fail
      refine (copied_any A1 c1 xs w1 (Kd.C_below HX.out.1 HL.out.2.2) HX.out.2).mono ?_
      rintro e w2 ⟨v, rfl, hR, hB⟩
      obtain ⟨A2, c2, rfl⟩ := Kd.R_slice hR
      have H2 : Hid (Ro w2 (w.heap.size + 1) (.slice A2 xs.length c2) xs ∧ Below w.heap.size w w2 ∧ w.heap.size + 1 ≤ w2.heap.size ∧ LessS (w.heap.size + 1) w2 (.func (.func 84) #[] #[.pointer (some ⟨B, 0, none⟩)]) tb) := by
        have e := HL.out.1
        rw [e] at hR
        exact hid ⟨hR, below_at HL.out.2.2 hB HL.out.2.2.size, by have := hB.size; omega, HL.out.2.1.to (by rw [← e]; exact hB)⟩
      clear hR hB HL
      go_wp2_with fail
      refine (from_any (w.heap.size + 1) tb xs _ _ w2 H2.out.2.2.2 H2.out.2.2.1 H2.out.1 HX.out.2).mono ?_
      rintro e w3 ⟨R, rfl, hH, hF⟩
      have H3 : Hid (HeapIn (w.heap.size + 1) R tb (buildT (rankOf tb) xs (xs.length / 2)) w3 ∧ Below w.heap.size w w3) := hid ⟨hH, H2.out.2.1.trans (hF.below H2.out.2.1.size (fun k hk => by have := Kd.R_base H2.out.1 k hk; omega))⟩
      clear hH hF
      go_wp2_with fail
      go_ret
      exact ⟨R, rfl, by rw [HM.out]; exact H3.out.1, H3.out.2⟩
    · have hz1 : (how == 1) = false := beq_eq_false_iff_ne.2 h1
      clear HMADE
      go_enter Try.func42, Try.ntmps42
      go_wp2_with fail
      refine (less_any A c tb w HT.out.1 HT.out.2).mono ?_
      rintro e w1 ⟨lv, rfl, hw, hL⟩
      obtain ⟨B, rfl⟩ := hL.fun
      have HL := hid (HZ.out w1 hw _ hL)
      clear hw hL HZ
      go_wp2_with fail
      refine (copied_any A1 c1 xs w1 (Kd.C_below HX.out.1 HL.out.2.2) HX.out.2).mono ?_
      rintro e w2 ⟨v, rfl, hR, hB⟩
      obtain ⟨A2, c2, rfl⟩ := Kd.R_slice hR
      have H2 : Hid (Ro w2 (w.heap.size + 1) (.slice A2 xs.length c2) xs ∧ Below w.heap.size w w2 ∧ w.heap.size + 1 ≤ w2.heap.size ∧ LessS (w.heap.size + 1) w2 (.func (.func 84) #[] #[.pointer (some ⟨B, 0, none⟩)]) tb) := by
        have e := HL.out.1
        rw [e] at hR
        exact hid ⟨hR, below_at HL.out.2.2 hB HL.out.2.2.size, by have := hB.size; omega, HL.out.2.1.to (by rw [← e]; exact hB)⟩
      clear hR hB HL
      go_wp2_with fail
      refine (fromSlice_any (w.heap.size + 1) tb xs _ _ w2 H2.out.2.2.2 H2.out.2.2.1 H2.out.1 HX.out.2).mono ?_
      rintro e w3 ⟨R, rfl, hH, hF⟩
      have H3 : Hid (HeapIn (w.heap.size + 1) R tb (buildT (rankOf tb) xs (xs.length / 2)) w3 ∧ Below w.heap.size w w3) := hid ⟨hH, H2.out.2.1.trans (hF.below H2.out.2.1.size (fun k hk => by have := Kd.R_base H2.out.1 k hk; omega))⟩
      clear hH hF
      go_wp2_with fail
      go_ret
      exact ⟨R, rfl, by rw [HM.out]; exact H3.out.1, H3.out.2⟩
end Go.Proofs.Ytmhnhfmkcipcpaa.Heap
