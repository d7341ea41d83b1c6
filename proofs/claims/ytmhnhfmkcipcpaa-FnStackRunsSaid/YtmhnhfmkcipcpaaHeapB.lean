/- Binary heaps in memory: one number goes down in a row. For every row and every order by a table. -/
import Derived.Test.YtmhnhfmkcipcpaaHeapA
namespace Go.Proofs.Ytmhnhfmkcipcpaa.Heap
open Go Go.RowKit Go.Proofs.Ytmhnhfmkcipcpaa.Hk Go.Proofs.Ytmhnhfmkcipcpaa.HeapPure Go.Proofs.Ytmhnhfmkcipcpaa.Less Go.Proofs.YtmhnhfmkcipcpaaW.PrintWords Go.Proofs.YtmhnhfmkcipcpaaW.PrintLast Go.Proofs.YtmhnhfmkcipcpaaW.PrintMore

set_option maxHeartbeats 8000000 in
set_option maxRecDepth 100000 in
theorem down_any (b0 base : Nat) (tb : List Int) (lv v : Value) (xs : List Int) (i : Nat) (w : World) (hL : LessS b0 w lv tb) (hb : b0 ≤ base) (hR : Ro w base v xs) (hi : i < xs.length) (hm : xs.length ≤ 1099511627776) :
    Calls Try.prog 113 #[v, .int .i64 i, lv] w fun e w' => e = .returned (.tuple #[]) ∧ Ro w' base v (downT (rankOf tb) xs i) ∧ Fr (fun k => v.ownBlock = some k) w w' := by
  obtain ⟨g, c, rfl, hg, _, _⟩ := Kd.R_form hR (by omega)
  obtain ⟨_, B, A, c', rfl, _, _⟩ := hL.now
  have HL : Hid (LessS b0 w (.func (.func 84) #[] #[.pointer (some ⟨B, 0, none⟩)]) tb) := hL
  have HR := hid hR
  have HB : Hid (b0 ≤ base ∧ base ≤ g) := ⟨hb, hg⟩
  clear hL hR hb hg
  go_enter Try.func113, Try.ntmps113
  go_wp2_with fail
  go_loopg [1] xs.length (fun gk v1 wr => ∃ (j : Nat) (ys : List Int), v1 = .int .i64 j ∧ Hid (xs.length ≤ gk + j) ∧ j < xs.length ∧ Hid (ys.length = xs.length) ∧ Hid (Ro wr base (.slice (some ⟨g, 0, none⟩) xs.length c) ys ∧ downT (rankOf tb) ys j = downT (rankOf tb) xs i ∧ Fr (fun k => (Value.slice (some ⟨g, 0, none⟩) xs.length c).ownBlock = some k) w wr))
  case atStart => exact ⟨i, xs, rfl, Nat.le_add_right _ _, hi, rfl, HR.out, rfl, Fr.refl _ _⟩
  case round =>
    obtain ⟨j, ys, rfl, HG, hjn, HY, HI⟩ := hrel
    have HLr : Hid (LessS b0 wr (.func (.func 84) #[] #[.pointer (some ⟨B, 0, none⟩)]) tb) := HL.out.to (HI.out.2.2.below (by have := HB.out; have := Kd.R_lt HR.out g rfl; omega) (fun k hk => by have := HB.out; simp only [Value.ownBlock, Option.some.injEq] at hk; omega))
    obtain ⟨l, hl⟩ : ∃ l : Nat, l = 2 * j + 1 := ⟨_, rfl⟩
    obtain ⟨r, hr⟩ : ∃ r : Nat, r = 2 * j + 2 := ⟨_, rfl⟩
    have ql : 2 * (j : Int) + 1 = (l : Int) := by omega
    have qr : 2 * (j : Int) + 2 = (r : Int) := by omega
    have HLR : Hid (l = 2 * j + 1 ∧ r = 2 * j + 2) := ⟨hl, hr⟩
    by_cases hln : l < xs.length
    · have HLT : Hid (2 * j + 1 < ys.length) := by rw [HY.out]; exact hid (by omega)
      have HLY : Hid (l < ys.length ∧ j < ys.length) := by rw [HY.out]; exact hid ⟨hln, hjn⟩
      obtain ⟨x, hx⟩ : ∃ x, at_ ys j = x := ⟨_, rfl⟩
      have HX := hid hx
      clear hx
      by_cases hrn : r < xs.length
      · obtain ⟨a, ha⟩ : ∃ a, at_ ys r = a := ⟨_, rfl⟩
        obtain ⟨b, hb⟩ : ∃ b, at_ ys l = b := ⟨_, rfl⟩
        have HAB := hid (And.intro ha hb)
        have HRN : Hid (r < ys.length) := by rw [HY.out]; exact hid hrn
        have ca : wr.cell? ⟨g, r, none⟩ = some (.int .i64 a) := by rw [← ha]; exact ro_cell HI.out.1 r HRN.out
        have cb : wr.cell? ⟨g, l, none⟩ = some (.int .i64 b) := by rw [← hb]; exact ro_cell HI.out.1 l HLY.out.1
        clear ha hb hl hr
        go_wp2_with fail
        go_quiet ((exact less_call (HLr.out.drewN _).now _ _))
        by_cases hab : rankOf tb a < rankOf tb b
        · have e1 : lt tb a b = true := decide_eq_true hab
          rw [e1]
          have HK : Hid (least (rankOf tb) ys j = r ∧ r < ys.length ∧ j < r) := by
            refine hid ⟨?_, HRN.out, by have := HLR.out; omega⟩
            unfold least
            rw [← HLR.out.1, ← HLR.out.2, if_pos ⟨HRN.out, by rw [HAB.out.1, HAB.out.2]; exact hab⟩]
          have HW : Hid (Ro (wr.drewN nq) base (.slice (some ⟨g, 0, none⟩) xs.length c) ys ∧ LessS b0 (wr.drewN nq) (.func (.func 84) #[] #[.pointer (some ⟨B, 0, none⟩)]) tb ∧ Fr (fun k => (Value.slice (some ⟨g, 0, none⟩) xs.length c).ownBlock = some k) w (wr.drewN nq)) := ⟨HI.out.1.drewN nq, HLr.out.drewN nq, HI.out.2.2.drewN nq⟩
          clear hab e1 ca cb
          generalize wr.drewN nq = wk at HW ⊢
          go_upto_region 5 with fail
          clear ql qr hln hrn
          generalize r = k at HK ⊢
          obtain ⟨y, hy⟩ : ∃ y, at_ ys k = y := ⟨_, rfl⟩
          have HY2 : Hid (at_ ys k = y) := hy
          have ck : wk.cell? ⟨g, k, none⟩ = some (.int .i64 y) := by rw [← hy]; exact ro_cell HW.out.1 k HK.out.2.1
          have cj : wk.cell? ⟨g, j, none⟩ = some (.int .i64 x) := by rw [← HX.out]; exact ro_cell HW.out.1 j HLY.out.2
          have k3 : k < xs.length := by have := HK.out.2.1; rw [HY.out] at this; exact this
          have kj : j < k := HK.out.2.2
          have kj2 : ¬ j = k := by omega
          have kj3 : ¬ k = j := by omega
          clear hy
          have HU : Hid (downT (rankOf tb) ys j = if rankOf tb y < rankOf tb x then downT (rankOf tb) (swp ys j k) k else ys) := by
            refine hid ?_
            rw [downT, if_pos HLT.out, HK.out.1, HY2.out, HX.out]
          go_wp2_with fail
          go_quiet ((exact less_call (HW.out.2.1.drewN _).now _ _))
          by_cases hlt : rankOf tb y < rankOf tb x
          · have e1 : lt tb y x = true := decide_eq_true hlt
            have HU2 := hid (HU.out.trans (if_pos hlt))
            rw [e1]
            clear hlt e1
            have ck' : (wk.drewN nq).cell? ⟨g, k, none⟩ = some (.int .i64 y) := ck
            have cj' : (wk.drewN nq).cell? ⟨g, j, none⟩ = some (.int .i64 x) := cj
            have HRn := hid (HW.out.1.drewN nq)
            have HFn := hid (HW.out.2.2.drewN nq)
            clear ck cj
            generalize wk.drewN nq = w1 at ck' cj' HRn HFn ⊢
            have f1 : w1.frozen? ⟨g, j, none⟩ = false := ro_free HRn.out j HLY.out.2
            have f2 : w1.frozen? ⟨g, k, none⟩ = false := ro_free HRn.out k HK.out.2.1
            have HS : Hid (Ro ((w1.drew.setCell ⟨g, j, none⟩ (.int .i64 y)).setCell ⟨g, k, none⟩ (.int .i64 x)) base (.slice (some ⟨g, 0, none⟩) xs.length c) (swp ys j k) ∧ Fr (fun k => (Value.slice (some ⟨g, 0, none⟩) xs.length c).ownBlock = some k) w ((w1.drew.setCell ⟨g, j, none⟩ (.int .i64 y)).setCell ⟨g, k, none⟩ (.int .i64 x))) := by
              have r2 := ro_set (ro_set (Kd.R_drewN HRn.out 1) j HLY.out.2 y) k (by rw [List.length_set]; exact HK.out.2.1) x
              refine hid ⟨?_, (HFn.out.drew.setCell (p := ⟨g, j, none⟩) (fun _ => rfl) _).setCell (p := ⟨g, k, none⟩) (fun _ => rfl) _⟩
              unfold swp
              rw [HX.out, HY2.out]
              exact r2
            go_wp2_with fail
            go_region
            go_wp2_with fail
            obtain ⟨k1, rfl⟩ : ∃ k1, gk = k1 + 1 := ⟨gk - 1, by have := HG.out; omega⟩
            go_roundg k1
            case measure => omega
            case rel => exact ⟨k, swp ys j k, rfl, by have := HK.out.2.2; have := HG.out; show Hid (xs.length ≤ k1 + k); exact hid (by omega), k3, by rw [swp_length]; exact HY.out, HS.out.1, HU2.out.symm.trans HI.out.2.1, HS.out.2⟩
          · have e1 : lt tb y x = false := decide_eq_false hlt
            have HU2 := hid (HU.out.trans (if_neg hlt))
            rw [e1]
            clear hlt e1
            go_wp2_with fail
            go_end0
            have h_ := HW.out.1.drewN nq
            rw [show ys = downT (rankOf tb) xs i from HU2.out.symm.trans HI.out.2.1] at h_
            exact ⟨rfl, h_, HW.out.2.2.drewN nq⟩
        · have e1 : lt tb a b = false := decide_eq_false hab
          rw [e1]
          have HK : Hid (least (rankOf tb) ys j = l ∧ l < ys.length ∧ j < l) := by
            refine hid ⟨?_, HLY.out.1, by have := HLR.out; omega⟩
            unfold least
            rw [← HLR.out.1, ← HLR.out.2, if_neg (fun h => hab (by rw [← HAB.out.1, ← HAB.out.2]; exact h.2))]
          have HW : Hid (Ro (wr.drewN nq) base (.slice (some ⟨g, 0, none⟩) xs.length c) ys ∧ LessS b0 (wr.drewN nq) (.func (.func 84) #[] #[.pointer (some ⟨B, 0, none⟩)]) tb ∧ Fr (fun k => (Value.slice (some ⟨g, 0, none⟩) xs.length c).ownBlock = some k) w (wr.drewN nq)) := ⟨HI.out.1.drewN nq, HLr.out.drewN nq, HI.out.2.2.drewN nq⟩
          clear hab e1 ca cb
          generalize wr.drewN nq = wk at HW ⊢
          go_upto_region 5 with fail
          clear ql qr hln hrn
          generalize l = k at HK ⊢
          obtain ⟨y, hy⟩ : ∃ y, at_ ys k = y := ⟨_, rfl⟩
          have HY2 : Hid (at_ ys k = y) := hy
          have ck : wk.cell? ⟨g, k, none⟩ = some (.int .i64 y) := by rw [← hy]; exact ro_cell HW.out.1 k HK.out.2.1
          have cj : wk.cell? ⟨g, j, none⟩ = some (.int .i64 x) := by rw [← HX.out]; exact ro_cell HW.out.1 j HLY.out.2
          have k3 : k < xs.length := by have := HK.out.2.1; rw [HY.out] at this; exact this
          have kj : j < k := HK.out.2.2
          have kj2 : ¬ j = k := by omega
          have kj3 : ¬ k = j := by omega
          clear hy
          have HU : Hid (downT (rankOf tb) ys j = if rankOf tb y < rankOf tb x then downT (rankOf tb) (swp ys j k) k else ys) := by
            refine hid ?_
            rw [downT, if_pos HLT.out, HK.out.1, HY2.out, HX.out]
          go_wp2_with fail
          go_quiet ((exact less_call (HW.out.2.1.drewN _).now _ _))
          by_cases hlt : rankOf tb y < rankOf tb x
          · have e1 : lt tb y x = true := decide_eq_true hlt
            have HU2 := hid (HU.out.trans (if_pos hlt))
            rw [e1]
            clear hlt e1
            have ck' : (wk.drewN nq).cell? ⟨g, k, none⟩ = some (.int .i64 y) := ck
            have cj' : (wk.drewN nq).cell? ⟨g, j, none⟩ = some (.int .i64 x) := cj
            have HRn := hid (HW.out.1.drewN nq)
            have HFn := hid (HW.out.2.2.drewN nq)
            clear ck cj
            generalize wk.drewN nq = w1 at ck' cj' HRn HFn ⊢
            have f1 : w1.frozen? ⟨g, j, none⟩ = false := ro_free HRn.out j HLY.out.2
            have f2 : w1.frozen? ⟨g, k, none⟩ = false := ro_free HRn.out k HK.out.2.1
            have HS : Hid (Ro ((w1.drew.setCell ⟨g, j, none⟩ (.int .i64 y)).setCell ⟨g, k, none⟩ (.int .i64 x)) base (.slice (some ⟨g, 0, none⟩) xs.length c) (swp ys j k) ∧ Fr (fun k => (Value.slice (some ⟨g, 0, none⟩) xs.length c).ownBlock = some k) w ((w1.drew.setCell ⟨g, j, none⟩ (.int .i64 y)).setCell ⟨g, k, none⟩ (.int .i64 x))) := by
              have r2 := ro_set (ro_set (Kd.R_drewN HRn.out 1) j HLY.out.2 y) k (by rw [List.length_set]; exact HK.out.2.1) x
              refine hid ⟨?_, (HFn.out.drew.setCell (p := ⟨g, j, none⟩) (fun _ => rfl) _).setCell (p := ⟨g, k, none⟩) (fun _ => rfl) _⟩
              unfold swp
              rw [HX.out, HY2.out]
              exact r2
            go_wp2_with fail
            go_region
            go_wp2_with fail
            obtain ⟨k1, rfl⟩ : ∃ k1, gk = k1 + 1 := ⟨gk - 1, by have := HG.out; omega⟩
            go_roundg k1
            case measure => omega
            case rel => exact ⟨k, swp ys j k, rfl, by have := HK.out.2.2; have := HG.out; show Hid (xs.length ≤ k1 + k); exact hid (by omega), k3, by rw [swp_length]; exact HY.out, HS.out.1, HU2.out.symm.trans HI.out.2.1, HS.out.2⟩
          · have e1 : lt tb y x = false := decide_eq_false hlt
            have HU2 := hid (HU.out.trans (if_neg hlt))
            rw [e1]
            clear hlt e1
            go_wp2_with fail
            go_end0
            have h_ := HW.out.1.drewN nq
            rw [show ys = downT (rankOf tb) xs i from HU2.out.symm.trans HI.out.2.1] at h_
            exact ⟨rfl, h_, HW.out.2.2.drewN nq⟩
      · have HK : Hid (least (rankOf tb) ys j = l ∧ l < ys.length ∧ j < l) := by
          refine hid ⟨?_, HLY.out.1, by omega⟩
          unfold least
          rw [← hl, ← hr, if_neg (fun h => hrn (by rw [← HY.out]; exact h.1))]
        clear hl hr
        have hd : decide ((r : Int) < (xs.length : Int)) = false := by simpa using hrn
        go_wp2_with fail
        go_quiet (fail)
        have HW : Hid (Ro (wr.drewN nq) base (.slice (some ⟨g, 0, none⟩) xs.length c) ys ∧ LessS b0 (wr.drewN nq) (.func (.func 84) #[] #[.pointer (some ⟨B, 0, none⟩)]) tb ∧ Fr (fun k => (Value.slice (some ⟨g, 0, none⟩) xs.length c).ownBlock = some k) w (wr.drewN nq)) := ⟨HI.out.1.drewN nq, HLr.out.drewN nq, HI.out.2.2.drewN nq⟩
        generalize wr.drewN nq = wk at HW ⊢
        go_upto_region 5 with fail
        clear ql qr hln hrn hd
        generalize l = k at HK ⊢
        obtain ⟨y, hy⟩ : ∃ y, at_ ys k = y := ⟨_, rfl⟩
        have HY2 : Hid (at_ ys k = y) := hy
        have ck : wk.cell? ⟨g, k, none⟩ = some (.int .i64 y) := by rw [← hy]; exact ro_cell HW.out.1 k HK.out.2.1
        have cj : wk.cell? ⟨g, j, none⟩ = some (.int .i64 x) := by rw [← HX.out]; exact ro_cell HW.out.1 j HLY.out.2
        have k3 : k < xs.length := by have := HK.out.2.1; rw [HY.out] at this; exact this
        have kj : j < k := HK.out.2.2
        have kj2 : ¬ j = k := by omega
        have kj3 : ¬ k = j := by omega
        clear hy
        have HU : Hid (downT (rankOf tb) ys j = if rankOf tb y < rankOf tb x then downT (rankOf tb) (swp ys j k) k else ys) := by
          refine hid ?_
          rw [downT, if_pos HLT.out, HK.out.1, HY2.out, HX.out]
        go_wp2_with fail
        go_quiet ((exact less_call (HW.out.2.1.drewN _).now _ _))
        by_cases hlt : rankOf tb y < rankOf tb x
        · have e1 : lt tb y x = true := decide_eq_true hlt
          have HU2 := hid (HU.out.trans (if_pos hlt))
          rw [e1]
          clear hlt e1
          have ck' : (wk.drewN nq).cell? ⟨g, k, none⟩ = some (.int .i64 y) := ck
          have cj' : (wk.drewN nq).cell? ⟨g, j, none⟩ = some (.int .i64 x) := cj
          have HRn := hid (HW.out.1.drewN nq)
          have HFn := hid (HW.out.2.2.drewN nq)
          clear ck cj
          generalize wk.drewN nq = w1 at ck' cj' HRn HFn ⊢
          have f1 : w1.frozen? ⟨g, j, none⟩ = false := ro_free HRn.out j HLY.out.2
          have f2 : w1.frozen? ⟨g, k, none⟩ = false := ro_free HRn.out k HK.out.2.1
          have HS : Hid (Ro ((w1.drew.setCell ⟨g, j, none⟩ (.int .i64 y)).setCell ⟨g, k, none⟩ (.int .i64 x)) base (.slice (some ⟨g, 0, none⟩) xs.length c) (swp ys j k) ∧ Fr (fun k => (Value.slice (some ⟨g, 0, none⟩) xs.length c).ownBlock = some k) w ((w1.drew.setCell ⟨g, j, none⟩ (.int .i64 y)).setCell ⟨g, k, none⟩ (.int .i64 x))) := by
            have r2 := ro_set (ro_set (Kd.R_drewN HRn.out 1) j HLY.out.2 y) k (by rw [List.length_set]; exact HK.out.2.1) x
            refine hid ⟨?_, (HFn.out.drew.setCell (p := ⟨g, j, none⟩) (fun _ => rfl) _).setCell (p := ⟨g, k, none⟩) (fun _ => rfl) _⟩
            unfold swp
            rw [HX.out, HY2.out]
            exact r2
          go_wp2_with fail
          go_region
          go_wp2_with fail
          obtain ⟨k1, rfl⟩ : ∃ k1, gk = k1 + 1 := ⟨gk - 1, by have := HG.out; omega⟩
          go_roundg k1
          case measure => omega
          case rel => exact ⟨k, swp ys j k, rfl, by have := HK.out.2.2; have := HG.out; show Hid (xs.length ≤ k1 + k); exact hid (by omega), k3, by rw [swp_length]; exact HY.out, HS.out.1, HU2.out.symm.trans HI.out.2.1, HS.out.2⟩
        · have e1 : lt tb y x = false := decide_eq_false hlt
          have HU2 := hid (HU.out.trans (if_neg hlt))
          rw [e1]
          clear hlt e1
          go_wp2_with fail
          go_end0
          have h_ := HW.out.1.drewN nq
          rw [show ys = downT (rankOf tb) xs i from HU2.out.symm.trans HI.out.2.1] at h_
          exact ⟨rfl, h_, HW.out.2.2.drewN nq⟩
    · have HF : Hid (downT (rankOf tb) ys j = ys) := by
        refine hid ?_
        rw [downT, if_neg (by rw [HY.out]; omega)]
      clear hl hr
      go_wp2_with fail
      go_end0
      have h_ := HI.out.1
      rw [show ys = downT (rankOf tb) xs i from HF.out.symm.trans HI.out.2.1] at h_
      exact ⟨rfl, h_, HI.out.2.2⟩
end Go.Proofs.Ytmhnhfmkcipcpaa.Heap
