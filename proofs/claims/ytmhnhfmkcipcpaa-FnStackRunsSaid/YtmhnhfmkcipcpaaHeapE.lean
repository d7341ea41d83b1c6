/- Binary heaps in memory: Pop. For every heap. -/
import Derived.Test.YtmhnhfmkcipcpaaHeapC
namespace Go.Proofs.Ytmhnhfmkcipcpaa.Heap
open Go Go.RowKit Go.Proofs.Ytmhnhfmkcipcpaa.Hk Go.Proofs.Ytmhnhfmkcipcpaa.HeapPure Go.Proofs.Ytmhnhfmkcipcpaa.Less Go.Proofs.YtmhnhfmkcipcpaaW.PrintWords Go.Proofs.YtmhnhfmkcipcpaaW.PrintLast Go.Proofs.YtmhnhfmkcipcpaaW.PrintMore

section
variable {base R g n c : Nat} {tb xs ys : List Int} {v v1 lv : Value} {w : World}
theorem HeapV.store (h : HeapV base R tb v lv xs w) (hb : base ≤ w.heap.size) (hr : Ro w base v1 ys) : HeapV base R tb v1 lv ys (w.setCell ⟨R, 0, none⟩ v1) ∧ Fr (Zh base R w) w (w.setCell ⟨R, 0, none⟩ v1) := by
  have hF : Fr (Zh base R w) w (w.setCell ⟨R, 0, none⟩ v1) := (Fr.refl _ _).setCell (p := ⟨R, 0, none⟩) (fun _ => ⟨h.ge, .inl rfl⟩) _
  exact ⟨⟨h.blk.set 0 _, h.less.to (zh_below hF hb), hr.fr (Fr.one (b := R) (i := 0)) (fun k hk e => Kd.R_ne hr h.blk (by decide) (by rw [hk, e])), h.ge⟩, hF⟩
theorem HeapV.rset (h : HeapV base R tb (.slice (some ⟨g, 0, none⟩) n c) lv xs w) (hb : base ≤ w.heap.size) (i : Nat) (hi : i < xs.length) (x : Int) :
    HeapV base R tb (.slice (some ⟨g, 0, none⟩) n c) lv (xs.set i x) (w.setCell ⟨g, i, none⟩ (.int .i64 x)) ∧ Fr (Zh base R w) w (w.setCell ⟨g, i, none⟩ (.int .i64 x)) := by
  have hF : Fr (Zh base R w) w (w.setCell ⟨g, i, none⟩ (.int .i64 x)) := (Fr.refl _ _).setCell (p := ⟨g, i, none⟩) (fun _ => h.zrow g rfl) _
  exact ⟨⟨h.blk.other ⟨g, i, none⟩ _ (fun e => h.ne (congrArg some e)), h.less.to (zh_below hF hb), ro_set h.row i hi x, h.ge⟩, hF⟩
end

set_option maxHeartbeats 4000000 in
set_option maxRecDepth 100000 in
theorem down_nil (A : Option Addr) (c : Nat) (lv : Value) (w : World) :
    Calls Try.prog 113 #[.slice A 0 c, .int .i64 0, lv] w fun e w' => e = .returned (.tuple #[]) ∧ w' = w := by
  go_enter Try.func113, Try.ntmps113
  go_wp2_with fail
  go_loopg [1] 1 (fun gk v1 wr => v1 = .int .i64 0 ∧ wr = w)
  case atStart => exact ⟨rfl, rfl⟩
  case round =>
    obtain ⟨rfl, rfl⟩ := hrel
    go_wp2_with fail
    go_end0
    exact ⟨rfl, rfl⟩

set_option maxHeartbeats 8000000 in
set_option maxRecDepth 100000 in
theorem pop_any (base R : Nat) (tb xs : List Int) (w : World) (hH : HeapIn base R tb xs w) (hb : base ≤ w.heap.size) (hl : xs.length < 1099511627776) :
    Calls Try.prog 80 #[.pointer (some ⟨R, 0, none⟩)] w fun e w' => e = .returned (.tuple #[.int .i64 (tellT xs 1).1, .bool (tellT xs 1).2]) ∧ HeapIn base R tb (popT (rankOf tb) xs) w' ∧ Fr (Zh base R w) w w' := by
  have HH := hid hH
  obtain ⟨v, lv, hV⟩ := hH
  by_cases h0 : xs.length = 0
  · have HT : Hid (tellT xs 1 = (0, false)) := by refine hid ?_; simp [tellT, h0]
    have HP : Hid (popT (rankOf tb) xs = xs) := by refine hid ?_; rw [popT, if_pos h0]
    clear hV
    go_enter Try.func80, Try.ntmps80
    go_wp2_with fail
    refine (size_any base R tb xs w HH.out).mono ?_
    rintro e w' ⟨rfl, rfl⟩
    rw [h0]
    go_wp2_with fail
    go_ret2
    exact ⟨by rw [HT.out]; rfl, by rw [HP.out]; exact HH.out, Fr.refl _ _⟩
  · obtain ⟨g, c, rfl, _, _, _⟩ := Kd.R_form hV.row (by omega)
    obtain ⟨B, rfl⟩ := hV.func
    obtain ⟨x, hx⟩ : ∃ x, at_ xs 0 = x := ⟨_, rfl⟩
    obtain ⟨y, hy⟩ : ∃ y, at_ xs (xs.length - 1) = y := ⟨_, rfl⟩
    have HT : Hid (tellT xs 1 = (x, true)) := by refine hid ?_; simp [tellT, h0, ← hx]
    have HP : Hid (popT (rankOf tb) xs = downT (rankOf tb) ((xs.set 0 y).take (xs.length - 1)) 0) := by refine hid ?_; rw [popT, if_neg h0, hy]
    have c0 : w.cell? ⟨R, 0, none⟩ = some (.slice (some ⟨g, 0, none⟩) xs.length c) := hV.blk.cell 0
    have c1 : w.cell? ⟨g, 0, none⟩ = some (.int .i64 x) := by rw [← hx]; exact ro_cell hV.row 0 (by omega)
    have c2 : w.cell? ⟨g, xs.length - 1, none⟩ = some (.int .i64 y) := by rw [← hy]; exact ro_cell hV.row (xs.length - 1) (by omega)
    have f1 : w.frozen? ⟨g, 0, none⟩ = false := ro_free hV.row 0 (by omega)
    have HV := hid hV
    have HB := hid hb
    clear hV hx hy hb
    generalize hn : xs.length = n at h0 c0 c2 hl
    have HN := hid hn
    clear hn
    obtain ⟨m, hm⟩ : ∃ m, n - 1 = m := ⟨_, rfl⟩
    have HM : Hid (n = m + 1) := hid (by omega)
    have hz : (n == 0) = false := beq_eq_false_iff_ne.2 h0
    have hz2 : ((n : Int) == 0) = false := beq_eq_false_iff_ne.2 (by omega)
    have hq : (n : Int) - 1 = (m : Int) := by omega
    have hp : (0 : Int) < (n : Int) := by omega
    have hp2 : (m : Int) < (n : Int) := by omega
    have hw : IntKind.i64.wrap (m : Int) = (m : Int) := IntWalk.i64_in _ (by omega)
    rw [hm] at c2
    clear hm
    go_enter Try.func80, Try.ntmps80
    go_wp2_with fail
    refine (size_any base R tb xs w HH.out).mono ?_
    rintro e w' ⟨rfl, rfl⟩
    rw [HN.out]
    go_wp2_with fail
    go_still_tail 16, (by kernel_rfl)
    change wpList _ _ _ _ _ w'.drew
    have HV' := hid (HV.out.drewN 1)
    have HI : Hid (0 < xs.length) := by have := HM.out; have := HN.out; exact hid (by omega)
    have H2 : Hid (HeapV base R tb (.slice (some ⟨g, 0, none⟩) xs.length c) (.func (.func 84) #[] #[.pointer (some ⟨B, 0, none⟩)]) (xs.set 0 y) (w'.drew.setCell ⟨g, 0, none⟩ (.int .i64 y)) ∧ Fr (Zh base R w'.drew) w'.drew (w'.drew.setCell ⟨g, 0, none⟩ (.int .i64 y))) := HV'.out.rset (w := w'.drew) HB.out 0 HI.out y
    have H2B : Hid (base ≤ (w'.drew.setCell ⟨g, 0, none⟩ (.int .i64 y)).heap.size) := hid (Nat.le_trans HB.out H2.out.2.size)
    have f1' : w'.drew.frozen? ⟨g, 0, none⟩ = false := f1
    have c1' : w'.drew.cell? ⟨g, 0, none⟩ = some (.int .i64 x) := c1
    go_wp2_with fail
    rw [HN.out] at H2
    change Code.wp _ _ _ _ (w'.drew.setCell ⟨g, 0, none⟩ (.int .i64 y))
    clear c0 c1 c2 f1 f1' c1'
    generalize w'.drew.setCell ⟨g, 0, none⟩ (.int .i64 y) = w2 at H2 H2B ⊢
    have d0 : w2.cell? ⟨R, 0, none⟩ = some (.slice (some ⟨g, 0, none⟩) n c) := H2.out.1.blk.cell 0
    have d1 : w2.frozen? ⟨R, 0, none⟩ = false := H2.out.1.blk.free 0
    have HLE : Hid (m ≤ (xs.set 0 y).length) := by have := HM.out; have := HN.out; exact hid (by rw [List.length_set]; omega)
    have H3 : Hid (HeapV base R tb (.slice (some ⟨g, 0, none⟩) m c) (.func (.func 84) #[] #[.pointer (some ⟨B, 0, none⟩)]) ((xs.set 0 y).take m) (w2.drew.setCell ⟨R, 0, none⟩ (.slice (some ⟨g, 0, none⟩) m c)) ∧ Fr (Zh base R w2.drew) w2.drew (w2.drew.setCell ⟨R, 0, none⟩ (.slice (some ⟨g, 0, none⟩) m c))) :=
      (H2.out.1.drewN 1).store (w := w2.drew) H2B.out (Kd.R_take (Kd.R_drewN H2.out.1.row 1) HLE.out)
    obtain ⟨i3, hi3, _⟩ := Option.map_eq_some_iff.1 info3
    have hnc : n ≤ c := (Kd.R_reads' H2.out.1.row).2.1
    have hcut := cut_to (P := Try.prog) 30 3 .i64 Try.underlying30 hi3 (some ⟨g, 0, none⟩) n c (m : Int) (by omega) (by omega) hnc
    rw [Int.toNat_natCast] at hcut
    clear hi3 hnc
    go_still_tail 12, (by kernel_rfl)
    change wpList _ _ _ _ _ w2.drew
    have d0' : w2.drew.cell? ⟨R, 0, none⟩ = some (.slice (some ⟨g, 0, none⟩) n c) := d0
    have d1' : w2.drew.frozen? ⟨R, 0, none⟩ = false := d1
    go_wp2_with fail
    change Code.wp _ _ _ _ (w2.drew.setCell ⟨R, 0, none⟩ (.slice (some ⟨g, 0, none⟩) m c))
    clear hcut d0 d1 d0' d1'
    have HF3 : Hid (Fr (Zh base R w') w' (w2.drew.setCell ⟨R, 0, none⟩ (.slice (some ⟨g, 0, none⟩) m c))) :=
      hid (zh_trans (zh_trans ((Fr.refl _ _).drew) H2.out.2) (zh_trans ((Fr.refl _ _).drew) H3.out.2))
    have HZ := hid H3.out.1
    clear H3 H2 H2B
    generalize w2.drew.setCell ⟨R, 0, none⟩ (.slice (some ⟨g, 0, none⟩) m c) = w3 at HZ HF3 ⊢
    have d0 : w3.cell? ⟨R, 0, none⟩ = some (.slice (some ⟨g, 0, none⟩) m c) := HZ.out.blk.cell 0
    have d1 : w3.cell? ⟨R, 1, none⟩ = some (.func (.func 84) #[] #[.pointer (some ⟨B, 0, none⟩)]) := HZ.out.blk.cell 1
    have HXL : Hid (((xs.set 0 y).take m).length = m) := by have := HLE.out; exact hid (by rw [List.length_take]; omega)
    have HML : Hid (m ≤ 1099511627776) := hid (by omega)
    rw [HN.out, HM.out] at HP
    have HP2 : Hid (popT (rankOf tb) xs = downT (rankOf tb) ((xs.set 0 y).take m) 0) := HP.out
    clear HP
    by_cases hm0 : m = 0
    · subst hm0
      have HD : Hid (popT (rankOf tb) xs = (xs.set 0 y).take 0) := by
        refine hid ?_
        rw [HP2.out, downT, if_neg (by simp)]
      go_still_tail 8, (by kernel_rfl)
      change wpList _ _ _ _ _ w3.drew
      go_wp2_with fail
      refine (down_nil _ _ _ w3.drew).mono ?_
      rintro e w4 ⟨rfl, rfl⟩
      go_wp2_with fail
      go_ret2
      exact ⟨by rw [HT.out]; rfl, ⟨_, _, by rw [HD.out]; exact HZ.out.drewN 1⟩, HF3.out.drew⟩
    · have HM0 : Hid (0 < ((xs.set 0 y).take m).length) := hid (by rw [HXL.out]; omega)
      go_still_tail 8, (by kernel_rfl)
      change wpList _ _ _ _ _ w3.drew
      go_wp2_with fail
      refine (down_any base base tb _ _ ((xs.set 0 y).take m) 0 w3.drew (HZ.out.less.drewN 1) (Nat.le_refl _) (HZ.out.row.drewN 1) HM0.out (by rw [HXL.out]; exact HML.out)).mono ?_
      rintro e w4 ⟨rfl, hR, hF⟩
      have H4 : Hid (HeapV base R tb (.slice (some ⟨g, 0, none⟩) m c) (.func (.func 84) #[] #[.pointer (some ⟨B, 0, none⟩)]) (popT (rankOf tb) xs) w4 ∧ Fr (Zh base R w') w' w4) := by
        have hV2 := HZ.out.drewN 1
        have hF2 : Fr (Zh base R w') w' w3.drew := HF3.out.drew
        have hF3 := zh_trans hF2 (hF.mono (fun n _ hz => hV2.zrow n hz))
        rw [HP2.out]
        exact hid ⟨⟨hV2.blk.fr hF (fun e => hV2.ne e.symm), hV2.less.to (zh_below (hF.mono (fun n _ hz => hV2.zrow n hz)) (Nat.le_trans HB.out hF2.size)), hR, hV2.ge⟩, hF3⟩
      clear hR hF
      go_wp2_with fail
      go_ret2
      exact ⟨by rw [HT.out]; rfl, ⟨_, _, H4.out.1⟩, H4.out.2⟩
end Go.Proofs.Ytmhnhfmkcipcpaa.Heap
