/- Binary heaps in memory: Push. For every heap. -/
import Derived.Test.YtmhnhfmkcipcpaaHeapC
namespace Go.Proofs.Ytmhnhfmkcipcpaa.Heap
open Go Go.RowKit Go.Proofs.Ytmhnhfmkcipcpaa.Hk Go.Proofs.Ytmhnhfmkcipcpaa.HeapPure Go.Proofs.Ytmhnhfmkcipcpaa.Less Go.Proofs.YtmhnhfmkcipcpaaW.PrintWords Go.Proofs.YtmhnhfmkcipcpaaW.PrintLast Go.Proofs.YtmhnhfmkcipcpaaW.PrintMore

set_option maxHeartbeats 4000000 in
set_option maxRecDepth 100000 in
theorem push_any (base R : Nat) (tb xs : List Int) (x : Int) (w : World) (hH : HeapIn base R tb xs w) (hb : base ≤ w.heap.size) (hl : xs.length < 1099511627776) :
    Calls Try.prog 77 #[.pointer (some ⟨R, 0, none⟩), .int .i64 x] w fun e w' => e = .returned (.tuple #[]) ∧ HeapIn base R tb (pushT (rankOf tb) xs x) w' ∧ Fr (Zh base R w) w w' := by
  obtain ⟨v, lv, hV⟩ := hH
  obtain ⟨A, c, rfl⟩ := hV.slice
  obtain ⟨B, rfl⟩ := hV.func
  have HV := hid hV
  have HB := hid hb
  have HL := hid hl
  have c0 : w.cell? ⟨R, 0, none⟩ = some (.slice A xs.length c) := hV.blk.cell 0
  clear hV hb hl
  go_enter Try.func77, Try.ntmps77
  go_wp2_with ((with_reducible refine gate_builtin (b := .append) (xs := #[.tmp 8, .tmp 10]) rfl ?_); at_builtin
               refine Kd.R_append (W := w) (Kd.int .i64) (w0 := w) base rfl (.tmp 8) (.tmp 10) 30 3 (.int .i64 0) 8 rfl Try.underlying30 info3 rfl (by decide) (by omega) (.slice A xs.length c) xs x [.int .i64 x] (fun _ => True) (fun _ => False) rfl rfl ?aP (fun _ hk => hk.elim) (fun _ _ => trivial) ?aO ?aB ?aS ?aL ?_
               case aP => exact rfl
               case aO => exact HV.out.row
               case aB => exact Below.refl _ _
               case aS => exact HB.out
               case aL => have := HL.out; omega
               intro v1 w1 ho _ hg hat
               obtain ⟨A1, c1, rfl⟩ := Kd.R_slice ho
               have HO : Hid (Ro w1 base (.slice A1 (xs ++ [x]).length c1) (xs ++ [x]) ∧ w.grownBy w1 (Value.slice A xs.length c).ownBlock) := ⟨ho, hg⟩
               have HBk : Hid (Blk w1 R #[.slice A xs.length c, .func (.func 84) #[] #[.pointer (some ⟨B, 0, none⟩)]] 121) := hid (HV.out.blk.fr (Fr.of_grown hg) (fun e => HV.out.ne e))
               have f0 : w1.frozen? ⟨R, 0, none⟩ = false := HBk.out.free 0
               have d0 : w1.cell? ⟨R, 0, none⟩ = some (.slice A xs.length c) := HBk.out.cell 0
               clear ho hg hat c0)
  have HE : Hid ((xs ++ [x]).length = xs.length + 1) := hid (by simp)
  have H2 : Hid (HeapV base R tb (.slice A1 (xs.length + 1) c1) (.func (.func 84) #[] #[.pointer (some ⟨B, 0, none⟩)]) (xs ++ [x]) (w1.setCell ⟨R, 0, none⟩ (.slice A1 (xs.length + 1) c1)) ∧ Fr (Zh base R w) w (w1.setCell ⟨R, 0, none⟩ (.slice A1 (xs.length + 1) c1))) := by
    have ho := HO.out.1
    rw [HE.out] at ho
    have hF : Fr (Zh base R w) w (w1.setCell ⟨R, 0, none⟩ (.slice A1 (xs.length + 1) c1)) :=
      ((Fr.of_grown HO.out.2).mono (fun n _ hz => HV.out.zrow n hz.symm)).setCell (p := ⟨R, 0, none⟩) (fun _ => ⟨HV.out.ge, .inl rfl⟩) _
    refine hid ⟨⟨HBk.out.set 0 _, HV.out.less.to (zh_below hF HB.out), ho.fr (Fr.one (b := R) (i := 0)) (fun k hk e => Kd.R_ne ho HBk.out (by decide) (by rw [hk, e])), HV.out.ge⟩, hF⟩
  clear HO HBk HV
  have HX : Hid (xs.length < (xs ++ [x]).length ∧ (xs ++ [x]).length ≤ 1099511627776) := by
    have := HL.out
    exact hid (by rw [HE.out]; omega)
  generalize w1.setCell ⟨R, 0, none⟩ (.slice A1 (xs.length + 1) c1) = w2 at H2 ⊢
  have e0 : w2.cell? ⟨R, 0, none⟩ = some (.slice A1 (xs.length + 1) c1) := H2.out.1.blk.cell 0
  have e1 : w2.cell? ⟨R, 1, none⟩ = some (.func (.func 84) #[] #[.pointer (some ⟨B, 0, none⟩)]) := H2.out.1.blk.cell 1
  have hb9 := HL.out
  go_still_tail 14, (by kernel_rfl)
  change wpList _ _ _ _ _ w2.drew
  go_wp2_with fail
  refine (up_any base base tb _ _ (xs ++ [x]) xs.length w2.drew (H2.out.1.less.drewN 1) (Nat.le_refl _) (Nat.le_trans HB.out H2.out.2.size) (H2.out.1.row.drewN 1) HX.out.1 HX.out.2).mono ?_
  rintro e w3 ⟨rfl, hR, hF⟩
  have H3 : Hid (HeapV base R tb (.slice A1 (xs.length + 1) c1) (.func (.func 84) #[] #[.pointer (some ⟨B, 0, none⟩)]) (pushT (rankOf tb) xs x) w3 ∧ Fr (Zh base R w) w w3) := by
    have hV2 := H2.out.1.drewN 1
    have hF2 : Fr (Zh base R w) w w2.drew := H2.out.2.drew
    have hF3 := zh_trans hF2 (hF.mono (fun n _ hz => hV2.zrow n hz))
    exact hid ⟨⟨hV2.blk.fr hF (fun e => hV2.ne e.symm), hV2.less.to (zh_below (hF.mono (fun n _ hz => hV2.zrow n hz)) (Nat.le_trans HB.out hF2.size)), hR, hV2.ge⟩, hF3⟩
  clear hR hF
  go_wp2_with fail
  go_end0
  exact ⟨rfl, ⟨_, _, H3.out.1⟩, H3.out.2⟩
end Go.Proofs.Ytmhnhfmkcipcpaa.Heap
