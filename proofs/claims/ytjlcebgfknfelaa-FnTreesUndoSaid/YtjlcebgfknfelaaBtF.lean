/- B-trees in memory: Put and Remove of the tree. For every tree that fits. -/
import Derived.Test.YtjlcebgfknfelaaBtE
namespace Go.Proofs.Ytjlcebgfknfelaa.Bt
open Go Go.RowKit Go.IntWalk Go.Proofs.Ytjlcebgfknfelaa.Hk Go.Proofs.Ytjlcebgfknfelaa.BtPure Go.Proofs.Ytjlcebgfknfelaa.Less Go.Proofs.YtjlcebgfknfelaaW.PrintWords Go.Proofs.YtjlcebgfknfelaaW.PrintLast Go.Proofs.YtjlcebgfknfelaaW.PrintMore
open Go.Proofs.Ytjlcebgfknfelaa.Avl (LessS Acc)

theorem Nd.newm (w : World) (m : Int) : Nd (w.alloc (.cells (Try.zeroCells113.setIfInBounds 0 (.int .i64 m)) 113)) w.heap.size m (fun _ => q0) := by
  rw [zero_cells, cells_setm]
  exact Blk.new w _ _
theorem dr_fr {S : Nat → Prop} {a w : World} (h : Fr S a.drew w) : Fr S a w := ⟨h.os, h.tape, h.output, h.size, h.block⟩
section
variable {base R : Nat} {tb : List Int} {key val : Int} {ok : Bool} {w w1 W : World} {h : Nat} {t t' u : N h}
/-- The tree behind an insertion that has told nothing, and whatever has been stored into its own variable's cells. -/
theorem put_none {n n' : Int} {lv : Value} (hT : Tree base R tb ⟨h, t⟩ w) (hbl : Blk w R #[.pointer (some ⟨N.blk h t, 0, none⟩), .int .i64 h, .int .i64 n, lv] 115) (hL : LessS base w lv tb) (O : Out tb key val ok t t' none w w1) :
    Turned base R tb ⟨h, t⟩ (insL (rankOf tb) key val ok (T.flat h (N.raw h t))) w (w1.setCell ⟨R, 2, none⟩ (.int .i64 n')) := by
  have hlt := hT.lt.1
  have hb : base ≤ w.heap.size := Nat.le_of_lt (Nat.lt_of_le_of_lt hT.ge hlt)
  have hni : R ∉ N.ids h t := hT.notin
  have hR' : R ∉ N.ids h t' := fun hm => by
    rcases O.ids R (List.mem_append_left _ hm) with h1 | h1
    · exact hni h1
    · omega
  obtain ⟨G', hflat⟩ := O.good hT.good hb
  have hB1 : Blk w1 R _ 115 := hbl.fr O.fr hni
  have hf : Fr (fun b => b = R ∨ b ∈ N.ids h t) w (w1.setCell ⟨R, 2, none⟩ (.int .i64 n')) := (O.fr.mono (fun k _ hk => .inr hk)).setCell (p := ⟨R, 2, none⟩) (fun _ => .inl rfl) _
  refine ⟨⟨h, t'⟩, ⟨⟨n', lv, ?_, hL.to (hf.below hb (fun k hk => ?_))⟩, hT.ge, hR', G'.kept (fun b hb' => Below.heap_setCell _ _ _ _ (fun e => hR' (by have e' : b = R := e; rw [← e']; exact hb')))⟩, hflat, Nat.le_succ _, hf, fun b hb' => O.ids b (List.mem_append_left _ hb')⟩
  · have := hB1.set 2 (.int .i64 n')
    rw [← O.blk] at this
    exact this
  · rcases hk with rfl | hk
    · exact hT.ge
    · exact hT.good.above k hk
end

set_option maxHeartbeats 8000000 in
set_option maxRecDepth 100000 in
theorem tPut_any (base R : Nat) (tb : List Int) (m : M) (key val : Int) (w : World) (hT : Tree base R tb m w) (hh : m.h ≤ 1099511627775) :
    Calls Try.prog 72 #[.pointer (some ⟨R, 0, none⟩), .int .i64 key, .int .i64 val] w fun e w' => e = .returned (.tuple #[]) ∧ Turned base R tb m (insL (rankOf tb) key val true m.raw) w w' := by
  have HT := hid hT
  obtain ⟨⟨n, lv, hB, hL⟩, g, ni, G⟩ := hT
  obtain ⟨h, t⟩ := m
  have c0 : w.cell? ⟨R, 0, none⟩ = some (.pointer (some ⟨N.blk h t, 0, none⟩)) := hB.cell 0
  have c1 : w.cell? ⟨R, 1, none⟩ = some (.int .i64 h) := hB.cell 1
  have HB := hid (And.intro hB hL)
  have HG := hid G
  have HNI : Hid (R ∉ N.ids h t) := ni
  have HZ : Hid (base ≤ w.heap.size ∧ h ≤ 1099511627775) := ⟨by have := hB.lt; omega, hh⟩
  clear hB hL g ni G hh
  go_enter Try.func72, Try.ntmps72
  go_wp2_with fail
  refine wp_first_tail (.tmp 0) (some 8) 11 (by kernel_rfl) ⟨rfl, rfl, rfl⟩ (by kernel_rfl) (by kernel_rfl) (by kernel_rfl) (fun _ _ _ h => h) (by kernel_rfl) ?_
  simp only [tied, List.modify_succ_cons, List.modify_zero_cons, List.take_succ_cons, List.take_zero, List.drop_succ_cons, List.drop_zero]
  repeat still_step
  refine wpStill_nil ?_
  go_wp2_with fail
  refine (insert_any base R tb key val n h true _ lv h t w.drew (HG.out.kept (fun _ _ => rfl)) HB.out.1 HNI.out (HB.out.2.drewN 1) HZ.out.1 (by have := HZ.out.2; omega)).mono ?_
  rintro e w1 ⟨t', u, rfl, O⟩
  have HO : Hid (Out tb key val true t t' u w w1) := ⟨O.raw, O.blk, O.mem, O.memu, O.nodup, O.ids, dr_fr O.fr⟩
  have HB1 : Hid (Blk w1 R #[.pointer (some ⟨N.blk h t, 0, none⟩), .int .i64 h, .int .i64 n, lv] 115) := hid (HB.out.1.fr HO.out.fr HNI.out)
  clear O c0 c1
  have c2 : w1.cell? ⟨R, 2, none⟩ = some (.int .i64 n) := HB1.out.cell 2
  have f2 : w1.frozen? ⟨R, 2, none⟩ = false := HB1.out.free 2
  cases u with
  | none =>
    rw [show uptr (none : Option (N h)) = .pointer none from rfl]
    go_wp2_with fail
    (try simp only [Exit.inBlock, Exit.then]); refine bodyPost_ret (results_none rfl _ _ _) rfl ?_
    exact ⟨rfl, put_none HT.out HB.out.1 HB.out.2 HO.out⟩
  | some u =>
    rw [show uptr (some u) = .pointer (some ⟨N.blk h u, 0, none⟩) from rfl]
    have hd1 : 1 ≤ T.len h (N.raw h t') ∧ 1 ≤ T.len h (N.raw h u) := by
      have hm := ins_made (k := key) (v := val) (ok := true) HG.out.row HG.out.len HG.out.one
      have hr := HO.out.raw
      rw [← hr] at hm
      exact ⟨hm.one.2.2, (hm.some_ (N.raw h u) rfl).1.2.2⟩
    have HD1 := hid hd1
    have hRn : R ∉ N.ids h t' ++ N.ids h u := fun hm => by
      rcases HO.out.ids R hm with h1 | h1
      · exact HNI.out h1
      · have := HT.out.lt.1; omega
    have HRN := hid hRn
    clear hd1 hRn
    go_upto_region 3 with fail
    have HB2 : Hid (Blk (w1.setCell ⟨R, 2, none⟩ (.int .i64 (wrap64 (n + 1)))) R #[.pointer (some ⟨N.blk h t, 0, none⟩), .int .i64 h, .int .i64 (wrap64 (n + 1)), lv] 115) := hid (HB1.out.set 2 _)
    have HF2 : Hid (Fr (· = R) w1 (w1.setCell ⟨R, 2, none⟩ (.int .i64 (wrap64 (n + 1))))) := hid (Fr.setCell (S := (· = R)) (Fr.refl _ _) (p := ⟨R, 2, none⟩) (fun _ => rfl) _)
    clear c2 f2
    obtain ⟨n1, hn1⟩ : ∃ n1, wrap64 (n + 1) = n1 := ⟨_, rfl⟩
    rw [hn1] at HB2 HF2 ⊢
    generalize w1.setCell ⟨R, 2, none⟩ (.int .i64 n1) = W2 at HB2 HF2 ⊢
    go_upto_region 4 with fail
    have HN3 := hid (Nd.newm W2 2)
    have HB3 := hid (HB2.out.alloc (.cells (Try.zeroCells113.setIfInBounds 0 (.int .i64 2)) 113))
    have HF3 := hid (HF2.out.alloc (.cells (Try.zeroCells113.setIfInBounds 0 (.int .i64 2)) 113))
    have HSZ : Hid (w1.heap.size ≤ W2.heap.size) := HF2.out.size
    generalize W2.alloc (.cells (Try.zeroCells113.setIfInBounds 0 (.int .i64 2)) 113) = W3 at HN3 HB3 HF3 ⊢
    obtain ⟨c, hc⟩ : ∃ c, W2.heap.size = c := ⟨_, rfl⟩
    rw [hc] at HN3 HSZ ⊢
    have HRC : Hid (R ≠ c ∧ c ≠ R) := by have h1 := HB2.out.lt; rw [hc] at h1; exact ⟨by omega, by omega⟩
    clear hc HB2 HF2
    -- the parts' first keys
    obtain ⟨k0, hk0⟩ : ∃ k0, T.first h (N.raw h t') = k0 := ⟨_, rfl⟩
    obtain ⟨k1, hk1⟩ : ∃ k1, T.first h (N.raw h u) = k1 := ⟨_, rfl⟩
    have HK := hid (And.intro hk0 hk1)
    clear hk0 hk1
    have par : ∀ W, Fr (· = R) w1 W → N.In W h t' ∧ N.In W h u := fun W hf => ⟨HO.out.mem.fr hf (fun b hb e => HRN.out (by rw [← e]; exact List.mem_append_left _ hb)), (HO.out.memu u rfl).fr hf (fun b hb e => HRN.out (by rw [← e]; exact List.mem_append_right _ hb))⟩
    have HPAR := hid par
    clear par
    have c0 : W3.cell? ⟨R, 0, none⟩ = some (.pointer (some ⟨N.blk h t, 0, none⟩)) := HB3.out.cell 0
    have d0 : W3.cell? ⟨N.blk h t, 1, none⟩ = some (.int .i64 k0) := by rw [← HK.out.1, ← HO.out.blk]; exact first_cell (HPAR.out _ HF3.out).1 HD1.out.1
    go_upto_region 4 with fail
    refine still_tail_drew 18 (by kernel_rfl) (by kernel_rfl) ?_
    simp only [List.take_succ_cons, List.take_zero, List.drop_succ_cons, List.drop_zero]
    repeat still_step
    refine wpStill_nil ?_
    change wpList _ _ _ _ _ W3.drew
    refine wpList_store_mid rfl 110 (.tmp 48) (.tmp 45) rfl c 1 _ rfl rfl (Nd.there (w := W3.drew) HN3.out 0 (by omega)) (by kernel_rfl) (by simp [Value.oneCell']) ?_
    change wpList _ _ _ _ _ (W3.drew.setCells c (1 + 0 * 4) (cellsQ ⟨k0, 0, false, some ⟨N.blk h t, 0, none⟩⟩))
    have HN4 := hid (Nd.puts (w := W3.drew) HN3.out 0 ⟨k0, 0, false, some ⟨N.blk h t, 0, none⟩⟩ (by omega))
    have HB4 : Hid (Blk (W3.drew.setCells c (1 + 0 * 4) (cellsQ ⟨k0, 0, false, some ⟨N.blk h t, 0, none⟩⟩)) R #[.pointer (some ⟨N.blk h t, 0, none⟩), .int .i64 h, .int .i64 n1, lv] 115) := Blk.sets (w := W3.drew) HB3.out c (1 + 0 * 4) _ HRC.out.1
    have HF4 := hid (fr_sets (S := (· = R)) (b := c) (fun h1 => absurd h1 (by have := HSZ.out; omega)) HF3.out.drew (1 + 0 * 4) (cellsQ ⟨k0, 0, false, some ⟨N.blk h t, 0, none⟩⟩))
    clear c0 d0 HN3 HB3 HF3
    generalize W3.drew.setCells c (1 + 0 * 4) (cellsQ ⟨k0, 0, false, some ⟨N.blk h t, 0, none⟩⟩) = W4 at HN4 HB4 HF4 ⊢
    have d1 : W4.cell? ⟨N.blk h u, 1, none⟩ = some (.int .i64 k1) := by rw [← HK.out.2]; exact first_cell (HPAR.out _ HF4.out).2 HD1.out.2
    go_upto_region 5 with fail
    refine still_tail_drew 12 (by kernel_rfl) (by kernel_rfl) ?_
    simp only [List.take_succ_cons, List.take_zero, List.drop_succ_cons, List.drop_zero]
    repeat still_step
    refine wpStill_nil ?_
    change wpList _ _ _ _ _ W4.drew
    refine wpList_store_mid rfl 110 (.tmp 60) (.tmp 57) rfl c 5 _ rfl rfl (Nd.there (w := W4.drew) HN4.out 1 (by omega)) (by kernel_rfl) (by simp [Value.oneCell']) ?_
    change wpList _ _ _ _ _ (W4.drew.setCells c (1 + 1 * 4) (cellsQ ⟨k1, 0, false, some ⟨N.blk h u, 0, none⟩⟩))
    have HN5 := hid (Nd.puts (w := W4.drew) HN4.out 1 ⟨k1, 0, false, some ⟨N.blk h u, 0, none⟩⟩ (by omega))
    have HB5 : Hid (Blk (W4.drew.setCells c (1 + 1 * 4) (cellsQ ⟨k1, 0, false, some ⟨N.blk h u, 0, none⟩⟩)) R #[.pointer (some ⟨N.blk h t, 0, none⟩), .int .i64 h, .int .i64 n1, lv] 115) := Blk.sets (w := W4.drew) HB4.out c (1 + 1 * 4) _ HRC.out.1
    have HF5 := hid (fr_sets (S := (· = R)) (b := c) (fun h1 => absurd h1 (by have := HSZ.out; omega)) HF4.out.drew (1 + 1 * 4) (cellsQ ⟨k1, 0, false, some ⟨N.blk h u, 0, none⟩⟩))
    clear d1 HN4 HB4 HF4
    generalize W4.drew.setCells c (1 + 1 * 4) (cellsQ ⟨k1, 0, false, some ⟨N.blk h u, 0, none⟩⟩) = W5 at HN5 HB5 HF5 ⊢
    have c0 : W5.cell? ⟨R, 0, none⟩ = some (.pointer (some ⟨N.blk h t, 0, none⟩)) := HB5.out.cell 0
    have c1 : W5.cell? ⟨R, 1, none⟩ = some (.int .i64 h) := HB5.out.cell 1
    have f0 : W5.frozen? ⟨R, 0, none⟩ = false := HB5.out.free 0
    have f1 : W5.frozen? ⟨R, 1, none⟩ = false := HB5.out.free 1
    have hw : IntKind.i64.wrap ((h : Int) + 1) = (h : Int) + 1 := i64_in _ (by have := HZ.out.2; omega)
    have HB6 : Hid (Blk ((W5.setCell ⟨R, 0, none⟩ (.pointer (some ⟨c, 0, none⟩))).setCell ⟨R, 1, none⟩ (.int .i64 ((h : Int) + 1))) R #[.pointer (some ⟨c, 0, none⟩), .int .i64 ((h : Int) + 1), .int .i64 n1, lv] 115) := hid ((HB5.out.set 0 _).set 1 _)
    have HF6 : Hid (Fr (· = R) w1 ((W5.setCell ⟨R, 0, none⟩ (.pointer (some ⟨c, 0, none⟩))).setCell ⟨R, 1, none⟩ (.int .i64 ((h : Int) + 1)))) := hid (Fr.setCell (S := (· = R)) (Fr.setCell (S := (· = R)) HF5.out (p := ⟨R, 0, none⟩) (fun _ => rfl) _) (p := ⟨R, 1, none⟩) (fun _ => rfl) _)
    have HN6 : Hid (Nd ((W5.setCell ⟨R, 0, none⟩ (.pointer (some ⟨c, 0, none⟩))).setCell ⟨R, 1, none⟩ (.int .i64 ((h : Int) + 1))) c 2 (upd (upd (fun _ => q0) 0 ⟨k0, 0, false, some ⟨N.blk h t, 0, none⟩⟩) 1 ⟨k1, 0, false, some ⟨N.blk h u, 0, none⟩⟩)) := hid ((HN5.out.other' ⟨R, 0, none⟩ _ HRC.out.2).other' ⟨R, 1, none⟩ _ HRC.out.2)
    go_wp2_with fail
    (try simp only [Exit.inBlock, Exit.then]); refine bodyPost_end (results_none rfl _ _ _) rfl ?_
    obtain ⟨G', hflat⟩ := Out.two (R := R) HG.out HZ.out.1 HO.out HF6.out HRN.out HSZ.out HN6.out ⟨by show k0 = _; exact HK.out.1.symm, by show some (⟨N.blk h t, 0, none⟩ : Addr) = _; rw [HO.out.blk]⟩ ⟨by show k1 = _; exact HK.out.2.symm, rfl⟩
    have hs1 := HO.out.fr.size
    have hge := HT.out.ge
    have hids : N.ids (h + 1) ((c, [(T.first h (N.raw h t'), t'), (T.first h (N.raw h u), u)]) : Nat × List (Int × N h)) = c :: (N.ids h t' ++ N.ids h u) := by
      show c :: fids _ = _
      rw [fids_cons, fids_cons]
      simp [fids]
    have hfr : Fr (fun b => b = R ∨ b ∈ N.ids h t) w ((W5.setCell ⟨R, 0, none⟩ (.pointer (some ⟨c, 0, none⟩))).setCell ⟨R, 1, none⟩ (.int .i64 ((h : Int) + 1))) := (HO.out.fr.mono (fun k _ hk => .inr hk)).trans HF6.out (fun k _ hk => .inl hk)
    refine ⟨rfl, ⟨h + 1, (c, [(T.first h (N.raw h t'), t'), (T.first h (N.raw h u), u)])⟩, ⟨⟨n1, lv, HB6.out, HB.out.2.to (hfr.below HZ.out.1 (fun k hk => ?_))⟩, hge, ?_, G'⟩, hflat, Nat.le_refl _, hfr, fun b hb => ?_⟩
    · rcases hk with rfl | hk
      · exact hge
      · exact HG.out.above k hk
    · show R ∉ N.ids (h + 1) _
      rw [hids]
      intro hm
      rcases List.mem_cons.1 hm with e | hm
      · exact HRC.out.1 e
      · exact HRN.out hm
    · have hb' : b ∈ N.ids (h + 1) ((c, [(T.first h (N.raw h t'), t'), (T.first h (N.raw h u), u)]) : Nat × List (Int × N h)) := hb
      rw [hids] at hb'
      rcases List.mem_cons.1 hb' with rfl | hb'
      · right; have := HSZ.out; omega
      · exact HO.out.ids b hb'

set_option maxHeartbeats 8000000 in
set_option maxRecDepth 100000 in
theorem tRemove_any (base R : Nat) (tb : List Int) (m : M) (key : Int) (w : World) (hT : Tree base R tb m w) (hh : m.h ≤ 1099511627775) :
    Calls Try.prog 73 #[.pointer (some ⟨R, 0, none⟩), .int .i64 key] w fun e w' => e = .returned (.tuple #[]) ∧ Turned base R tb m (if (tell (findL (rankOf tb) key m.raw)).2 = true then insL (rankOf tb) key 0 false m.raw else m.raw) w w' := by
  have HT := hid hT
  have HH := hid hh
  clear hT hh
  obtain ⟨X, hX⟩ : ∃ X, (if (tell (findL (rankOf tb) key m.raw)).2 = true then insL (rankOf tb) key 0 false m.raw else m.raw) = X := ⟨_, rfl⟩
  rw [hX]
  have HX := hid hX
  clear hX
  go_enter Try.func73, Try.ntmps73
  go_wp2_with fail
  refine (tGet_any base R tb m key w HT.out (by have := HH.out; omega)).mono ?_
  rintro e w1 ⟨rfl, hb⟩
  have HB1 := hid hb
  have HT1 := hid (HT.out.below hb)
  clear hb
  cases hg : (tell (findL (rankOf tb) key m.raw)).2 with
  | false =>
    go_wp2_with fail
    (try simp only [Exit.inBlock, Exit.then]); refine bodyPost_ret (results_none rfl _ _ _) rfl ?_
    refine ⟨rfl, m, HT1.out, by rw [← HX.out, hg]; rfl, Nat.le_succ _, Fr.new HB1.out, fun b hb => .inl hb⟩
  | true =>
    have HGG := hid hg
    clear hg
    obtain ⟨⟨n, lv, hB, hL⟩, g, ni, G⟩ := HT1.out
    obtain ⟨h, t⟩ := m
    have c0 : w1.cell? ⟨R, 0, none⟩ = some (.pointer (some ⟨N.blk h t, 0, none⟩)) := hB.cell 0
    have c1 : w1.cell? ⟨R, 1, none⟩ = some (.int .i64 h) := hB.cell 1
    have HB := hid (And.intro hB hL)
    have HG := hid G
    have HNI : Hid (R ∉ N.ids h t) := ni
    have HZ : Hid (base ≤ w1.heap.size ∧ h ≤ 1099511627775) := ⟨by have := hB.lt; omega, HH.out⟩
    clear hB hL g ni G
    go_upto_region 3 with fail
    refine wp_first_tail (.tmp 0) (some 15) 11 (by kernel_rfl) ⟨rfl, rfl, rfl⟩ (by kernel_rfl) (by kernel_rfl) (by kernel_rfl) (fun _ _ _ h => h) (by kernel_rfl) ?_
    simp only [tied, List.modify_succ_cons, List.modify_zero_cons, List.take_succ_cons, List.take_zero, List.drop_succ_cons, List.drop_zero]
    repeat still_step
    refine wpStill_nil ?_
    go_wp2_with fail
    refine (insert_any base R tb key 0 n h false _ lv h t w1.drew (HG.out.kept (fun _ _ => rfl)) HB.out.1 HNI.out (HB.out.2.drewN 1) HZ.out.1 (by have := HZ.out.2; omega)).mono ?_
    rintro e w2 ⟨t', u, rfl, O⟩
    have hf : T.find (rankOf tb) key h (N.raw h t) ≠ none := fun e => by
      have h1 := HGG.out
      rw [show (M.mk h t).raw = T.flat h (N.raw h t) from rfl, ← find_flat HG.out.row, e] at h1
      cases h1
    have hu : u = none := by
      have h1 := ins_none (k := key) (v := 0) (ok := false) HG.out.row HG.out.len hf
      rw [← O.raw] at h1
      cases u with
      | none => rfl
      | some u => cases h1
    subst hu
    have HO : Hid (Out tb key 0 false t t' none w1 w2) := ⟨O.raw, O.blk, O.mem, O.memu, O.nodup, O.ids, dr_fr O.fr⟩
    have HB2 : Hid (Blk w2 R #[.pointer (some ⟨N.blk h t, 0, none⟩), .int .i64 h, .int .i64 n, lv] 115) := hid (HB.out.1.fr HO.out.fr HNI.out)
    clear O c0 c1 hf
    have c2 : w2.cell? ⟨R, 2, none⟩ = some (.int .i64 n) := HB2.out.cell 2
    have f2 : w2.frozen? ⟨R, 2, none⟩ = false := HB2.out.free 2
    go_wp2_with fail
    (try simp only [Exit.inBlock, Exit.then]); refine bodyPost_end (results_none rfl _ _ _) rfl ?_
    obtain ⟨m', a1, a2, a3, a4, a5⟩ := put_none (n' := wrap64 (n - 1)) HT1.out HB.out.1 HB.out.2 HO.out
    refine ⟨rfl, m', a1, by rw [a2, ← HX.out, HGG.out]; rfl, a3, (Fr.new HB1.out).trans a4 (fun _ _ h => h), fun b hb => ?_⟩
    rcases a5 b hb with h1 | h1
    · exact .inl h1
    · exact .inr (Nat.le_trans HB1.out.size h1)

theorem New_any (base : Nat) (tb : List Int) (lv : Value) (w : World) (hL : LessS base w lv tb) (hb : base ≤ w.heap.size) :
    Calls Try.prog 52 #[lv] w fun e w' => ∃ R m, e = .returned (.pointer (some ⟨R, 0, none⟩)) ∧ Tree base R tb m w' ∧ m.raw = [] ∧ m.h = 0 ∧ (∀ b ∈ m.ids, w.heap.size ≤ b) ∧ w.heap.size ≤ R ∧ Below w.heap.size w w' := by
  obtain ⟨_, B, A, c, rfl, _, _⟩ := hL.now
  have HL : Hid (LessS base w (.func (.func 67) #[] #[.pointer (some ⟨B, 0, none⟩)]) tb) := hL
  have HB := hid hb
  clear hL hb
  go_enter Try.func52, Try.ntmps52
  go_wp2_with fail
  go_ret
  have hb := HB.out
  have b1 : Below w.heap.size w (w.alloc (.cells Try.zeroCells113 113)) := (Below.refl _ _).alloc (Nat.le_refl _) _
  have hN : Nd (w.alloc (.cells Try.zeroCells113 113)) w.heap.size 0 (fun _ => q0) := by
    rw [zero_cells]
    exact Blk.new w _ _
  have hs : (w.alloc (.cells Try.zeroCells113 113)).heap.size = w.heap.size + 1 := alloc_size _ _
  generalize w.alloc (.cells Try.zeroCells113 113) = W at b1 hN hs ⊢
  rw [← hs]
  have hm : ∀ b ∈ N.ids 0 ((w.heap.size, []) : Nat × List E), b = w.heap.size := fun b hb => by
    have hb' : b ∈ [w.heap.size] := hb
    exact List.mem_singleton.1 hb'
  refine ⟨W.heap.size, ⟨0, ((w.heap.size, []) : Nat × List E)⟩, rfl, ⟨⟨0, _, Blk.new W _ _, HL.out.to (below_le (b1.alloc (by omega) _) hb)⟩, by omega, fun h => ?_, ⟨⟨fun _ => q0, hN.alloc _, fun i x hx => by simp at hx⟩, by show [w.heap.size].Nodup; simp, fun b h => ?_, List.Pairwise.nil, by show 0 ≤ 63; omega, fun h => absurd rfl h⟩⟩, rfl, rfl, fun b h => ?_, by omega, b1.alloc (by omega) _⟩
  · have h' : W.heap.size = w.heap.size := hm _ h
    omega
  · have h' : b = w.heap.size := hm _ h
    omega
  · have h' : b = w.heap.size := hm _ h
    omega
end Go.Proofs.Ytjlcebgfknfelaa.Bt
