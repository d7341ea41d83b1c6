/- Binary heaps in memory: one number goes up, or down, in a row. For every row and every order by a table. -/
import Derived.Test.YtmhnhfmkcipcpaaLess
import Derived.Test.YtmhnhfmkcipcpaaHk2
import Derived.Test.YtmhnhfmkcipcpaaRow
import Derived.Test.YtmhnhfmkcipcpaaHeapPure
import Derived.Deep.QuietTactic
import Derived.BigQuiet
import Derived.BigRegion
namespace Go.Proofs.Ytmhnhfmkcipcpaa.Heap
open Go Go.RowKit Go.Proofs.Ytmhnhfmkcipcpaa.Hk Go.Proofs.Ytmhnhfmkcipcpaa.HeapPure Go.Proofs.Ytmhnhfmkcipcpaa.Less Go.Proofs.YtmhnhfmkcipcpaaW.PrintWords Go.Proofs.YtmhnhfmkcipcpaaW.PrintLast Go.Proofs.YtmhnhfmkcipcpaaW.PrintMore

/-- An order that stays as long as nothing below 'base' turns. -/
def LessS (base : Nat) (w : World) (v : Value) (t : List Int) : Prop := ∀ w', Below base w w' → LessV w' v t
theorem LessS.now {base : Nat} {w : World} {v : Value} {t : List Int} (h : LessS base w v t) : LessV w v t := h w (Below.refl _ _)
theorem LessS.to {base : Nat} {w w1 : World} {v : Value} {t : List Int} (h : LessS base w v t) (hb : Below base w w1) : LessS base w1 v t := fun w' hw => h w' (hb.trans hw)
theorem LessS.drewN {base : Nat} {w : World} {v : Value} {t : List Int} (h : LessS base w v t) (n : Nat) : LessS base (w.drewN n) v t := h.to ⟨rfl, rfl, rfl, Nat.le_refl _, fun _ _ => rfl⟩
theorem LessS.of {w : World} {v : Value} {t : List Int} (h : LessV w v t) : LessS w.heap.size w v t := fun _ hb => h.below hb

/-- A row of numbers of the call's own. -/
abbrev Ro (w : World) (base : Nat) (v : Value) (xs : List Int) : Prop := (Kd.int .i64).R 3 w base (fun _ => True) v xs
theorem Ro.fr {Z : Nat → Prop} {w w' : World} {base : Nat} {v : Value} {xs : List Int} (h : Ro w base v xs) (hf : Fr Z w w') (hn : ∀ k, v.ownBlock = some k → ¬ Z k) : Ro w' base v xs :=
  Kd.R_mono (Kd.R_step (Kd.R_reok (ok := fun k => some k = v.ownBlock) rfl h (fun _ hk => hk.symm)) (fun k hk hlt => hf.block k hlt (hn k hk.symm))) (fun _ _ => trivial)
theorem Ro.drewN {w : World} {base : Nat} {v : Value} {xs : List Int} (h : Ro w base v xs) (n : Nat) : Ro (w.drewN n) base v xs := Kd.R_drewN h n

section
variable {w : World} {base g n c : Nat} {xs : List Int}
theorem ro_len (h : Ro w base (.slice (some ⟨g, 0, none⟩) n c) xs) : n = xs.length := (Kd.R_reads' h).1
theorem ro_cell (h : Ro w base (.slice (some ⟨g, 0, none⟩) n c) xs) (i : Nat) (hi : i < xs.length) : w.cell? ⟨g, i, none⟩ = some (.int .i64 (at_ xs i)) := by
  obtain ⟨hn, _, hC⟩ := Kd.R_reads' h
  obtain ⟨ad, e, hc⟩ := Kd.at_int hC (i : Int) (by omega) (by omega)
  injection e with e
  subst e
  rw [Int.toNat_natCast] at hc
  have e1 : (⟨g, 0, none⟩ : Addr).add i = ⟨g, i, none⟩ := by
    unfold Addr.add
    by_cases h0 : i = 0 <;> simp [h0]
  rw [e1] at hc
  rw [hc]
  rfl
theorem ro_free (h : Ro w base (.slice (some ⟨g, 0, none⟩) n c) xs) (i : Nat) (hi : i < xs.length) : w.frozen? ⟨g, i, none⟩ = false := by
  obtain ⟨g', c', e, _, _, cs, hb⟩ := Kd.R_form h (by omega)
  injection e with e _ _
  injection e with e
  injection e with e
  subst e
  exact blk_frozen hb i
theorem ro_set (h : Ro w base (.slice (some ⟨g, 0, none⟩) n c) xs) (i : Nat) (hi : i < xs.length) (x : Int) : Ro (w.setCell ⟨g, i, none⟩ (.int .i64 x)) base (.slice (some ⟨g, 0, none⟩) n c) (xs.set i x) := by
  have hn := ro_len h
  have h1 := (Kd.R_seg (okp := fun _ => False) h (i : Int) (by omega) (by omega) (c := [.int .i64 (at_ xs i)]) (seg := [.int .i64 x]) (j := 0) rfl (fun j u hj => ?_) (Nat.le_refl 1) (x' := x) rfl (fun _ h => h.elim)).1
  · have e1 : ((i : Int).toNat * (Kd.int .i64).sz + 0) = i := by show (i : Int).toNat * 1 + 0 = i; omega
    rw [e1, Int.toNat_natCast] at h1
    exact h1
  · match j, hj with
    | 0, hj =>
      have := ro_cell h i hi
      simp only [List.getElem?_cons_zero, Option.some.injEq] at hj
      rw [← hj]
      simpa [Kd.int, Kd.scalar] using this
end

theorem less_call {B : Nat} {w : World} {tb : List Int} {n : Nat} (hL : LessV (w.drewN n) (.func (.func 84) #[] #[.pointer (some ⟨B, 0, none⟩)]) tb) (a b : Int) :
    Calls Try.prog 84 #[.int .i64 a, .int .i64 b, .pointer (some ⟨B, 0, none⟩)] (w.drewN n) fun e w' => e = .returned (.bool (lt tb a b)) ∧ ∃ m, w' = w.drewN m := by
  obtain ⟨hn, B', A, c, e, hB, hC⟩ := hL
  have e1 : B = B' := by
    injection e with _ _ e
    simpa using e
  subst e1
  exact (less1_any B A c tb a b _ hn hB hC).mono (by rintro e w' ⟨rfl, rfl⟩; exact ⟨rfl, n + 1, rfl⟩)

set_option maxHeartbeats 4000000 in
set_option maxRecDepth 100000 in
theorem up_gen (base : Nat) (tb : List Int) (lv v : Value) (xs : List Int) (i : Nat) (w : World) (hL : ∀ w', Fr (fun k => v.ownBlock = some k) w w' → LessV w' lv tb) (hR : Ro w base v xs) (hi : i < xs.length) (hm : xs.length ≤ 1099511627776) :
    Calls Try.prog 83 #[v, .int .i64 i, lv] w fun e w' => e = .returned (.tuple #[]) ∧ Ro w' base v (upT (rankOf tb) xs i) ∧ Fr (fun k => v.ownBlock = some k) w w' := by
  obtain ⟨g, c, rfl, hg, _, _⟩ := Kd.R_form hR (by omega)
  obtain ⟨_, B, A, c', rfl, _, _⟩ := hL w (Fr.refl _ _)
  have HL := hid hL
  have HR := hid hR
  clear hL hR hg
  go_enter Try.func83, Try.ntmps83
  go_wp2_with fail
  go_loopg [1] i (fun gk v1 wr => ∃ (j : Nat) (ys : List Int), v1 = .int .i64 j ∧ j ≤ gk ∧ j < xs.length ∧ Hid (ys.length = xs.length) ∧ Hid (Ro wr base (.slice (some ⟨g, 0, none⟩) xs.length c) ys ∧ upT (rankOf tb) ys j = upT (rankOf tb) xs i ∧ Fr (fun k => (Value.slice (some ⟨g, 0, none⟩) xs.length c).ownBlock = some k) w wr))
  case atStart => exact ⟨i, xs, rfl, Nat.le_refl _, hi, rfl, HR.out, rfl, Fr.refl _ _⟩
  case round =>
    obtain ⟨j, ys, rfl, hj, hjn, HY, HI⟩ := hrel
    by_cases h0 : j = 0
    · subst h0
      have HF : Hid (upT (rankOf tb) ys 0 = upT (rankOf tb) xs i) := HI.out.2.1
      go_wp2_with fail
      go_quiet (fail)
      go_wp2_with fail
      go_end0
      have h_ := HI.out.1.drewN nq
      rw [show ys = upT (rankOf tb) xs i from (by have := HF.out; rw [upT, if_pos rfl] at this; exact this)] at h_
      exact ⟨rfl, h_, HI.out.2.2.drewN nq⟩
    · have h1 : 0 < j := by omega
      obtain ⟨p, hp⟩ : ∃ p : Nat, p = (j - 1) / 2 := ⟨_, rfl⟩
      have HP := hid hp
      have q1 : ((j : Int) - 1).tdiv 2 = (p : Int) := by rw [Int.tdiv_eq_ediv_of_nonneg (by omega)]; omega
      have q2 : p < j := by omega
      have q3 : p < xs.length := by omega
      clear hp
      have HLY : Hid (ys.length = xs.length ∧ p < ys.length ∧ j < ys.length) := ⟨HY.out, by rw [HY.out]; exact q3, by rw [HY.out]; exact hjn⟩
      have HRY := hid HI.out.1
      have c1 : wr.cell? ⟨g, j, none⟩ = some (.int .i64 (at_ ys j)) := ro_cell HRY.out j HLY.out.2.2
      have c2 : wr.cell? ⟨g, p, none⟩ = some (.int .i64 (at_ ys p)) := ro_cell HRY.out p HLY.out.2.1
      have hz : ((j : Int) == 0) = false := beq_eq_false_iff_ne.2 (by omega)
      have hz' : (j == 0) = false := beq_eq_false_iff_ne.2 (by omega)
      have HLr : Hid (∀ n, LessV (wr.drewN n) (.func (.func 84) #[] #[.pointer (some ⟨B, 0, none⟩)]) tb) := hid (fun n => HL.out _ (HI.out.2.2.drewN n))
      obtain ⟨x, hx⟩ : ∃ x, at_ ys j = x := ⟨_, rfl⟩
      obtain ⟨y, hy⟩ : ∃ y, at_ ys p = y := ⟨_, rfl⟩
      have HXY : Hid (at_ ys j = x ∧ at_ ys p = y) := ⟨hx, hy⟩
      rw [hx] at c1
      rw [hy] at c2
      clear hx hy
      have HU : Hid (upT (rankOf tb) ys j = if rankOf tb x < rankOf tb y then upT (rankOf tb) (swp ys j p) p else ys) := by
        refine hid ?_
        rw [upT, if_neg h0, ← HP.out, HXY.out.1, HXY.out.2]
      go_wp2_with fail
      go_quiet ((exact less_call (HLr.out _) _ _))
      by_cases hlt : rankOf tb x < rankOf tb y
      · have e1 : lt tb x y = true := decide_eq_true hlt
        have HU2 := hid (HU.out.trans (if_pos hlt))
        rw [e1]
        clear hlt e1
        have c1' : (wr.drewN nq).cell? ⟨g, j, none⟩ = some (.int .i64 x) := c1
        have c2' : (wr.drewN nq).cell? ⟨g, p, none⟩ = some (.int .i64 y) := c2
        have HRn := hid (HRY.out.drewN nq)
        have HFn := hid (HI.out.2.2.drewN nq)
        clear c1 c2
        generalize wr.drewN nq = w1 at c1' c2' HRn HFn ⊢
        have f1 : w1.frozen? ⟨g, j, none⟩ = false := ro_free HRn.out j HLY.out.2.2
        have f2 : w1.frozen? ⟨g, p, none⟩ = false := ro_free HRn.out p HLY.out.2.1
        have HS : Hid (Ro ((w1.drew.setCell ⟨g, j, none⟩ (.int .i64 y)).setCell ⟨g, p, none⟩ (.int .i64 x)) base (.slice (some ⟨g, 0, none⟩) xs.length c) (swp ys j p) ∧ Fr (fun k => (Value.slice (some ⟨g, 0, none⟩) xs.length c).ownBlock = some k) w ((w1.drew.setCell ⟨g, j, none⟩ (.int .i64 y)).setCell ⟨g, p, none⟩ (.int .i64 x))) := by
          have r2 := ro_set (ro_set (Kd.R_drewN HRn.out 1) j HLY.out.2.2 y) p (by rw [List.length_set]; exact HLY.out.2.1) x
          refine hid ⟨?_, (HFn.out.drew.setCell (p := ⟨g, j, none⟩) (fun _ => rfl) _).setCell (p := ⟨g, p, none⟩) (fun _ => rfl) _⟩
          unfold swp
          rw [HXY.out.1, HXY.out.2]
          exact r2
        go_wp2_with fail
        go_region
        go_wp2_with fail
        obtain ⟨k1, rfl⟩ : ∃ k1, gk = k1 + 1 := ⟨gk - 1, by omega⟩
        go_roundg k1
        case measure => omega
        case rel => exact ⟨p, swp ys j p, rfl, by omega, q3, by rw [swp_length]; exact HY.out, HS.out.1, HU2.out.symm.trans HI.out.2.1, HS.out.2⟩
      · have e1 : lt tb x y = false := decide_eq_false hlt
        have HU2 := hid (HU.out.trans (if_neg hlt))
        rw [e1]
        clear hlt e1
        go_wp2_with fail
        go_end0
        have h_ := HI.out.1.drewN nq
        rw [show ys = upT (rankOf tb) xs i from HU2.out.symm.trans HI.out.2.1] at h_
        exact ⟨rfl, h_, HI.out.2.2.drewN nq⟩

theorem up_any (b0 base : Nat) (tb : List Int) (lv v : Value) (xs : List Int) (i : Nat) (w : World) (hL : LessS b0 w lv tb) (hb : b0 ≤ base) (hw : b0 ≤ w.heap.size) (hR : Ro w base v xs) (hi : i < xs.length) (hm : xs.length ≤ 1099511627776) :
    Calls Try.prog 83 #[v, .int .i64 i, lv] w fun e w' => e = .returned (.tuple #[]) ∧ Ro w' base v (upT (rankOf tb) xs i) ∧ Fr (fun k => v.ownBlock = some k) w w' :=
  up_gen base tb lv v xs i w (fun _ hF => (hL.to (hF.below hw (fun k hk => Nat.le_trans hb (Kd.R_base hR k hk)))).now) hR hi hm
end Go.Proofs.Ytmhnhfmkcipcpaa.Heap
