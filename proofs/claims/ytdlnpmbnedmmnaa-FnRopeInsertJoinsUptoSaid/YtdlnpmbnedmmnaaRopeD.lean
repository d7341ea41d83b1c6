/- Ropes in memory: a leaf that has grown too long; New. For every row. -/
import Derived.Test.YtdlnpmbnedmmnaaRopeC
namespace Go.Proofs.Ytdlnpmbnedmmnaa.Rope
open Go Go.RowKit Go.Deep Go.Proofs.Ytdlnpmbnedmmnaa.Hk Go.Proofs.Ytdlnpmbnedmmnaa.RopePure Go.Proofs.YtdlnpmbnedmmnaaW.PrintWords Go.Proofs.YtdlnpmbnedmmnaaW.PrintLast Go.Proofs.YtdlnpmbnedmmnaaW.PrintMore
/-- The length that a node tells. -/
theorem N.In.len2 {w : World} {t : N} (h : t.In w) : w.cell? ⟨t.blk, 2, none⟩ = some (.int .i64 (t.len : Int)) := by
  cases t with
  | leaf b A c xs => exact h.1.cell 2
  | node b l r =>
    have : (N.node b l r).len = l.len + r.len := T.len_node _ _
    rw [this]
    exact h.1.cell 2
/-- What becomes of a leaf when it is adjusted. -/
def AdjC (xs : List Int) : Prop := ∀ (b : Nat) (A : Option Addr) (c : Nat) (w : World), Blk w b (leafC A c xs.length) 60 → Seg w A c xs → (∀ o, ¬ dz A c b o) →
  Calls Try.prog 27 #[.pointer (some ⟨b, 0, none⟩)] w fun e w' => e = .returned (.tuple #[]) ∧ ∃ t : N, t.blk = b ∧ t.raw = T.new xs ∧ t.In w' ∧ (∀ k o, t.own k o → k = b ∨ dz A c k o ∨ w.heap.size ≤ k) ∧ Fz (fun k _ => k = b) w w'
set_option maxHeartbeats 4000000 in
set_option maxRecDepth 100000 in
theorem New_of (xs : List Int) (H : AdjC xs) (_hl : xs.length ≤ 1099511627776) (A : Option Addr) (c : Nat) (w : World) (hs : Seg w A c xs) :
    Calls Try.prog 19 #[.slice A xs.length c] w fun e w' => ∃ t : N, e = .returned t.ptr ∧ t.raw = T.new xs ∧ t.In w' ∧ (∀ k o, t.own k o → dz A xs.length k o ∨ w.heap.size ≤ k) ∧ Below w.heap.size w w' := by
  have HS := hid hs
  have HA := hid H
  have hle := hs.le
  clear hs H
  go_enter Try.func19, Try.ntmps19
  go_wp2_with fail
  refine (HA.out w.heap.size A xs.length _ (Blk.new w _ _) ((HS.out.cut hle (Nat.le_refl _)).below ((Below.refl _ _).alloc (Nat.le_refl _) _)) (fun o hz => ?_)).mono ?_
  · have := (HS.out.cut hle (Nat.le_refl _)).lt hz
    omega
  rintro e w1 ⟨rfl, t, h1, h2, h3, h4, h5⟩
  have HT := hid (And.intro h2 (And.intro h3 (And.intro h4 h5)))
  have HB := hid h1
  clear h1 h2 h3 h4 h5
  go_wp2_with fail
  go_ret
  have hw : (w.alloc (.cells (leafC A xs.length xs.length) 60)).heap.size = w.heap.size + 1 := alloc_size _ _
  refine ⟨t, ?_, HT.out.1, HT.out.2.1, fun k o ho => ?_, ?_⟩
  · show Ending.returned (.pointer (some ⟨w.heap.size, 0, none⟩)) = _
    unfold N.ptr
    rw [HB.out]
  · rcases HT.out.2.2.1 k o ho with e | e | e
    · exact .inr (by omega)
    · exact .inl e
    · exact .inr (by omega)
  · have hf := HT.out.2.2.2
    have hb : Below w.heap.size w (w.alloc (.cells (leafC A xs.length xs.length) 60)) := (Below.refl _ _).alloc (Nat.le_refl _) _
    exact ⟨hf.os.trans hb.os, hf.tape.trans hb.tape, hf.output.trans hb.output, Nat.le_trans hb.size hf.size, fun k hk => (hf.block k (by omega) (fun o e => by omega)).trans (hb.block k hk)⟩
/-- The row's first part, and the rest, may be cut off it. -/
theorem slice_lo {xs : List Int} {n : Nat} (h : n ≤ xs.length) : (xs.take n).length = n := by rw [List.length_take]; omega
set_option maxHeartbeats 8000000 in
set_option maxRecDepth 100000 in
theorem adj_leaf : ∀ (n : Nat) (xs : List Int), xs.length ≤ n → xs.length ≤ 1099511627776 → AdjC xs := by
  intro n
  induction n with
  | zero =>
    intro xs hn hl b A c w hb hs hd
    have c0 : w.cell? ⟨b, 0, none⟩ = some (.int .u8 0) := hb.cell 0
    have c2 : w.cell? ⟨b, 2, none⟩ = some (.int .i64 (xs.length : Int)) := hb.cell 2
    have HX := hid (And.intro hb (And.intro hs hd))
    have hx : xs = [] := List.eq_nil_of_length_eq_zero (by omega)
    clear hb hs hd
    have c2' : w.cell? ⟨b, 2, none⟩ = some (.int .i64 0) := by rw [c2, hx]; rfl
    clear c2
    go_enter Try.func27, Try.ntmps27
    go_wp2_with fail
    (try simp only [Exit.inBlock, Exit.then]); refine bodyPost_end (results_none rfl _ _ _) rfl ?_
    exact ⟨rfl, .leaf b A c xs, rfl, by rw [T.new_short (by omega)]; rfl, HX.out, fun k o ho => ho.elim .inl (fun q => .inr (.inl q)), Fz.refl _ _⟩
  | succ n ih =>
    intro xs hn hl b A c w hb hs hd
    have c0 : w.cell? ⟨b, 0, none⟩ = some (.int .u8 0) := hb.cell 0
    have c1 : w.cell? ⟨b, 1, none⟩ = some (.slice A xs.length c) := hb.cell 1
    have c2 : w.cell? ⟨b, 2, none⟩ = some (.int .i64 (xs.length : Int)) := hb.cell 2
    have HX := hid (And.intro hb (And.intro hs hd))
    clear hb hs hd
    by_cases hx : 16384 < xs.length
    · have hle := HX.out.2.1.le
      have HN := hid ih
      clear ih
      go_enter Try.func27, Try.ntmps27
      obtain ⟨ba, qa, hA, hcl⟩ := HX.out.2.1.at_ (by omega)
      clear hcl
      subst hA
      go_wp2_with fail
      obtain ⟨m, hm⟩ : ∃ m, m = xs.length / 2 := ⟨_, rfl⟩
      have hmi : (xs.length : Int) / 2 = (m : Int) := by omega
      have hm0 : 0 < m := by omega
      have hmx : m ≤ xs.length := by omega
      have hmc : m ≤ c := by omega
      have HM := hid hm
      rw [← HM.out]
      have hlt1 : (xs.take m).length = m := slice_lo hmx
      refine (show Calls Try.prog 19 #[.slice (some ⟨ba, qa, none⟩) m c] w _ from hlt1 ▸ (New_of (xs.take m) (HN.out (xs.take m) (by omega) (by omega)) (by omega) (some ⟨ba, qa, none⟩) c w (HX.out.2.1.take m))).mono ?_
      rintro e w1 ⟨tl, rfl, l1, l2, l3, l4⟩
      have HL := hid (And.intro l1 (And.intro l2 (And.intro l3 l4)))
      have B1 : Blk w1 b (leafC (some ⟨ba, qa, none⟩) c xs.length) 60 := HX.out.1.below l4 HX.out.1.lt
      have c1' : w1.cell? ⟨b, 1, none⟩ = some (.slice (some ⟨ba, qa, none⟩) xs.length c) := B1.cell 1
      have k3 : w1.cell? ⟨b, 3, none⟩ = some (.pointer none) := B1.cell 3
      have f3 : w1.frozen? ⟨b, 3, none⟩ = false := B1.free 3
      have HB1 := hid B1
      rw [show tl.ptr = .pointer (some ⟨tl.blk, 0, none⟩) from rfl]
      have HMM := hid (And.intro hmi (And.intro hm0 (And.intro hmx hmc)))
      clear l1 l2 l3 l4 B1 c0 c1 c2 hlt1 hmi hm0 hmx hmc hm
      go_wp2_with fail
      rw [← HM.out]
      have HL2 := hid (show tl.In (w1.setCell ⟨b, 3, none⟩ (.pointer (some ⟨tl.blk, 0, none⟩))) from HL.out.2.1.fz Fz.one (fun k o ho e => by
        rcases HL.out.2.2.1 k o ho with q | q
        · obtain ⟨q1, e1, h2, h3⟩ := q
          exact HX.out.2.2 o ⟨q1, by rw [← e.1]; exact e1, h2, by have := HMM.out.2.2.2; omega⟩
        · have := HX.out.1.lt; omega))
      have HB2 := hid (HB1.out.set 3 (.pointer (some ⟨tl.blk, 0, none⟩)))
      have HS2 := hid (show Seg (w1.setCell ⟨b, 3, none⟩ (.pointer (some ⟨tl.blk, 0, none⟩))) (some ⟨ba, qa, none⟩) c xs from (HX.out.2.1.below HL.out.2.2.2).fz Fz.one (fun k o ho e => HX.out.2.2 o (by rw [← e.1]; exact ho)))
      have HZ2 := hid (show Fz (fun k _ => k = b) w (w1.setCell ⟨b, 3, none⟩ (.pointer (some ⟨tl.blk, 0, none⟩))) from (Fz.new HL.out.2.2.2).trans Fz.one (fun n o _ e => e.1))
      have hsz : (w1.setCell ⟨b, 3, none⟩ (.pointer (some ⟨tl.blk, 0, none⟩))).heap.size = w1.heap.size := by simp [World.setCell]
      have HSZ := hid hsz
      clear hsz
      generalize w1.setCell ⟨b, 3, none⟩ (.pointer (some ⟨tl.blk, 0, none⟩)) = W2 at HL2 HB2 HS2 HZ2 HSZ ⊢
      have hlt2 : (xs.drop m).length = xs.length - m := List.length_drop ..
      refine (show Calls Try.prog 19 #[.slice (some ⟨ba, qa + m, none⟩) (xs.length - m) (c - m)] W2 _ from hlt2 ▸ (New_of (xs.drop m) (HN.out (xs.drop m) (by have := HMM.out; omega) (by omega)) (by omega) (some ⟨ba, qa + m, none⟩) (c - m) W2 (HS2.out.drop rfl HMM.out.2.2.1))).mono ?_
      rintro e w3 ⟨tr, rfl, r1, r2, r3, r4⟩
      have HR := hid (And.intro r1 (And.intro r2 (And.intro r3 r4)))
      have B3 : Blk w3 b #[.int .u8 0, .slice (some ⟨ba, qa, none⟩) xs.length c, .int .i64 (xs.length : Int), .pointer (some ⟨tl.blk, 0, none⟩), .pointer none] 60 := Blk.below HB2.out r4 HB2.out.lt
      clear c1' k3 f3
      have k0 : w3.cell? ⟨b, 0, none⟩ = some (.int .u8 0) := B3.cell 0
      have k1 : w3.cell? ⟨b, 1, none⟩ = some (.slice (some ⟨ba, qa, none⟩) xs.length c) := B3.cell 1
      have k2 : w3.cell? ⟨b, 2, none⟩ = some (.int .i64 (xs.length : Int)) := B3.cell 2
      have k4 : w3.cell? ⟨b, 4, none⟩ = some (.pointer none) := B3.cell 4
      have k3 : w3.cell? ⟨b, 3, none⟩ = some (.pointer (some ⟨tl.blk, 0, none⟩)) := B3.cell 3
      have f0 : w3.frozen? ⟨b, 0, none⟩ = false := B3.free 0
      have f1 : w3.frozen? ⟨b, 1, none⟩ = false := B3.free 1
      have f2 : w3.frozen? ⟨b, 2, none⟩ = false := B3.free 2
      have f4 : w3.frozen? ⟨b, 4, none⟩ = false := B3.free 4
      have HB3 := hid B3
      rw [show tr.ptr = .pointer (some ⟨tr.blk, 0, none⟩) from rfl]
      have nl : tl.blk ≠ b := fun e => by
        rcases HL.out.2.2.1 tl.blk 0 (tl.own_blk 0) with q | q
        · obtain ⟨q1, e1, h2, h3⟩ := q
          exact HX.out.2.2 0 ⟨q1, by rw [← e]; exact e1, h2, by have := HMM.out.2.2.2; omega⟩
        · have := HX.out.1.lt; omega
      have nr : tr.blk ≠ b := fun e => by
        rcases HR.out.2.2.1 tr.blk 0 (tr.own_blk 0) with q | q
        · obtain ⟨q1, e1, h2, h3⟩ := q
          injection e1 with e1; injection e1 with e1 e2
          exact HX.out.2.2 (qa + m) ⟨qa, by rw [← e, ← e1], by omega, by have := HMM.out.2.2.2; have := HMM.out.2.2.1; have := HMM.out.2.1; omega⟩
        · have := HX.out.1.lt; have := HSZ.out; have := HL.out.2.2.2.size; omega
      have cl : w3.cell? ⟨tl.blk, 2, none⟩ = some (.int .i64 (tl.len : Int)) := (HL2.out.below r4).len2
      have cr : w3.cell? ⟨tr.blk, 2, none⟩ = some (.int .i64 (tr.len : Int)) := r2.len2
      have el : (tl.len : Int) + (tr.len : Int) = (xs.length : Int) := by
        have h1 : tl.len = (xs.take m).length := by unfold N.len; rw [HL.out.1, T.len_new]
        have h2 : tr.len = (xs.drop m).length := by unfold N.len; rw [r1, T.len_new]
        rw [List.length_take] at h1
        rw [List.length_drop] at h2
        have := HMM.out.2.2.1
        omega
      clear r1 r2 r3 r4 B3 hlt2
      have HE := hid (And.intro el (And.intro nl nr))
      have HCC := hid (And.intro cl cr)
      clear cl cr el nl nr
      go_wp2_with fail
      have HB4 := hid (((HB3.out.set 4 (.pointer (some ⟨tr.blk, 0, none⟩))).set 1 (.slice none 0 0)).set 0 (.int .u8 1))
      have HF4 := hid (show Fz (fun k _ => k = b) w3 (((w3.setCell ⟨b, 4, none⟩ (.pointer (some ⟨tr.blk, 0, none⟩))).setCell ⟨b, 1, none⟩ (.slice none 0 0)).setCell ⟨b, 0, none⟩ (.int .u8 1)) from
        ((Fz.one.mono (fun _ _ _ e => e.1)).trans (Fz.one.mono (fun _ _ _ e => e.1)) (fun _ _ _ e => e)).trans (Fz.one.mono (fun _ _ _ e => e.1)) (fun _ _ _ e => e))
      generalize ((w3.setCell ⟨b, 4, none⟩ (.pointer (some ⟨tr.blk, 0, none⟩))).setCell ⟨b, 1, none⟩ (.slice none 0 0)).setCell ⟨b, 0, none⟩ (.int .u8 1) = W4 at HB4 HF4 ⊢
      have cl : W4.cell? ⟨tl.blk, 2, none⟩ = some (.int .i64 (tl.len : Int)) := (HF4.out.cell _ _ (World.block_lt_of_cell? _ _ HCC.out.1) HE.out.2.1).trans HCC.out.1
      have cr : W4.cell? ⟨tr.blk, 2, none⟩ = some (.int .i64 (tr.len : Int)) := (HF4.out.cell _ _ (World.block_lt_of_cell? _ _ HCC.out.2) HE.out.2.2).trans HCC.out.2
      have k2 : W4.cell? ⟨b, 2, none⟩ = some (.int .i64 (xs.length : Int)) := HB4.out.cell 2
      have k3 : W4.cell? ⟨b, 3, none⟩ = some (.pointer (some ⟨tl.blk, 0, none⟩)) := HB4.out.cell 3
      have k4 : W4.cell? ⟨b, 4, none⟩ = some (.pointer (some ⟨tr.blk, 0, none⟩)) := HB4.out.cell 4
      have f2 : W4.frozen? ⟨b, 2, none⟩ = false := HB4.out.free 2
      refine still_tail_drew 16 (by kernel_rfl) (by kernel_rfl) ?_
      simp only [List.take_succ_cons, List.take_zero, List.drop_succ_cons, List.drop_zero]
      repeat still_step
      refine wpStill_nil ?_
      change wpList _ _ _ _ _ W4.drew
      go_wp2_with fail
      (try simp only [Exit.inBlock, Exit.then]); refine bodyPost_end (results_none rfl _ _ _) rfl ?_
      have hs : wrap64 ((tl.len : Int) + (tr.len : Int)) = ((tl.len + tr.len : Nat) : Int) := by rw [IntWalk.wrap64_in _ (by have := HE.out.1; omega)]; omega
      rw [hs]
      have HF5 := hid (show Fz (fun k _ => k = b) w3 (W4.setCell ⟨b, 2, none⟩ (.int .i64 ((tl.len + tr.len : Nat) : Int))).drew from (HF4.out.trans Fz.one (fun n o _ e => e.1)).drew)
      have ol : ∀ k o, tl.own k o → k ≠ b := fun k o ho e => by
        rcases HL.out.2.2.1 k o ho with q | q
        · obtain ⟨q1, e1, h2, h3⟩ := q
          exact HX.out.2.2 o ⟨q1, by rw [← e]; exact e1, h2, by have := HMM.out.2.2.2; omega⟩
        · have := HX.out.1.lt; omega
      have or_ : ∀ k o, tr.own k o → k ≠ b := fun k o ho e => by
        rcases HR.out.2.2.1 k o ho with q | q
        · obtain ⟨q1, e1, h2, h3⟩ := q
          injection e1 with e1; injection e1 with e1 e2
          exact HX.out.2.2 o ⟨qa, by rw [← e, ← e1], by omega, by have := HMM.out.2.2.2; have := HMM.out.2.2.1; omega⟩
        · have := HX.out.1.lt; have := HSZ.out; have := HL.out.2.2.2.size; omega
      refine ⟨rfl, .node b tl tr, rfl, ?_, ⟨HB4.out.set 2 _, (HL2.out.below HR.out.2.2.2).fz HF5.out (fun k o ho e => ol k o ho e), HR.out.2.1.fz HF5.out (fun k o ho e => or_ k o ho e), fun o ho => ol b o ho rfl, fun o ho => or_ b o ho rfl, fun k o h1 h2 => ?_⟩, fun k o ho => ?_, ?_⟩
      · show T.node tl.raw tr.raw = _
        rw [T.new_long hx, HL.out.1, HR.out.1, HM.out]
      · rcases HL.out.2.2.1 k o h1 with q | q
        · obtain ⟨q1, e1, g2, g3⟩ := q
          injection e1 with e1; injection e1 with e1 e2
          rcases HR.out.2.2.1 k o h2 with z | z
          · obtain ⟨q2, e3, g4, g5⟩ := z
            injection e3 with e3; injection e3 with e3 e4
            omega
          · have hlt : k < w.heap.size := HX.out.2.1.lt (k := k) (o := o) ⟨q1, by rw [← e1, ← e2], g2, by have := HMM.out.2.2.2; omega⟩
            have := HSZ.out; have := HL.out.2.2.2.size; omega
        · rcases HR.out.2.2.1 k o h2 with z | z
          · obtain ⟨q2, e3, g4, g5⟩ := z
            injection e3 with e3; injection e3 with e3 e4
            have hlt : k < w.heap.size := HX.out.2.1.lt (k := k) (o := o) ⟨qa, by rw [e3], by omega, by have := HMM.out.2.2.2; have := HMM.out.2.2.1; omega⟩
            omega
          · have := (HL.out.2.1.lt k o h1); have := HSZ.out; omega
      · rcases ho with e | ho | ho
        · exact .inl e
        · rcases HL.out.2.2.1 k o ho with q | q
          · obtain ⟨q1, e1, g2, g3⟩ := q
            exact .inr (.inl ⟨q1, e1, g2, by have := HMM.out.2.2.2; omega⟩)
          · exact .inr (.inr q)
        · rcases HR.out.2.2.1 k o ho with q | q
          · obtain ⟨q1, e1, g2, g3⟩ := q
            injection e1 with e1; injection e1 with e1 e2
            exact .inr (.inl ⟨qa, by rw [e1], by omega, by have := HMM.out.2.2.2; have := HMM.out.2.2.1; omega⟩)
          · exact .inr (.inr (by have := HSZ.out; have := HL.out.2.2.2.size; omega))
      · exact (HZ2.out.then_new HR.out.2.2.2).trans HF5.out (fun _ _ _ e => e)
    · go_enter Try.func27, Try.ntmps27
      go_wp2_with fail
      (try simp only [Exit.inBlock, Exit.then]); refine bodyPost_end (results_none rfl _ _ _) rfl ?_
      exact ⟨rfl, .leaf b A c xs, rfl, by rw [T.new_short hx]; rfl, HX.out, fun k o ho => ho.elim .inl (fun q => .inr (.inl q)), Fz.refl _ _⟩
end Go.Proofs.Ytdlnpmbnedmmnaa.Rope
