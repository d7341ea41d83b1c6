/- Ropes in memory: a node that has grown too short; join. For every two ropes. -/
import Derived.Test.YtdlnpmbnedmmnaaRopeD
namespace Go.Proofs.Ytdlnpmbnedmmnaa.Rope
open Go Go.RowKit Go.Deep Go.Proofs.Ytdlnpmbnedmmnaa.Hk Go.Proofs.Ytdlnpmbnedmmnaa.RopePure Go.Proofs.YtdlnpmbnedmmnaaW.PrintWords Go.Proofs.YtdlnpmbnedmmnaaW.PrintLast Go.Proofs.YtdlnpmbnedmmnaaW.PrintMore
theorem New_any (xs : List Int) (hl : xs.length ≤ 1099511627776) (A : Option Addr) (c : Nat) (w : World) (hs : Seg w A c xs) :
    Calls Try.prog 19 #[.slice A xs.length c] w fun e w' => ∃ t : N, e = .returned t.ptr ∧ t.raw = T.new xs ∧ t.In w' ∧ (∀ k o, t.own k o → dz A xs.length k o ∨ w.heap.size ≤ k) ∧ Below w.heap.size w w' :=
  New_of xs (adj_leaf _ xs (Nat.le_refl _) hl) hl A c w hs
/-- What adjust makes of a node, or of a leaf. -/
def Adj (b : Nat) (own : Zone) (raw : T) (w : World) (e : Ending) (w' : World) : Prop :=
  e = .returned (.tuple #[]) ∧ ∃ t : N, t.blk = b ∧ t.raw = raw ∧ t.In w' ∧ (∀ k o, t.own k o → own k o ∨ w.heap.size ≤ k) ∧ Fz (fun k _ => k = b) w w'
set_option maxHeartbeats 8000000 in
set_option maxRecDepth 100000 in
theorem adj_node (b : Nat) (l r : N) (w : World) (hin : (N.node b l r).In w) (hl : l.len + r.len ≤ 1099511627776) :
    Calls Try.prog 27 #[.pointer (some ⟨b, 0, none⟩)] w (Adj b (N.node b l r).own (T.adj l.raw r.raw) w) := by
  have HI := hid hin
  have HL := hid hl
  have hf : l.raw.flat.length + r.raw.flat.length = l.len + r.len := rfl
  have HF := hid hf
  have c0 : w.cell? ⟨b, 0, none⟩ = some (.int .u8 1) := hin.1.cell 0
  have c2 : w.cell? ⟨b, 2, none⟩ = some (.int .i64 ((l.len + r.len : Nat) : Int)) := hin.1.cell 2
  clear hin hf
  obtain ⟨n, hn⟩ : ∃ n, n = l.len + r.len := ⟨_, rfl⟩
  rw [← hn] at c2 hl
  have HN := hid hn
  clear hn
  by_cases hx : n < 8192
  · go_enter Try.func27, Try.ntmps27
    go_wp2_with fail
    refine (Value_any (.node b l r) w HI.out (by show (l.raw.flat ++ r.raw.flat).length ≤ _; rw [List.length_append, HF.out]; exact HL.out)).mono ?_
    rintro e w1 ⟨v, rfl, hm⟩
    obtain ⟨A, c, rfl, hs, hz, hnn⟩ := Seg.owned hm.1
    have HS := hid (And.intro hs hz)
    have HB := hid hm.2
    have HLE : Hid ((l.raw.flat ++ r.raw.flat).length = n) := hid (by rw [List.length_append, HF.out, HN.out])
    rw [HLE.out] at hm ⊢
    have B1 := HI.out.1.below hm.2 HI.out.1.lt
    rw [← HN.out] at B1
    have k0 : w1.cell? ⟨b, 0, none⟩ = some (.int .u8 1) := B1.cell 0
    have k1 : w1.cell? ⟨b, 1, none⟩ = some (.slice none 0 0) := B1.cell 1
    have k2 : w1.cell? ⟨b, 2, none⟩ = some (.int .i64 (n : Int)) := B1.cell 2
    have k3 : w1.cell? ⟨b, 3, none⟩ = some l.ptr := B1.cell 3
    have k4 : w1.cell? ⟨b, 4, none⟩ = some r.ptr := B1.cell 4
    have f0 : w1.frozen? ⟨b, 0, none⟩ = false := B1.free 0
    have f1 : w1.frozen? ⟨b, 1, none⟩ = false := B1.free 1
    have f2 : w1.frozen? ⟨b, 2, none⟩ = false := B1.free 2
    have f3 : w1.frozen? ⟨b, 3, none⟩ = false := B1.free 3
    have f4 : w1.frozen? ⟨b, 4, none⟩ = false := B1.free 4
    have HB1 := hid B1
    clear hm hs hz hnn B1 c0 c2
    go_wp2_with fail
    (try simp only [Exit.inBlock, Exit.then]); refine bodyPost_end (results_none rfl _ _ _) rfl ?_
    have hnb : ∀ k o, dz A c k o → k ≠ b := fun k o ho e => by
      have := (HS.out.2 k o ho).1
      have := HI.out.1.lt
      omega
    have HFF := hid (show Fz (fun k _ => k = b) w1 (((((w1.setCell ⟨b, 1, none⟩ (.slice A n c)).setCell ⟨b, 3, none⟩ (.pointer none)).setCell ⟨b, 4, none⟩ (.pointer none)).setCell ⟨b, 0, none⟩ (.int .u8 0)).setCell ⟨b, 2, none⟩ (.int .i64 (n : Int))) from
      ((((Fz.one.mono (fun _ _ _ e => e.1)).trans Fz.one (fun _ _ _ e => e.1)).trans Fz.one (fun _ _ _ e => e.1)).trans Fz.one (fun _ _ _ e => e.1)).trans Fz.one (fun _ _ _ e => e.1))
    refine ⟨rfl, .leaf b A c (l.raw.flat ++ r.raw.flat), rfl, ?_, ⟨?_, HS.out.1.fz HFF.out (fun k o ho e => hnb k o ho e), fun o ho => hnb b o ho rfl⟩, fun k o ho => ?_, (Fz.new HB.out).trans HFF.out (fun _ _ _ e => e)⟩
    · have h : l.raw.len + r.raw.len < 8192 := by have := HN.out; exact (by rw [this] at hx; exact hx)
      unfold T.adj
      rw [if_pos h]
      rfl
    · rw [HLE.out]
      exact ((((HB1.out.set 1 (.slice A n c)).set 3 (.pointer none)).set 4 (.pointer none)).set 0 (.int .u8 0)).set 2 (.int .i64 (n : Int))
    · rcases ho with e | ho
      · exact .inl (.inl e)
      · exact .inr (HS.out.2 k o ho).1
  · go_enter Try.func27, Try.ntmps27
    go_wp2_with fail
    (try simp only [Exit.inBlock, Exit.then]); refine bodyPost_end (results_none rfl _ _ _) rfl ?_
    refine ⟨rfl, .node b l r, rfl, ?_, HI.out, fun k o ho => .inl ho, Fz.refl _ _⟩
    have h : ¬ l.raw.len + r.raw.len < 8192 := by have := HN.out; exact fun e => hx (by rw [this]; exact e)
    unfold T.adj
    rw [if_neg h]
    rfl

set_option maxHeartbeats 8000000 in
set_option maxRecDepth 100000 in
theorem join_any (l r : N) (w : World) (hl : l.In w) (hr : r.In w) (hd : ∀ k o, l.own k o → ¬ r.own k o) (hb : l.len + r.len ≤ 1099511627776) :
    Calls Try.prog 28 #[l.ptr, r.ptr] w fun e w' => ∃ t : N, e = .returned t.ptr ∧ t.raw = T.adj l.raw r.raw ∧ t.In w' ∧ (∀ k o, t.own k o → l.own k o ∨ r.own k o ∨ w.heap.size ≤ k) ∧ Below w.heap.size w w' := by
  have HI := hid (And.intro hl (And.intro hr hd))
  have HL := hid hb
  have cl : w.cell? ⟨l.blk, 2, none⟩ = some (.int .i64 (l.len : Int)) := hl.len2
  have cr : w.cell? ⟨r.blk, 2, none⟩ = some (.int .i64 (r.len : Int)) := hr.len2
  have hs : wrap64 ((l.len : Int) + (r.len : Int)) = ((l.len + r.len : Nat) : Int) := by rw [IntWalk.wrap64_in _ (by omega)]; omega
  have HW := hid hs
  rw [show l.ptr = .pointer (some ⟨l.blk, 0, none⟩) from rfl, show r.ptr = .pointer (some ⟨r.blk, 0, none⟩) from rfl]
  clear hl hr hd hs hb
  go_enter Try.func28, Try.ntmps28
  go_wp2_with fail
  refine still_tail_drew 12 (by kernel_rfl) (by kernel_rfl) ?_
  simp only [List.take_succ_cons, List.take_zero, List.drop_succ_cons, List.drop_zero]
  repeat still_step
  refine wpStill_nil ?_
  change wpList _ _ _ _ _ w.drew
  go_wp2_with fail
  rw [HW.out]
  have hsz : w.drew.heap.size = w.heap.size := rfl
  have hB0 : Below w.heap.size w (w.drew.alloc (.cells (nodeC (l.len + r.len) l.ptr r.ptr) 60)) := (Below.refl w.heap.size w).drew.alloc (Nat.le_refl _) _
  have hN : (N.node w.heap.size l r).In (w.drew.alloc (.cells (nodeC (l.len + r.len) l.ptr r.ptr) 60)) :=
    ⟨Blk.new w.drew _ _, HI.out.1.below hB0, HI.out.2.1.below hB0, fun o => HI.out.1.far (Nat.le_refl _), fun o => HI.out.2.1.far (Nat.le_refl _), HI.out.2.2⟩
  refine (adj_node w.heap.size l r _ hN HL.out).mono ?_
  rintro e w1 ⟨rfl, t, h1, h2, h3, h4, h5⟩
  have HT := hid (And.intro h1 (And.intro h2 (And.intro h3 (And.intro h4 h5))))
  clear h1 h2 h3 h4 h5 hN
  go_wp2_with fail
  go_ret
  have hw : (w.drew.alloc (.cells (nodeC (l.len + r.len) l.ptr r.ptr) 60)).heap.size = w.heap.size + 1 := alloc_size w.drew _
  refine ⟨t, ?_, HT.out.2.1, HT.out.2.2.1, fun k o ho => ?_, ?_⟩
  · show Ending.returned (.pointer (some ⟨w.heap.size, 0, none⟩)) = _
    unfold N.ptr
    rw [HT.out.1]
  · rcases HT.out.2.2.2.1 k o ho with e | e
    · rcases e with e | e | e
      · exact .inr (.inr (by omega))
      · exact .inl e
      · exact .inr (.inl e)
    · exact .inr (.inr (by omega))
  · have hf := HT.out.2.2.2.2
    exact ⟨hf.os.trans hB0.os, hf.tape.trans hB0.tape, hf.output.trans hB0.output, Nat.le_trans hB0.size hf.size, fun k hk => (hf.block k (by omega) (fun o e => by omega)).trans (hB0.block k hk)⟩
end Go.Proofs.Ytdlnpmbnedmmnaa.Rope
