/- Ropes in memory: Remove. For every rope and all its places. -/
import Derived.Test.YtdlnpmbnedmmnaaRopeH
namespace Go.Proofs.Ytdlnpmbnedmmnaa.Rope
open Go Go.RowKit Go.Deep Go.Proofs.Ytdlnpmbnedmmnaa.Hk Go.Proofs.Ytdlnpmbnedmmnaa.RopePure Go.Proofs.YtdlnpmbnedmmnaaW.PrintWords Go.Proofs.YtdlnpmbnedmmnaaW.PrintLast Go.Proofs.YtdlnpmbnedmmnaaW.PrintMore
/-- A node's two parts, each turned or not. -/
structure Two (l r : N) (w : World) (l' r' : N) (W : World) : Prop where
  hl : l'.In W
  hr : r'.In W
  bl : l'.blk = l.blk
  br : r'.blk = r.blk
  ol : ∀ k o, l'.own k o → l.own k o ∨ w.heap.size ≤ k
  or_ : ∀ k o, r'.own k o → r.own k o ∨ w.heap.size ≤ k
  dis : ∀ k o, l'.own k o → ¬ r'.own k o
  fz : Fz (fun k o => l.own k o ∨ r.own k o) w W
section
variable {l r l1 r1 : N} {w W W' : World} {raw : T} {e : Ending} {bk : Nat}
theorem Two.refl (h : (N.node bk l r).In w) : Two l r w l r w := ⟨h.2.1, h.2.2.1, rfl, rfl, fun _ _ h => .inl h, fun _ _ h => .inl h, h.2.2.2.2.2, Fz.refl _ _⟩
theorem Two.left (h : Two l r w l1 r1 W) (k : Turn l1 raw W e W') : ∃ l2 : N, l2.raw = raw ∧ Two l r w l2 r1 W' := by
  obtain ⟨_, t, h1, h2, h3, h4, h5⟩ := k
  refine ⟨t, h2, h3, h.hr.fz h5 (fun k o a b => h.dis k o b a), h1.trans h.bl, h.br, fun k o ho => ?_, h.or_, fun k o a b => ?_, h.fz.trans h5 (fun n o hn a => ?_)⟩
  · rcases h4 k o ho with q | q
    · exact h.ol k o q
    · exact .inr (Nat.le_trans h.fz.size q)
  · rcases h4 k o a with q | q
    · exact h.dis k o q b
    · exact h.hr.far q b
  · rcases h.ol n o a with q | q
    · exact .inl q
    · omega
theorem Two.right (h : Two l r w l1 r1 W) (k : Turn r1 raw W e W') : ∃ r2 : N, r2.raw = raw ∧ Two l r w l1 r2 W' := by
  obtain ⟨_, t, h1, h2, h3, h4, h5⟩ := k
  refine ⟨t, h2, h.hl.fz h5 (fun k o a b => h.dis k o a b), h3, h.bl, h1.trans h.br, h.ol, fun k o ho => ?_, fun k o a b => ?_, h.fz.trans h5 (fun n o hn a => ?_)⟩
  · rcases h4 k o ho with q | q
    · exact h.or_ k o q
    · exact .inr (Nat.le_trans h.fz.size q)
  · rcases h4 k o b with q | q
    · exact h.dis k o a q
    · exact h.hl.far q a
  · rcases h.or_ n o a with q | q
    · exact .inr q
    · omega
theorem Two.blk (h : Two l r w l1 r1 W) (hin : (N.node bk l r).In w) : Blk W bk (nodeC (l.len + r.len) l.ptr r.ptr) 60 := blk_fz hin.1 h.fz (fun o e => e.elim (hin.2.2.2.1 o) (hin.2.2.2.2.1 o))
theorem Two.drew (h : Two l r w l1 r1 W) : Two l r w l1 r1 W.drew := ⟨h.hl.below (Below.refl _ _).drew, h.hr.below (Below.refl _ _).drew, h.bl, h.br, h.ol, h.or_, h.dis, h.fz.drew⟩
/-- The node's number told anew, and the node adjusted. -/
theorem Two.adj (h : Two l r w l1 r1 W) (hin : (N.node bk l r).In w) (hl : l1.len + r1.len ≤ 1099511627776) :
    Calls Try.prog 27 #[.pointer (some ⟨bk, 0, none⟩)] (W.setCell ⟨bk, 2, none⟩ (.int .i64 ((l1.len + r1.len : Nat) : Int))).drew (Turn (.node bk l r) (T.adj l1.raw r1.raw) w) := by
  have F : Fz (fun k _ => k = bk) W (W.setCell ⟨bk, 2, none⟩ (.int .i64 ((l1.len + r1.len : Nat) : Int))).drew := (Fz.one.mono (fun _ _ _ e => e.1)).drew
  have hbk : bk < w.heap.size := hin.1.lt
  have nl : ∀ k o, l1.own k o → k ≠ bk := fun k o ho e => by
    rcases h.ol k o ho with q | q
    · rw [e] at q; exact hin.2.2.2.1 o q
    · omega
  have nr : ∀ k o, r1.own k o → k ≠ bk := fun k o ho e => by
    rcases h.or_ k o ho with q | q
    · rw [e] at q; exact hin.2.2.2.2.1 o q
    · omega
  have hN : (N.node bk l1 r1).In (W.setCell ⟨bk, 2, none⟩ (.int .i64 ((l1.len + r1.len : Nat) : Int))).drew := by
    refine ⟨?_, h.hl.fz F nl, h.hr.fz F nr, fun o ho => nl bk o ho rfl, fun o ho => nr bk o ho rfl, h.dis⟩
    have := (h.blk hin).set 2 (.int .i64 ((l1.len + r1.len : Nat) : Int))
    unfold N.ptr at this ⊢
    rw [h.bl, h.br]
    exact this
  refine (adj_node bk l1 r1 _ hN hl).mono ?_
  rintro e w' ⟨rfl, t, h1, h2, h3, h4, h5⟩
  refine ⟨rfl, t, h1, h2, h3, fun k o ho => ?_, ((h.fz.mono (fun n o _ a => .inr a)).trans F (fun n o _ a => .inl a)).trans h5 (fun n o _ a => .inl a)⟩
  rcases h4 k o ho with q | q
  · rcases q with q | q | q
    · exact .inl (.inl q)
    · exact (h.ol k o q).imp (fun z => .inr (.inl z)) id
    · exact (h.or_ k o q).imp (fun z => .inr (.inr z)) id
  · exact .inr (Nat.le_trans (Nat.le_trans h.fz.size F.size) q)
end
theorem rem_len (t : T) (a b : Nat) (hab : a ≤ b) (hb : b ≤ t.len) : (T.rem t a b).len ≤ t.len := by
  show (T.rem t a b).flat.length ≤ t.flat.length
  rw [T.flat_rem t a b hab hb, List.length_append, List.length_take, List.length_drop]
  have : t.flat.length = t.len := rfl
  omega
set_option maxHeartbeats 8000000 in
set_option maxRecDepth 100000 in
theorem Remove_any : ∀ (t : N) (a b : Nat) (w : World), t.In w → a ≤ b → b ≤ t.len → t.len ≤ 1099511627776 → Calls Try.prog 31 #[t.ptr, .int .i64 (a : Int), .int .i64 (b : Int)] w (Turn t (T.rem t.raw a b) w)
  | .leaf bk A c xs, a, b, w, hin, hab, hb, hl => rem_any_leaf bk A c xs a b w hin hab hb hl
  | .node bk l r, a, b, w, hin, hab, hb, hl => by
    have HSL := hid (Remove_any l)
    have HSR := hid (Remove_any r)
    have HI := hid hin
    have hlen : (N.node bk l r).len = l.len + r.len := T.len_node _ _
    rw [hlen] at hb hl
    clear hlen
    have c0 : w.cell? ⟨bk, 0, none⟩ = some (.int .u8 1) := hin.1.cell 0
    have c3 : w.cell? ⟨bk, 3, none⟩ = some l.ptr := hin.1.cell 3
    have c4 : w.cell? ⟨bk, 4, none⟩ = some r.ptr := hin.1.cell 4
    have cl : w.cell? ⟨l.blk, 2, none⟩ = some (.int .i64 (l.len : Int)) := hin.2.1.len2
    have cr : w.cell? ⟨r.blk, 2, none⟩ = some (.int .i64 (r.len : Int)) := hin.2.2.1.len2
    clear hin
    rw [show (N.node bk l r).ptr = .pointer (some ⟨bk, 0, none⟩) from rfl]
    rw [show l.ptr = .pointer (some ⟨l.blk, 0, none⟩) from rfl] at c3
    rw [show r.ptr = .pointer (some ⟨r.blk, 0, none⟩) from rfl] at c4
    by_cases hp : min a l.len < l.len
    · by_cases hq : 0 < min (b - l.len) r.len
      · have E1 : Hid (min (a : Int) (l.len : Int) = ((min a l.len : Nat) : Int)) := hid (by omega)
        have E2 : Hid (min (b : Int) (l.len : Int) = ((min b l.len : Nat) : Int)) := hid (by omega)
        have E3 : Hid (max 0 (min ((a : Int) - (l.len : Int)) (r.len : Int)) = ((min (a - l.len) r.len : Nat) : Int)) := hid (by omega)
        have E4 : Hid (max 0 (min ((b : Int) - (l.len : Int)) (r.len : Int)) = ((min (b - l.len) r.len : Nat) : Int)) := hid (by omega)
        obtain ⟨a1, ha1⟩ : ∃ n, n = min a l.len := ⟨_, rfl⟩
        obtain ⟨b1, hb1⟩ : ∃ n, n = min b l.len := ⟨_, rfl⟩
        obtain ⟨a2, ha2⟩ : ∃ n, n = min (a - l.len) r.len := ⟨_, rfl⟩
        obtain ⟨b2, hb2⟩ : ∃ n, n = min (b - l.len) r.len := ⟨_, rfl⟩
        rw [← ha1] at E1 hp
        rw [← hb1] at E2
        rw [← ha2] at E3
        rw [← hb2] at E4 hq
        have HA := hid (And.intro (show a1 ≤ b1 by omega) (And.intro (show b1 ≤ l.len by omega) (And.intro (show a2 ≤ b2 by omega) (show b2 ≤ r.len by omega))))
        have HE := hid (And.intro ha1 (And.intro hb1 (And.intro ha2 hb2)))
        clear ha1 hb1 ha2 hb2
        go_enter Try.func31, Try.ntmps31
        go_wp2_with fail
        refine (Min_any (a : Int) (l.len : Int) _).mono ?_
        rintro e w' ⟨rfl, rfl⟩
        rw [E1.out]
        go_wp2_with fail
        refine (Min_any (b : Int) (l.len : Int) _).mono ?_
        rintro e w' ⟨rfl, rfl⟩
        rw [E2.out]
        go_wp2_with fail
        refine (Min_any ((a : Int) - (l.len : Int)) (r.len : Int) _).mono ?_
        rintro e w' ⟨rfl, rfl⟩
        go_wp2_with fail
        refine (Max_any 0 (min ((a : Int) - (l.len : Int)) (r.len : Int)) _).mono ?_
        rintro e w' ⟨rfl, rfl⟩
        rw [E3.out]
        go_wp2_with fail
        refine (Min_any ((b : Int) - (l.len : Int)) (r.len : Int) _).mono ?_
        rintro e w' ⟨rfl, rfl⟩
        go_wp2_with fail
        refine (Max_any 0 (min ((b : Int) - (l.len : Int)) (r.len : Int)) _).mono ?_
        rintro e w' ⟨rfl, rfl⟩
        rw [E4.out]
        go_wp2_with fail
        have HT0 := hid (Two.refl HI.out)
        have HLI : Hid (l.In w') := hid HI.out.2.1
        have HRI : Hid (r.In w') := hid HI.out.2.2.1
        clear c0 c3 c4 cl cr
        refine (HSL.out a1 b1 w' HI.out.2.1 HA.out.1 HA.out.2.1 (by omega)).mono ?_
        rintro e W1 hT
        obtain ⟨l2, hl2, h2⟩ := HT0.out.left hT
        obtain ⟨rfl, _⟩ := hT
        have HT1 := hid h2
        have HL2 := hid hl2
        have j4 : W1.cell? ⟨bk, 4, none⟩ = some (.pointer (some ⟨r.blk, 0, none⟩)) := (h2.blk HI.out).cell 4
        clear hl2 h2
        go_wp2_with fail
        refine (HSR.out a2 b2 W1 HT1.out.hr HA.out.2.2.1 HA.out.2.2.2 (by omega)).mono ?_
        rintro e W2 hT
        obtain ⟨r2, hr2, h2⟩ := HT1.out.right hT
        obtain ⟨rfl, _⟩ := hT
        have HT2 := hid h2
        have HR2 := hid hr2
        clear hr2 h2
        have HLL : Hid (l2.len + r2.len ≤ 1099511627776) := hid (by
          have h1 : l2.len ≤ l.len := by unfold N.len; rw [HL2.out]; exact rem_len _ _ _ HA.out.1 HA.out.2.1
          have h2 : r2.len ≤ r.len := by unfold N.len; rw [HR2.out]; exact rem_len _ _ _ HA.out.2.2.1 HA.out.2.2.2
          omega)
        have HSUM : Hid (wrap64 ((l2.len : Int) + (r2.len : Int)) = ((l2.len + r2.len : Nat) : Int)) := hid (by rw [IntWalk.wrap64_in _ (by have := HLL.out; omega)]; omega)
        have HT := HT2
        have B := HT.out.blk HI.out
        have k2 : W2.cell? ⟨bk, 2, none⟩ = some (.int .i64 ((l.len + r.len : Nat) : Int)) := B.cell 2
        have k3 : W2.cell? ⟨bk, 3, none⟩ = some (.pointer (some ⟨l.blk, 0, none⟩)) := B.cell 3
        have k4 : W2.cell? ⟨bk, 4, none⟩ = some (.pointer (some ⟨r.blk, 0, none⟩)) := B.cell 4
        have f2 : W2.frozen? ⟨bk, 2, none⟩ = false := B.free 2
        have kl : W2.cell? ⟨l.blk, 2, none⟩ = some (.int .i64 (l2.len : Int)) := by rw [← HT.out.bl]; exact HT.out.hl.len2
        have kr : W2.cell? ⟨r.blk, 2, none⟩ = some (.int .i64 (r2.len : Int)) := by rw [← HT.out.br]; exact HT.out.hr.len2
        clear B
        go_wp2_with fail
        refine still_tail_drew 16 (by kernel_rfl) (by kernel_rfl) ?_
        simp only [List.take_succ_cons, List.take_zero, List.drop_succ_cons, List.drop_zero]
        repeat still_step
        refine wpStill_nil ?_
        change wpList _ _ _ _ _ W2.drew
        go_wp2_with fail
        (try rw [HSUM.out])
        refine (HT.out.adj HI.out HLL.out).mono ?_
        rintro e w' ⟨rfl, hT⟩
        have HTT := hid hT
        clear hT
        go_wp2_with fail
        (try simp only [Exit.inBlock, Exit.then])
        refine bodyPost_end (results_none rfl _ _ _) rfl ?_
        have hraw : T.rem (N.node bk l r).raw a b = T.adj l2.raw r2.raw := by
          show T.rem (.node l.raw r.raw) a b = _
          rw [T.rem, show l.raw.len = l.len from rfl, show r.raw.len = r.len from rfl, ← HE.out.1, ← HE.out.2.1, ← HE.out.2.2.1, ← HE.out.2.2.2, if_pos hp, if_pos hq]
          rw [HL2.out, HR2.out]
        rw [hraw]
        exact ⟨rfl, HTT.out⟩
      · have E1 : Hid (min (a : Int) (l.len : Int) = ((min a l.len : Nat) : Int)) := hid (by omega)
        have E2 : Hid (min (b : Int) (l.len : Int) = ((min b l.len : Nat) : Int)) := hid (by omega)
        have E3 : Hid (max 0 (min ((a : Int) - (l.len : Int)) (r.len : Int)) = ((min (a - l.len) r.len : Nat) : Int)) := hid (by omega)
        have E4 : Hid (max 0 (min ((b : Int) - (l.len : Int)) (r.len : Int)) = ((min (b - l.len) r.len : Nat) : Int)) := hid (by omega)
        obtain ⟨a1, ha1⟩ : ∃ n, n = min a l.len := ⟨_, rfl⟩
        obtain ⟨b1, hb1⟩ : ∃ n, n = min b l.len := ⟨_, rfl⟩
        obtain ⟨a2, ha2⟩ : ∃ n, n = min (a - l.len) r.len := ⟨_, rfl⟩
        obtain ⟨b2, hb2⟩ : ∃ n, n = min (b - l.len) r.len := ⟨_, rfl⟩
        rw [← ha1] at E1 hp
        rw [← hb1] at E2
        rw [← ha2] at E3
        rw [← hb2] at E4 hq
        have HA := hid (And.intro (show a1 ≤ b1 by omega) (And.intro (show b1 ≤ l.len by omega) (And.intro (show a2 ≤ b2 by omega) (show b2 ≤ r.len by omega))))
        have HE := hid (And.intro ha1 (And.intro hb1 (And.intro ha2 hb2)))
        clear ha1 hb1 ha2 hb2
        go_enter Try.func31, Try.ntmps31
        go_wp2_with fail
        refine (Min_any (a : Int) (l.len : Int) _).mono ?_
        rintro e w' ⟨rfl, rfl⟩
        rw [E1.out]
        go_wp2_with fail
        refine (Min_any (b : Int) (l.len : Int) _).mono ?_
        rintro e w' ⟨rfl, rfl⟩
        rw [E2.out]
        go_wp2_with fail
        refine (Min_any ((a : Int) - (l.len : Int)) (r.len : Int) _).mono ?_
        rintro e w' ⟨rfl, rfl⟩
        go_wp2_with fail
        refine (Max_any 0 (min ((a : Int) - (l.len : Int)) (r.len : Int)) _).mono ?_
        rintro e w' ⟨rfl, rfl⟩
        rw [E3.out]
        go_wp2_with fail
        refine (Min_any ((b : Int) - (l.len : Int)) (r.len : Int) _).mono ?_
        rintro e w' ⟨rfl, rfl⟩
        go_wp2_with fail
        refine (Max_any 0 (min ((b : Int) - (l.len : Int)) (r.len : Int)) _).mono ?_
        rintro e w' ⟨rfl, rfl⟩
        rw [E4.out]
        go_wp2_with fail
        have HT0 := hid (Two.refl HI.out)
        have HLI : Hid (l.In w') := hid HI.out.2.1
        have HRI : Hid (r.In w') := hid HI.out.2.2.1
        clear c0 c3 c4 cl cr
        refine (HSL.out a1 b1 w' HI.out.2.1 HA.out.1 HA.out.2.1 (by omega)).mono ?_
        rintro e W1 hT
        obtain ⟨l2, hl2, h2⟩ := HT0.out.left hT
        obtain ⟨rfl, _⟩ := hT
        have HT1 := hid h2
        have HL2 := hid hl2
        have j4 : W1.cell? ⟨bk, 4, none⟩ = some (.pointer (some ⟨r.blk, 0, none⟩)) := (h2.blk HI.out).cell 4
        clear hl2 h2
        have HLL : Hid (l2.len + r.len ≤ 1099511627776) := hid (by
          have h1 : l2.len ≤ l.len := by unfold N.len; rw [HL2.out]; exact rem_len _ _ _ HA.out.1 HA.out.2.1
          have h2 : r.len ≤ r.len := Nat.le_refl _
          omega)
        have HSUM : Hid (wrap64 ((l2.len : Int) + (r.len : Int)) = ((l2.len + r.len : Nat) : Int)) := hid (by rw [IntWalk.wrap64_in _ (by have := HLL.out; omega)]; omega)
        have HT := HT1
        have B := HT.out.blk HI.out
        have k2 : W1.cell? ⟨bk, 2, none⟩ = some (.int .i64 ((l.len + r.len : Nat) : Int)) := B.cell 2
        have k3 : W1.cell? ⟨bk, 3, none⟩ = some (.pointer (some ⟨l.blk, 0, none⟩)) := B.cell 3
        have k4 : W1.cell? ⟨bk, 4, none⟩ = some (.pointer (some ⟨r.blk, 0, none⟩)) := B.cell 4
        have f2 : W1.frozen? ⟨bk, 2, none⟩ = false := B.free 2
        have kl : W1.cell? ⟨l.blk, 2, none⟩ = some (.int .i64 (l2.len : Int)) := by rw [← HT.out.bl]; exact HT.out.hl.len2
        have kr : W1.cell? ⟨r.blk, 2, none⟩ = some (.int .i64 (r.len : Int)) := by rw [← HT.out.br]; exact HT.out.hr.len2
        clear B
        go_wp2_with fail
        refine still_tail_drew 16 (by kernel_rfl) (by kernel_rfl) ?_
        simp only [List.take_succ_cons, List.take_zero, List.drop_succ_cons, List.drop_zero]
        repeat still_step
        refine wpStill_nil ?_
        change wpList _ _ _ _ _ W1.drew
        go_wp2_with fail
        (try rw [HSUM.out])
        refine (HT.out.adj HI.out HLL.out).mono ?_
        rintro e w' ⟨rfl, hT⟩
        have HTT := hid hT
        clear hT
        go_wp2_with fail
        (try simp only [Exit.inBlock, Exit.then])
        refine bodyPost_end (results_none rfl _ _ _) rfl ?_
        have hraw : T.rem (N.node bk l r).raw a b = T.adj l2.raw r.raw := by
          show T.rem (.node l.raw r.raw) a b = _
          rw [T.rem, show l.raw.len = l.len from rfl, show r.raw.len = r.len from rfl, ← HE.out.1, ← HE.out.2.1, ← HE.out.2.2.1, ← HE.out.2.2.2, if_pos hp, if_neg hq]
          rw [HL2.out]
        rw [hraw]
        exact ⟨rfl, HTT.out⟩
    · by_cases hq : 0 < min (b - l.len) r.len
      · have E1 : Hid (min (a : Int) (l.len : Int) = ((min a l.len : Nat) : Int)) := hid (by omega)
        have E2 : Hid (min (b : Int) (l.len : Int) = ((min b l.len : Nat) : Int)) := hid (by omega)
        have E3 : Hid (max 0 (min ((a : Int) - (l.len : Int)) (r.len : Int)) = ((min (a - l.len) r.len : Nat) : Int)) := hid (by omega)
        have E4 : Hid (max 0 (min ((b : Int) - (l.len : Int)) (r.len : Int)) = ((min (b - l.len) r.len : Nat) : Int)) := hid (by omega)
        obtain ⟨a1, ha1⟩ : ∃ n, n = min a l.len := ⟨_, rfl⟩
        obtain ⟨b1, hb1⟩ : ∃ n, n = min b l.len := ⟨_, rfl⟩
        obtain ⟨a2, ha2⟩ : ∃ n, n = min (a - l.len) r.len := ⟨_, rfl⟩
        obtain ⟨b2, hb2⟩ : ∃ n, n = min (b - l.len) r.len := ⟨_, rfl⟩
        rw [← ha1] at E1 hp
        rw [← hb1] at E2
        rw [← ha2] at E3
        rw [← hb2] at E4 hq
        have HA := hid (And.intro (show a1 ≤ b1 by omega) (And.intro (show b1 ≤ l.len by omega) (And.intro (show a2 ≤ b2 by omega) (show b2 ≤ r.len by omega))))
        have HE := hid (And.intro ha1 (And.intro hb1 (And.intro ha2 hb2)))
        clear ha1 hb1 ha2 hb2
        go_enter Try.func31, Try.ntmps31
        go_wp2_with fail
        refine (Min_any (a : Int) (l.len : Int) _).mono ?_
        rintro e w' ⟨rfl, rfl⟩
        rw [E1.out]
        go_wp2_with fail
        refine (Min_any (b : Int) (l.len : Int) _).mono ?_
        rintro e w' ⟨rfl, rfl⟩
        rw [E2.out]
        go_wp2_with fail
        refine (Min_any ((a : Int) - (l.len : Int)) (r.len : Int) _).mono ?_
        rintro e w' ⟨rfl, rfl⟩
        go_wp2_with fail
        refine (Max_any 0 (min ((a : Int) - (l.len : Int)) (r.len : Int)) _).mono ?_
        rintro e w' ⟨rfl, rfl⟩
        rw [E3.out]
        go_wp2_with fail
        refine (Min_any ((b : Int) - (l.len : Int)) (r.len : Int) _).mono ?_
        rintro e w' ⟨rfl, rfl⟩
        go_wp2_with fail
        refine (Max_any 0 (min ((b : Int) - (l.len : Int)) (r.len : Int)) _).mono ?_
        rintro e w' ⟨rfl, rfl⟩
        rw [E4.out]
        go_wp2_with fail
        have HT0 := hid (Two.refl HI.out)
        have HLI : Hid (l.In w') := hid HI.out.2.1
        have HRI : Hid (r.In w') := hid HI.out.2.2.1
        clear c0 c3 c4 cl cr
        refine (HSR.out a2 b2 w' HT0.out.hr HA.out.2.2.1 HA.out.2.2.2 (by omega)).mono ?_
        rintro e W2 hT
        obtain ⟨r2, hr2, h2⟩ := HT0.out.right hT
        obtain ⟨rfl, _⟩ := hT
        have HT2 := hid h2
        have HR2 := hid hr2
        clear hr2 h2
        have HLL : Hid (l.len + r2.len ≤ 1099511627776) := hid (by
          have h1 : l.len ≤ l.len := Nat.le_refl _
          have h2 : r2.len ≤ r.len := by unfold N.len; rw [HR2.out]; exact rem_len _ _ _ HA.out.2.2.1 HA.out.2.2.2
          omega)
        have HSUM : Hid (wrap64 ((l.len : Int) + (r2.len : Int)) = ((l.len + r2.len : Nat) : Int)) := hid (by rw [IntWalk.wrap64_in _ (by have := HLL.out; omega)]; omega)
        have HT := HT2
        have B := HT.out.blk HI.out
        have k2 : W2.cell? ⟨bk, 2, none⟩ = some (.int .i64 ((l.len + r.len : Nat) : Int)) := B.cell 2
        have k3 : W2.cell? ⟨bk, 3, none⟩ = some (.pointer (some ⟨l.blk, 0, none⟩)) := B.cell 3
        have k4 : W2.cell? ⟨bk, 4, none⟩ = some (.pointer (some ⟨r.blk, 0, none⟩)) := B.cell 4
        have f2 : W2.frozen? ⟨bk, 2, none⟩ = false := B.free 2
        have kl : W2.cell? ⟨l.blk, 2, none⟩ = some (.int .i64 (l.len : Int)) := by rw [← HT.out.bl]; exact HT.out.hl.len2
        have kr : W2.cell? ⟨r.blk, 2, none⟩ = some (.int .i64 (r2.len : Int)) := by rw [← HT.out.br]; exact HT.out.hr.len2
        clear B
        go_wp2_with fail
        refine still_tail_drew 16 (by kernel_rfl) (by kernel_rfl) ?_
        simp only [List.take_succ_cons, List.take_zero, List.drop_succ_cons, List.drop_zero]
        repeat still_step
        refine wpStill_nil ?_
        change wpList _ _ _ _ _ W2.drew
        go_wp2_with fail
        (try rw [HSUM.out])
        refine (HT.out.adj HI.out HLL.out).mono ?_
        rintro e w' ⟨rfl, hT⟩
        have HTT := hid hT
        clear hT
        go_wp2_with fail
        (try simp only [Exit.inBlock, Exit.then])
        refine bodyPost_end (results_none rfl _ _ _) rfl ?_
        have hraw : T.rem (N.node bk l r).raw a b = T.adj l.raw r2.raw := by
          show T.rem (.node l.raw r.raw) a b = _
          rw [T.rem, show l.raw.len = l.len from rfl, show r.raw.len = r.len from rfl, ← HE.out.1, ← HE.out.2.1, ← HE.out.2.2.1, ← HE.out.2.2.2, if_neg hp, if_pos hq]
          rw [HR2.out]
        rw [hraw]
        exact ⟨rfl, HTT.out⟩
      · have E1 : Hid (min (a : Int) (l.len : Int) = ((min a l.len : Nat) : Int)) := hid (by omega)
        have E2 : Hid (min (b : Int) (l.len : Int) = ((min b l.len : Nat) : Int)) := hid (by omega)
        have E3 : Hid (max 0 (min ((a : Int) - (l.len : Int)) (r.len : Int)) = ((min (a - l.len) r.len : Nat) : Int)) := hid (by omega)
        have E4 : Hid (max 0 (min ((b : Int) - (l.len : Int)) (r.len : Int)) = ((min (b - l.len) r.len : Nat) : Int)) := hid (by omega)
        obtain ⟨a1, ha1⟩ : ∃ n, n = min a l.len := ⟨_, rfl⟩
        obtain ⟨b1, hb1⟩ : ∃ n, n = min b l.len := ⟨_, rfl⟩
        obtain ⟨a2, ha2⟩ : ∃ n, n = min (a - l.len) r.len := ⟨_, rfl⟩
        obtain ⟨b2, hb2⟩ : ∃ n, n = min (b - l.len) r.len := ⟨_, rfl⟩
        rw [← ha1] at E1 hp
        rw [← hb1] at E2
        rw [← ha2] at E3
        rw [← hb2] at E4 hq
        have HA := hid (And.intro (show a1 ≤ b1 by omega) (And.intro (show b1 ≤ l.len by omega) (And.intro (show a2 ≤ b2 by omega) (show b2 ≤ r.len by omega))))
        have HE := hid (And.intro ha1 (And.intro hb1 (And.intro ha2 hb2)))
        clear ha1 hb1 ha2 hb2
        go_enter Try.func31, Try.ntmps31
        go_wp2_with fail
        refine (Min_any (a : Int) (l.len : Int) _).mono ?_
        rintro e w' ⟨rfl, rfl⟩
        rw [E1.out]
        go_wp2_with fail
        refine (Min_any (b : Int) (l.len : Int) _).mono ?_
        rintro e w' ⟨rfl, rfl⟩
        rw [E2.out]
        go_wp2_with fail
        refine (Min_any ((a : Int) - (l.len : Int)) (r.len : Int) _).mono ?_
        rintro e w' ⟨rfl, rfl⟩
        go_wp2_with fail
        refine (Max_any 0 (min ((a : Int) - (l.len : Int)) (r.len : Int)) _).mono ?_
        rintro e w' ⟨rfl, rfl⟩
        rw [E3.out]
        go_wp2_with fail
        refine (Min_any ((b : Int) - (l.len : Int)) (r.len : Int) _).mono ?_
        rintro e w' ⟨rfl, rfl⟩
        go_wp2_with fail
        refine (Max_any 0 (min ((b : Int) - (l.len : Int)) (r.len : Int)) _).mono ?_
        rintro e w' ⟨rfl, rfl⟩
        rw [E4.out]
        go_wp2_with fail
        have HT0 := hid (Two.refl HI.out)
        have HLI : Hid (l.In w') := hid HI.out.2.1
        have HRI : Hid (r.In w') := hid HI.out.2.2.1
        clear c0 c3 c4 cl cr
        have HLL : Hid (l.len + r.len ≤ 1099511627776) := hid (by
          have h1 : l.len ≤ l.len := Nat.le_refl _
          have h2 : r.len ≤ r.len := Nat.le_refl _
          omega)
        have HSUM : Hid (wrap64 ((l.len : Int) + (r.len : Int)) = ((l.len + r.len : Nat) : Int)) := hid (by rw [IntWalk.wrap64_in _ (by have := HLL.out; omega)]; omega)
        have HT := HT0
        have B := HT.out.blk HI.out
        have k2 : w'.cell? ⟨bk, 2, none⟩ = some (.int .i64 ((l.len + r.len : Nat) : Int)) := B.cell 2
        have k3 : w'.cell? ⟨bk, 3, none⟩ = some (.pointer (some ⟨l.blk, 0, none⟩)) := B.cell 3
        have k4 : w'.cell? ⟨bk, 4, none⟩ = some (.pointer (some ⟨r.blk, 0, none⟩)) := B.cell 4
        have f2 : w'.frozen? ⟨bk, 2, none⟩ = false := B.free 2
        have kl : w'.cell? ⟨l.blk, 2, none⟩ = some (.int .i64 (l.len : Int)) := by rw [← HT.out.bl]; exact HT.out.hl.len2
        have kr : w'.cell? ⟨r.blk, 2, none⟩ = some (.int .i64 (r.len : Int)) := by rw [← HT.out.br]; exact HT.out.hr.len2
        clear B
        refine still_tail_drew 16 (by kernel_rfl) (by kernel_rfl) ?_
        simp only [List.take_succ_cons, List.take_zero, List.drop_succ_cons, List.drop_zero]
        repeat still_step
        refine wpStill_nil ?_
        change wpList _ _ _ _ _ w'.drew
        go_wp2_with fail
        (try rw [HSUM.out])
        refine (HT.out.adj HI.out HLL.out).mono ?_
        rintro e w' ⟨rfl, hT⟩
        have HTT := hid hT
        clear hT
        go_wp2_with fail
        (try simp only [Exit.inBlock, Exit.then])
        refine bodyPost_end (results_none rfl _ _ _) rfl ?_
        have hraw : T.rem (N.node bk l r).raw a b = T.adj l.raw r.raw := by
          show T.rem (.node l.raw r.raw) a b = _
          rw [T.rem, show l.raw.len = l.len from rfl, show r.raw.len = r.len from rfl, ← HE.out.1, ← HE.out.2.1, ← HE.out.2.2.1, ← HE.out.2.2.2, if_neg hp, if_neg hq]
        rw [hraw]
        exact ⟨rfl, HTT.out⟩
end Go.Proofs.Ytdlnpmbnedmmnaa.Rope
