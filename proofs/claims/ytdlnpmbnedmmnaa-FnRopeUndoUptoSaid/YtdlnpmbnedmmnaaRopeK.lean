/- Ropes in memory: Insert. For every rope, every row and every place. -/
import Derived.Test.YtdlnpmbnedmmnaaRopeJ
namespace Go.Proofs.Ytdlnpmbnedmmnaa.Rope
open Go Go.RowKit Go.Deep Go.Proofs.Ytdlnpmbnedmmnaa.Hk Go.Proofs.Ytdlnpmbnedmmnaa.RopePure Go.Proofs.YtdlnpmbnedmmnaaW.PrintWords Go.Proofs.YtdlnpmbnedmmnaaW.PrintLast Go.Proofs.YtdlnpmbnedmmnaaW.PrintMore
/-- A row put into a row. -/
def Put (A : Option Addr) (c : Nat) (ys : List Int) (w : World) (e : Ending) (w' : World) : Prop := ∃ A' c', e = .returned (.slice A' ys.length c') ∧ Seg w' A' c' ys ∧ Fz (dz A c) w w' ∧ ∀ k o, dz A' c' k o → dz A c k o ∨ w.heap.size ≤ k
theorem ins_len (xs vs : List Int) {k : Nat} (hk : k ≤ xs.length) : (xs.take k ++ vs ++ xs.drop k).length = xs.length + vs.length := by rw [List.length_append, List.length_append, List.length_take, List.length_drop]; omega
theorem insert_any (A Av : Option Addr) (c cv k : Nat) (xs vs : List Int) (w : World) (hS : Seg w A c xs) (hV : Rd w Av cv vs) (hk : k ≤ xs.length) (hl : xs.length + vs.length ≤ 1099511627776) (hd : ∀ ad, Av = some ad → ∀ o, ¬ dz A c ad.block o) :
    Calls Try.prog 38 #[.slice A xs.length c, .int .i64 (k : Int), .slice Av vs.length cv] w (Put A c (xs.take k ++ vs ++ xs.drop k) w) := by
  have hxc := hS.le
  have grown : ∀ (e : Ending) (w' : World), Grow xs vs k w e w' → Put A c (xs.take k ++ vs ++ xs.drop k) w e w' := fun e w' h => by
    obtain ⟨rfl, h1, h2⟩ := h
    refine ⟨some ⟨w.heap.size, 0, none⟩, xs.length + vs.length, by rw [ins_len xs vs hk], h1, Fz.new h2, fun k o hz => .inr ?_⟩
    obtain ⟨q, e, _⟩ := hz
    injection e with e; injection e with e1 e2
    omega
  cases A with
  | none =>
    have hx : xs = [] := hS.rd.nil_ rfl
    have hc : c = 0 := hS.rd.none_ rfl
    subst hx hc
    have hk0 : k = 0 := by simpa using hk
    subst hk0
    by_cases hm : 0 < vs.length
    · exact (insert_grow0 Av cv vs w hV hm (by simpa using hl)).mono grown
    · have hv : vs = [] := List.eq_nil_of_length_eq_zero (by omega)
      subst hv
      refine (insert_idle none Av 0 cv w (fun _ => rfl) (fun ad e => by cases e) (by omega)).mono ?_
      rintro e w' ⟨rfl, hB⟩
      exact ⟨none, 0, rfl, hS.below hB, Fz.new hB, fun k o hz => .inl hz⟩
  | some ad =>
    obtain ⟨ba, qa, rfl⟩ := hS.spot ad rfl
    by_cases hr : xs.length + vs.length ≤ c
    · by_cases hck : c = k
      · have hv : vs = [] := List.eq_nil_of_length_eq_zero (by omega)
        have hn : xs.length = k := by omega
        subst hv
        have hb := insert_idle (some ⟨ba, qa, none⟩) Av k cv w (fun e => by cases e) (fun ad e => ⟨ba, qa, (Option.some.inj e).symm⟩) (by omega)
        rw [hn, hck]
        refine hb.mono ?_
        rintro e w' ⟨rfl, hB⟩
        have hy : xs.take k ++ [] ++ xs.drop k = xs := by rw [List.append_nil, List.take_append_drop]
        rw [hy]
        subst hck
        exact ⟨_, c, by rw [hn], hS.below hB, Fz.new hB, fun k o hz => .inl hz⟩
      · by_cases hc0 : 0 < c
        · refine (insert_room ba qa Av c cv k xs vs w hS hV hk hr hl (fun ad e hh => hd ad e qa ⟨qa, by rw [hh], by omega, by omega⟩) hck).mono ?_
          rintro e w' ⟨rfl, h1, h2⟩
          exact ⟨_, c, by rw [ins_len xs vs hk], h1, h2, fun k o hz => .inl hz⟩
        · exact absurd (show c = k by omega) hck
    · exact (insert_grow ba qa Av c cv k xs vs w hS.rd hV hk hxc (by omega) hl).mono grown
theorem ins_len2 (t : T) (vs : List Int) (p : Nat) (hp : p ≤ t.len) : (T.ins vs t p).len = t.len + vs.length := by
  show (T.ins vs t p).flat.length = t.flat.length + vs.length
  rw [T.flat_ins vs t p hp]
  exact ins_len _ _ hp
set_option maxHeartbeats 8000000 in
set_option maxRecDepth 100000 in
theorem Insert_any : ∀ (t : N) (p : Nat) (vs : List Int) (Av : Option Addr) (cv : Nat) (w : World), t.In w → Rd w Av cv vs → (∀ ad, Av = some ad → ∀ o, ¬ t.own ad.block o) → p ≤ t.len → t.len + vs.length ≤ 1099511627776 →
    Calls Try.prog 30 #[t.ptr, .int .i64 (p : Int), .slice Av vs.length cv] w (Turn t (T.ins vs t.raw p) w)
  | .leaf bk A c xs, p, vs, Av, cv, w, hin, hV, hd, hp, hl => by
    have hpx : p ≤ xs.length := hp
    have hlx : xs.length + vs.length ≤ 1099511627776 := hl
    have HI := hid hin
    have HV := hid hV
    have HD := hid hd
    have c0 : w.cell? ⟨bk, 0, none⟩ = some (.int .u8 0) := hin.1.cell 0
    have c1 : w.cell? ⟨bk, 1, none⟩ = some (.slice A xs.length c) := hin.1.cell 1
    clear hin hV hd hp hl
    rw [show (N.leaf bk A c xs).ptr = .pointer (some ⟨bk, 0, none⟩) from rfl]
    go_enter Try.func30, Try.ntmps30
    go_wp2_with fail
    refine (insert_any A Av c cv p xs vs w HI.out.2.1 HV.out hpx hlx (fun ad e o ho => HD.out ad e o (.inr ho))).mono ?_
    rintro e w1 ⟨A', c', rfl, hs, hf, hz⟩
    obtain ⟨ys, hys⟩ : ∃ ys, ys = xs.take p ++ vs ++ xs.drop p := ⟨_, rfl⟩
    rw [← hys] at hs ⊢
    have HY := hid hys
    obtain ⟨n, hn⟩ : ∃ n, n = ys.length := ⟨_, rfl⟩
    rw [← hn]
    have HN := hid hn
    have B1 : Blk w1 bk (leafC A c xs.length) 60 := blk_fz HI.out.1 hf (fun o e => HI.out.2.2 o e)
    have k1 : w1.cell? ⟨bk, 1, none⟩ = some (.slice A xs.length c) := B1.cell 1
    have k2 : w1.cell? ⟨bk, 2, none⟩ = some (.int .i64 (xs.length : Int)) := B1.cell 2
    have f1 : w1.frozen? ⟨bk, 1, none⟩ = false := B1.free 1
    have f2 : w1.frozen? ⟨bk, 2, none⟩ = false := B1.free 2
    have HB1 := hid B1
    have HS := hid (And.intro hs (And.intro hf hz))
    have HYL : Hid (ys.length ≤ 1099511627776) := hid (by rw [hys, ins_len _ _ hpx]; exact hlx)
    clear hys hn B1 hs hf hz c0 c1
    go_wp2_with fail
    have hnd : ∀ o, ¬ dz A' c' bk o := fun o ho => by
      rcases HS.out.2.2 bk o ho with q | q
      · exact HI.out.2.2 o q
      · have := HI.out.1.lt; omega
    have F2 : ∀ (W : World) (i : Nat) (v : Value), Fz (fun k _ => k = bk) W (W.setCell ⟨bk, i, none⟩ v) := fun W i v => Fz.one.mono (fun _ _ _ e => e.1)
    refine (turned (A := A) (c := c) (xs := xs) (w := w) (A' := A') (c' := c') (ys := ys) ?_ ((HS.out.1.fz (F2 _ _ _) (fun k o hz e => hnd o (by rw [← e]; exact hz))).fz (F2 _ _ _) (fun k o hz e => hnd o (by rw [← e]; exact hz))) hnd HS.out.2.2 (((HS.out.2.1.mono (fun n o _ e => .inr e)).trans (F2 _ _ _) (fun _ _ _ e => .inl e)).trans (F2 _ _ _) (fun _ _ _ e => .inl e)) HYL.out).mono ?_
    · rw [← HN.out]
      exact (HB1.out.set 1 (.slice A' n c')).set 2 (.int .i64 (n : Int))
    rintro e w2 ⟨rfl, hT⟩
    have HT := hid hT
    clear hT
    go_wp2_with fail
    (try simp only [Exit.inBlock, Exit.then])
    refine bodyPost_end (results_none rfl _ _ _) rfl ?_
    rw [show T.ins vs (N.leaf bk A c xs).raw p = T.new ys by rw [HY.out]; rfl]
    exact ⟨rfl, HT.out⟩
  | .node bk l r, p, vs, Av, cv, w, hin, hV, hd, hp, hl => by
    have HSL := hid (Insert_any l)
    have HSR := hid (Insert_any r)
    have HI := hid hin
    have HV := hid hV
    have HD := hid hd
    have hlen : (N.node bk l r).len = l.len + r.len := T.len_node _ _
    rw [hlen] at hp hl
    clear hlen
    have c0 : w.cell? ⟨bk, 0, none⟩ = some (.int .u8 1) := hin.1.cell 0
    have c3 : w.cell? ⟨bk, 3, none⟩ = some l.ptr := hin.1.cell 3
    have c4 : w.cell? ⟨bk, 4, none⟩ = some r.ptr := hin.1.cell 4
    have cl : w.cell? ⟨l.blk, 2, none⟩ = some (.int .i64 (l.len : Int)) := hin.2.1.len2
    have cr : w.cell? ⟨r.blk, 2, none⟩ = some (.int .i64 (r.len : Int)) := hin.2.2.1.len2
    clear hin hV hd
    rw [show (N.node bk l r).ptr = .pointer (some ⟨bk, 0, none⟩) from rfl]
    rw [show l.ptr = .pointer (some ⟨l.blk, 0, none⟩) from rfl] at c3
    rw [show r.ptr = .pointer (some ⟨r.blk, 0, none⟩) from rfl] at c4
    by_cases h : p < l.len
    · go_enter Try.func30, Try.ntmps30
      go_wp2_with fail
      have HT0 := hid (Two.refl HI.out)
      clear c0 c3 c4 cl cr
      refine (HSL.out p vs Av cv w HI.out.2.1 HV.out (fun ad e o ho => HD.out ad e o (.inr (.inl ho))) (by omega) (by omega)).mono ?_
      rintro e W1 hT
      obtain ⟨l2, hl2, h2⟩ := HT0.out.left hT
      obtain ⟨rfl, _⟩ := hT
      have HT1 := hid h2
      have HL2 := hid hl2
      clear hl2 h2
      have HLL : Hid (l2.len + r.len ≤ 1099511627776) := hid (by
        have h1 : l2.len = l.len + vs.length := by unfold N.len; rw [HL2.out]; exact ins_len2 _ _ _ (show _ ≤ l.len by omega)
        omega)
      have HSUM : Hid (wrap64 ((l2.len : Int) + (r.len : Int)) = ((l2.len + r.len : Nat) : Int)) := hid (by rw [IntWalk.wrap64_in _ (by have := HLL.out; omega)]; omega)
      have HT := HT1
      have B := HT.out.blk HI.out
      have k2 : W1.cell? ⟨bk, 2, none⟩ = some (.int .i64 ((l.len + r.len : Nat) : Int)) := B.cell 2
      have k3 : W1.cell? ⟨bk, 3, none⟩ = some (.pointer (some ⟨l.blk, 0, none⟩)) := B.cell 3
      have k4 : W1.cell? ⟨bk, 4, none⟩ = some (.pointer (some ⟨r.blk, 0, none⟩)) := B.cell 4
      have f2 : W1.frozen? ⟨bk, 2, none⟩ = false := B.free 2
      have kl : W1.cell? ⟨l.blk, 2, none⟩ = some (.int .i64 (l2.len : Int)) := by rw [← HT.out.bl]; exact HT.out.hl.len2
      have kr : W1.cell? ⟨r.blk, 2, none⟩ = some (.int .i64 (r.len : Int)) := by rw [← HT.out.br]; exact HT.out.hr.len2
      clear B
      go_wp2_with fail
      refine still_tail_drew 16 (by kernel_rfl) (by kernel_rfl) ?_
      simp only [List.take_succ_cons, List.take_zero, List.drop_succ_cons, List.drop_zero]
      repeat still_step
      refine wpStill_nil ?_
      change wpList _ _ _ _ _ W1.drew
      go_wp2_with fail
      (try rw [HSUM.out])
      refine (HT.out.adj HI.out HLL.out).mono ?_
      rintro e w' ⟨rfl, hT⟩
      have HTT := hid hT
      clear hT
      go_wp2_with fail
      (try simp only [Exit.inBlock, Exit.then])
      refine bodyPost_end (results_none rfl _ _ _) rfl ?_
      have hraw : T.ins vs (N.node bk l r).raw p = T.adj l2.raw r.raw := by
        show T.ins vs (.node l.raw r.raw) p = _
        rw [T.ins, show l.raw.len = l.len from rfl, if_pos h, HL2.out]
      rw [hraw]
      exact ⟨rfl, HTT.out⟩
    · go_enter Try.func30, Try.ntmps30
      go_wp2_with fail
      rw [show (p : Int) - (l.len : Int) = ((p - l.len : Nat) : Int) by omega]
      have HT0 := hid (Two.refl HI.out)
      clear c0 c3 c4 cl cr
      refine (HSR.out (p - l.len) vs Av cv w HI.out.2.2.1 HV.out (fun ad e o ho => HD.out ad e o (.inr (.inr ho))) (by omega) (by omega)).mono ?_
      rintro e W1 hT
      obtain ⟨r2, hl2, h2⟩ := HT0.out.right hT
      obtain ⟨rfl, _⟩ := hT
      have HT1 := hid h2
      have HL2 := hid hl2
      clear hl2 h2
      have HLL : Hid (l.len + r2.len ≤ 1099511627776) := hid (by
        have h1 : r2.len = r.len + vs.length := by unfold N.len; rw [HL2.out]; exact ins_len2 _ _ _ (show _ ≤ r.len by omega)
        omega)
      have HSUM : Hid (wrap64 ((l.len : Int) + (r2.len : Int)) = ((l.len + r2.len : Nat) : Int)) := hid (by rw [IntWalk.wrap64_in _ (by have := HLL.out; omega)]; omega)
      have HT := HT1
      have B := HT.out.blk HI.out
      have k2 : W1.cell? ⟨bk, 2, none⟩ = some (.int .i64 ((l.len + r.len : Nat) : Int)) := B.cell 2
      have k3 : W1.cell? ⟨bk, 3, none⟩ = some (.pointer (some ⟨l.blk, 0, none⟩)) := B.cell 3
      have k4 : W1.cell? ⟨bk, 4, none⟩ = some (.pointer (some ⟨r.blk, 0, none⟩)) := B.cell 4
      have f2 : W1.frozen? ⟨bk, 2, none⟩ = false := B.free 2
      have kl : W1.cell? ⟨l.blk, 2, none⟩ = some (.int .i64 (l.len : Int)) := by rw [← HT.out.bl]; exact HT.out.hl.len2
      have kr : W1.cell? ⟨r.blk, 2, none⟩ = some (.int .i64 (r2.len : Int)) := by rw [← HT.out.br]; exact HT.out.hr.len2
      clear B
      go_wp2_with fail
      refine still_tail_drew 16 (by kernel_rfl) (by kernel_rfl) ?_
      simp only [List.take_succ_cons, List.take_zero, List.drop_succ_cons, List.drop_zero]
      repeat still_step
      refine wpStill_nil ?_
      change wpList _ _ _ _ _ W1.drew
      go_wp2_with fail
      (try rw [HSUM.out])
      refine (HT.out.adj HI.out HLL.out).mono ?_
      rintro e w' ⟨rfl, hT⟩
      have HTT := hid hT
      clear hT
      go_wp2_with fail
      (try simp only [Exit.inBlock, Exit.then])
      refine bodyPost_end (results_none rfl _ _ _) rfl ?_
      have hraw : T.ins vs (N.node bk l r).raw p = T.adj l.raw r2.raw := by
        show T.ins vs (.node l.raw r.raw) p = _
        rw [T.ins, show l.raw.len = l.len from rfl, if_neg h, HL2.out]
      rw [hraw]
      exact ⟨rfl, HTT.out⟩
end Go.Proofs.Ytdlnpmbnedmmnaa.Rope
