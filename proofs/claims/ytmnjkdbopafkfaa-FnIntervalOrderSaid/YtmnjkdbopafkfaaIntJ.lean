/- Interval trees in memory: a script of steps, one behind the other. For every balanced tree with right heights and greatest ends, and every proper script. -/
import Derived.Test.YtmnjkdbopafkfaaIntI
namespace Go.Proofs.Ytmnjkdbopafkfaa.Int
open Go Go.RowKit Go.Deep Go.Proofs.Ytmnjkdbopafkfaa.Hk Go.Proofs.Ytmnjkdbopafkfaa.IntPure Go.Proofs.Ytmnjkdbopafkfaa.IntPure.T Go.Proofs.YtmnjkdbopafkfaaW.PrintWords Go.Proofs.YtmnjkdbopafkfaaW.PrintLast Go.Proofs.YtmnjkdbopafkfaaW.PrintMore
def do20.T : Bool × List (List Nat × List Nat) := (true, [([], []), ([0], [0]), ([], []), ([2], [2]), ([3], [3]), ([1, 4, 3], [1, 4]), ([0, 1, 2, 3, 4, 5], []), ([6, 5, 5, 0, 1, 2, 3, 4, 5], [5, 6])])
def do20.B : List Nat := [0, 1, 0, 4, 12, 31, 63, 127]
theorem do20.tab : rtab .any (opsOf Try.f24 20) = do20.T := by kernel_rfl
theorem do20.bits : waitsOk do20.T.2 do20.B = true := by kernel_rfl

theorem at_span {w : World} {A : Option Addr} {n : Nat} {xs : List (Int × Int × Int)} (h : Kd.C spK w A n xs) (i : Nat) (hi : i < xs.length) : ∃ ad, A = some ad ∧ w.cell? (ad.add (i * 3)) = some (.int .i64 xs[i].1) ∧
    w.cell? ⟨(ad.add (i * 3)).block, (ad.add (i * 3)).off + 1, none⟩ = some (.int .i64 xs[i].2.1) ∧ w.cell? ⟨(ad.add (i * 3)).block, (ad.add (i * 3)).off + 2, none⟩ = some (.int .i64 xs[i].2.2) := by
  have hn := h.1
  obtain ⟨ad, c, e, _, hK, hc0⟩ := Kd.C_get h ((0, 0, 0) : Int × Int × Int) i (by omega) (by omega)
  have hx : xs.getD (i : Int).toNat (0, 0, 0) = xs[i] := by simp [List.getD_eq_getElem?_getD, hi]
  rw [hx] at hK
  have hc : ∀ j u, c[j]? = some u → w.cell? (ad.add (i * 3 + j)) = some u := hc0
  obtain ⟨c0, c1, rfl, h0, d0, d1, rfl, h1, h2⟩ := hK
  cases h0; cases h1; cases h2
  exact ⟨ad, e, hc 0 _ rfl, by rw [← add_field _ _ 1 (by omega)]; exact hc 1 _ rfl, by rw [← add_field _ _ 2 (by omega)]; exact hc 2 _ rfl⟩
theorem St.kgrow {base R s : Nat} {t0 t : N} {w W W1 : World} {out : Value} {rs : List Fd} {c8 : Array Value} {kv : S} {K K1 : Value} {ks ks1 : List (Int × Int × Int)} (h : St base R s t0 w t out rs c8 kv K ks W) (hR : spK.R 29 W1 (s + 3) (fun _ => True) K1 ks1) (hg : W.grownBy W1 K.ownBlock)
    (hat : K1.ownBlock = K.ownBlock ∨ ∃ b, K1.ownBlock = some b ∧ W.heap.size ≤ b) : St base R s t0 w t out rs c8 kv K1 ks1 W1 := by
  have hk := h.krow
  have hf : Fr (fun k => some k = K.ownBlock) W W1 := Fr.of_grown hg
  refine h.keep hf (fun b hb e => by have := (hk b e.symm).1; omega) (fun b hb e => h.kt b e.symm hb) (h.x8.fr hf (fun e => by have := (hk _ e.symm).1; omega)) (h.x9.fr hf (fun e => by have := (hk _ e.symm).1; omega)) hR (fun k hk1 hm => ?_)
  rcases hat with q | ⟨b, q, hb⟩
  · exact h.kt k (q ▸ hk1) hm
  · rw [q] at hk1; injection hk1 with hk1; have := h.tree.lt.2 _ hm; omega
/-- The row of what overlaps, while it is told. -/
structure Vr (s : Nat) (V K : Value) (xs : List (Int × Int × Int)) (W : World) : Prop where
  row : spK.R 74 W (s + 3) (fun _ => True) V xs
  off : ∀ k, V.ownBlock = some k → some k ≠ K.ownBlock
theorem Vr.below {s : Nat} {V K : Value} {xs : List (Int × Int × Int)} {W W1 : World} (h : Vr s V K xs W) (hb : Below W.heap.size W W1) : Vr s V K xs W1 := ⟨Kd.R_below h.row hb, h.off⟩
theorem Vr.grown {s : Nat} {V K K1 : Value} {xs : List (Int × Int × Int)} {W W1 : World} (h : Vr s V K xs W) (hg : W.grownBy W1 K.ownBlock) (hat : K1.ownBlock = K.ownBlock ∨ ∃ b, K1.ownBlock = some b ∧ W.heap.size ≤ b) : Vr s V K1 xs W1 :=
  ⟨Kd.R_mono (Kd.R_grown (Kd.R_reok (ok := fun k => some k ≠ K.ownBlock) rfl h.row (fun k hk => h.off k hk)) hg (fun _ h => h)) (fun _ _ => trivial), fun k hk e => by
    rcases hat with q | ⟨b, q, hb⟩
    · exact h.off k hk (e.trans q)
    · rw [q] at e; injection e with e; have := Kd.R_lt h.row k hk; omega⟩
theorem Vr.set8 {s : Nat} {V K : Value} {xs : List (Int × Int × Int)} {W : World} (h : Vr s V K xs W) (i : Nat) (u : Value) : Vr s V K xs (W.setCell ⟨s + 1, i, none⟩ u) :=
  ⟨Kd.R_mono (Kd.R_far (p := ⟨s + 1, i, none⟩) (Kd.R_reok (ok := fun k => k ≠ s + 1) rfl h.row (fun k hk => by have := Kd.R_base h.row k hk; omega)) (fun _ h => h) u) (fun _ _ => trivial), h.off⟩
/-- A script that no step of which stops the program. -/
def Fit (l : List Mk) : Prop := ∀ a ∈ l, (a.1 = 0 ∨ a.1 = 1 ∨ a.1 = 4) → a.2.1 ≤ a.2.2.1

set_option maxHeartbeats 16000000 in
set_option maxRecDepth 100000 in
theorem intervalDo_any (base R : Nat) (t0 : N) (w : World) (A : Option Addr) (c : Nat) (l : List Mk) (hT : Tree base R t0 w) (hb : base ≤ w.heap.size) (hC : ∀ W, Below base w W → Kd.C markK W A l.length l)
    (hs : t0.raw.size + l.length ≤ 1099511627776) (hl : l.length ≤ 1099511627776) (hfit : Fit l) :
    Calls Try.prog 24 #[.pointer (some ⟨R, 0, none⟩), .slice A l.length c] w fun e w' => ∃ t' v, e = .returned v ∧ t'.raw = runT t0.raw l ∧ Inv base R t0 w t' v (toldT t0.raw l) w' := by
  have HC : Hid (∀ W, Below base w W → Kd.C markK W A l.length l) := hC
  have HT : Hid (Tree base R t0 w) := hT
  have HB : Hid (base ≤ w.heap.size) := hb
  have HFL := hid hfit
  clear hC hT hb hfit
  go_enter Try.func24, Try.ntmps24
  go_wp2_with fail
  go_loopg [5, 14] l.length (fun g v5 v14 wr => ∃ (i : Nat) (t : N) (rs : List Fd), v14 = .int .i64 i ∧ i ≤ l.length ∧ Hid (g + i = l.length) ∧ Hid (Inv base R t0 w t v5 rs wr ∧ rs.length = i ∧ rs ++ toldT t.raw (l.drop i) = toldT t0.raw l ∧ runT t.raw (l.drop i) = runT t0.raw l ∧ t.raw.size + ((l.length : Int) - i) ≤ 1099511627776))
  case atStart => exact ⟨0, t0, [], rfl, Nat.zero_le _, Nat.add_zero _, ⟨HT.out, fun b hb => .inl hb, Kd.S_nil .., Fr.refl _ _⟩, rfl, rfl, rfl, by simpa using hs⟩
  case round =>
    obtain ⟨i, t, rs, rfl, hi, HG, HI⟩ := hrel
    by_cases hlt : i < l.length
    · obtain ⟨ad, rfl, x0, x1, x2, x3⟩ := at_mark (HC.out wr (by
        have h := HI.out.1.fr
        have hg := HT.out.ge
        exact h.below HB.out (fun k hk => by
          rcases hk with rfl | hk
          · exact hg
          · exact HT.out.good.above k hk))) i hlt
      have HX : Hid (l.drop i = l[i] :: l.drop (i + 1)) := List.drop_eq_getElem_cons hlt
      have HFIT : Hid ((l[i].1 = 0 ∨ l[i].1 = 1 ∨ l[i].1 = 4) → l[i].2.1 ≤ l[i].2.2.1) := HFL.out _ (List.getElem_mem hlt)
      generalize l[i] = x at x0 x1 x2 x3 HX HFIT
      obtain ⟨d, lo, hi, v⟩ := x
      simp only at x0 x1 x2 x3 HFIT
      have HL := hid hlt
      have hW1 : Below wr.heap.size wr (((wr.alloc (.cells #[.int .i64 d, .int .i64 lo, .int .i64 hi, .int .i64 v] 25)).alloc (.cells #[.int .i64 0, .int .i64 0, .int .i64 0, .bool false, .slice none 0 0, .int .i64 0] 32)).alloc (.cells #[.int .i64 0, .int .i64 0, .int .i64 0] 74)) := (((Below.refl _ _).alloc (Nat.le_refl _) _).alloc (by simp) _).alloc (by simp; omega) _
      have h8 := Blk.new (wr.alloc (.cells #[.int .i64 d, .int .i64 lo, .int .i64 hi, .int .i64 v] 25)) (F8 0 0 0 false (.slice none 0 0) 0) 32
      have h9 := Blk.new ((wr.alloc (.cells #[.int .i64 d, .int .i64 lo, .int .i64 hi, .int .i64 v] 25)).alloc (.cells (F8 0 0 0 false (.slice none 0 0) 0) 32)) (kvc ⟨0, 0, 0⟩) 74
      rw [alloc_size] at h8
      rw [alloc_size, alloc_size] at h9
      have H2 := hid (St.start HI.out.1 hW1 (h8.alloc _) h9)
      clear hW1 h8 h9
      have HLT := hid HI.out.1.tree.lt
      have HZ := hid HI.out.2
      obtain ⟨k1, rfl⟩ : ∃ k1, gk = k1 + 1 := ⟨gk - 1, by have := HG.out; omega⟩
      have HEV : Hid (t.raw.tall ≤ 4294950000 ∧ t.raw.size ≤ 1099511627776) := by
        have h2 := HZ.out.2.2.2
        have h1 := even_low HI.out.1.tree.good.good.even (by omega)
        exact ⟨by omega, by omega⟩
      clear hlt
      by_cases h0 : d = 0
      · subst h0
        go_wp2_with fail
        generalize ((wr.alloc (.cells #[.int .i64 0, .int .i64 lo, .int .i64 hi, .int .i64 v] 25)).alloc (.cells #[.int .i64 0, .int .i64 0, .int .i64 0, .bool false, .slice none 0 0, .int .i64 0] 32)).alloc (.cells #[.int .i64 0, .int .i64 0, .int .i64 0] 74) = W3 at H2 ⊢
        refine (tPut_any base R t lo hi v (HFIT.out (by simp)) W3 H2.out.tree (by have := HEV.out; omega)).mono ?_
        intro e w2 hT
        obtain ⟨t', rfl, hraw, hS⟩ := H2.out.turned hT
        clear hT
        have HS : Hid (t'.raw = stepT t.raw (0, lo, hi, v) ∧ tellT t.raw (0, lo, hi, v) = (tri (T.ins ⟨lo, hi, v⟩ true t.raw).2.1, (T.ins ⟨lo, hi, v⟩ true t.raw).2.2, [], 0)) := ⟨hraw, rfl⟩
        have H2' := hid hS
        clear hraw hS H2
        generalize T.ins ⟨lo, hi, v⟩ true t.raw = res at HS H2' ⊢
        obtain ⟨r1, kv, ok⟩ := res
        simp only at HS ⊢
        have g0 : w2.cell? ⟨wr.heap.size + 1 + 1, 0, none⟩ = some (.int .i64 0) := H2'.out.x9.cell 0
        have q0 : w2.frozen? ⟨wr.heap.size + 1 + 1, 0, none⟩ = false := H2'.out.x9.free 0
        have g1 : w2.cell? ⟨wr.heap.size + 1 + 1, 1, none⟩ = some (.int .i64 0) := H2'.out.x9.cell 1
        have q1 : w2.frozen? ⟨wr.heap.size + 1 + 1, 1, none⟩ = false := H2'.out.x9.free 1
        have g2 : w2.cell? ⟨wr.heap.size + 1 + 1, 2, none⟩ = some (.int .i64 0) := H2'.out.x9.cell 2
        have q2 : w2.frozen? ⟨wr.heap.size + 1 + 1, 2, none⟩ = false := H2'.out.x9.free 2
        have e3 : w2.cell? ⟨wr.heap.size + 1, 3, none⟩ = some (.bool false) := H2'.out.x8.cell 3
        have f3 : w2.frozen? ⟨wr.heap.size + 1, 3, none⟩ = false := H2'.out.x8.free 3
        go_upto_region 28 with fail
        clear g0 g1 g2 q0 q1 q2 e3 f3
        have H9 := hid (H2'.out.to9 (W1 := box3 w2 (wr.heap.size + 1 + 1) kv) fr_box3 (blk_box3 H2'.out.x9))
        have H3 : Hid (St base R wr.heap.size t0 w t' u5 rs (F8 0 0 0 ok (.slice none 0 0) 0) kv (.slice none 0 0) [] ((box3 w2 (wr.heap.size + 1 + 1) kv).setCell ⟨wr.heap.size + 1, 3, none⟩ (.bool ok))) := H9.out.to8 Fr.one (H9.out.x8.set 3 _)
        clear H2' H9
        change Code.wp _ _ _ _ ((box3 w2 (wr.heap.size + 1 + 1) kv).setCell ⟨wr.heap.size + 1, 3, none⟩ (.bool ok))
        generalize (box3 w2 (wr.heap.size + 1 + 1) kv).setCell ⟨wr.heap.size + 1, 3, none⟩ (.bool ok) = w3 at H3 ⊢
        have g0 : w3.cell? ⟨wr.heap.size + 1 + 1, 0, none⟩ = some (.int .i64 kv.lo) := H3.out.x9.cell 0
        have g1 : w3.cell? ⟨wr.heap.size + 1 + 1, 1, none⟩ = some (.int .i64 kv.hi) := H3.out.x9.cell 1
        have g2 : w3.cell? ⟨wr.heap.size + 1 + 1, 2, none⟩ = some (.int .i64 kv.v) := H3.out.x9.cell 2
        go_wp2_with fail
        refine (span_any (kv).lo (kv).hi (kv).v w3).mono ?_
        rintro e w4 ⟨rfl, hb⟩
        have H4 := hid (H3.out.below hb)
        clear hb H3 g0 g1 g2
        have e0 : w4.cell? ⟨wr.heap.size + 1, 0, none⟩ = some (.int .i64 0) := H4.out.x8.cell 0
        have e1 : w4.cell? ⟨wr.heap.size + 1, 1, none⟩ = some (.int .i64 0) := H4.out.x8.cell 1
        have e2 : w4.cell? ⟨wr.heap.size + 1, 2, none⟩ = some (.int .i64 0) := H4.out.x8.cell 2
        have e3 : w4.cell? ⟨wr.heap.size + 1, 3, none⟩ = some (.bool ok) := H4.out.x8.cell 3
        have e4 : w4.cell? ⟨wr.heap.size + 1, 4, none⟩ = some (.slice none 0 0) := H4.out.x8.cell 4
        have e5 : w4.cell? ⟨wr.heap.size + 1, 5, none⟩ = some (.int .i64 0) := H4.out.x8.cell 5
        have f0 : w4.frozen? ⟨wr.heap.size + 1, 0, none⟩ = false := H4.out.x8.free 0
        have f1 : w4.frozen? ⟨wr.heap.size + 1, 1, none⟩ = false := H4.out.x8.free 1
        have f2 : w4.frozen? ⟨wr.heap.size + 1, 2, none⟩ = false := H4.out.x8.free 2
        have HF4 : Hid (Fr (· = wr.heap.size + 1) w4 (((w4.setCell ⟨wr.heap.size + 1, 0, none⟩ (.int .i64 kv.lo)).setCell ⟨wr.heap.size + 1, 1, none⟩ (.int .i64 kv.hi)).setCell ⟨wr.heap.size + 1, 2, none⟩ (.int .i64 kv.v))) := (Fr.one.then Fr.one).then Fr.one
        have H5 := hid (H4.out.to8 HF4.out (((H4.out.x8.set 0 (.int .i64 kv.lo)).set 1 (.int .i64 kv.hi)).set 2 (.int .i64 kv.v)))
        go_upto_region 29 with fail
        clear e0 e1 e2 e3 e4 e5 f0 f1 f2 HF4 H4
        replace H5 : Hid (St base R wr.heap.size t0 w t' u5 rs (F8 (kv).lo (kv).hi (kv).v ok (.slice none 0 0) (0)) (kv) (.slice none 0 0) ([]) (((w4.setCell ⟨wr.heap.size + 1, 0, none⟩ (.int .i64 kv.lo)).setCell ⟨wr.heap.size + 1, 1, none⟩ (.int .i64 kv.hi)).setCell ⟨wr.heap.size + 1, 2, none⟩ (.int .i64 kv.v))) := H5
        generalize ((w4.setCell ⟨wr.heap.size + 1, 0, none⟩ (.int .i64 kv.lo)).setCell ⟨wr.heap.size + 1, 1, none⟩ (.int .i64 kv.hi)).setCell ⟨wr.heap.size + 1, 2, none⟩ (.int .i64 kv.v) = w5 at H5 ⊢
        have e0 : w5.cell? ⟨wr.heap.size + 1, 0, none⟩ = some (.int .i64 kv.lo) := H5.out.x8.cell 0
        have e1 : w5.cell? ⟨wr.heap.size + 1, 1, none⟩ = some (.int .i64 kv.hi) := H5.out.x8.cell 1
        have e2 : w5.cell? ⟨wr.heap.size + 1, 2, none⟩ = some (.int .i64 kv.v) := H5.out.x8.cell 2
        have e3 : w5.cell? ⟨wr.heap.size + 1, 3, none⟩ = some (.bool ok) := H5.out.x8.cell 3
        have e4 : w5.cell? ⟨wr.heap.size + 1, 4, none⟩ = some (.slice none 0 0) := H5.out.x8.cell 4
        have e5 : w5.cell? ⟨wr.heap.size + 1, 5, none⟩ = some (.int .i64 0) := H5.out.x8.cell 5
        have HM := hid (found_M (base := w.heap.size) (ok' := fun k_ => some k_ = Value.ownBlock (.slice none 0 0)) (by have := H5.out.sz; omega) H5.out.kr (fun k_ hk => hk.symm) (kv).lo (kv).hi (kv).v ok (0))
        go_wp2_with (first | (at_builtin; go_loud (refine Kd.S_append foundK (w0 := w5) (W := w5) w.heap.size rfl (.tmp 107) (.tmp 109) 26 32 (.agg #[.int .i64 0, .int .i64 0, .int .i64 0, .bool false, .slice none 0 0, .int .i64 0]) 64 rfl und26 infoFound rfl (by decide) (by omega) u5 rs (tri (kv), ok, [], 0) [.int .i64 kv.lo, .int .i64 kv.hi, .int .i64 kv.v, .bool ok, .slice none 0 0, .int .i64 0] (fun b => b ≠ R ∧ b ∉ t'.ids) (fun k_ => some k_ = Value.ownBlock (.slice none 0 0)) rfl rfl HM.out (fun k_ hk => H5.out.okp k_ hk.symm) ?aF ?aO (Below.refl _ _) (Nat.le_trans H5.out.sz (Nat.le_trans (by omega) H5.out.big)) ?aL ?_; (case aF => exact fun k_ hk => ⟨by have := H5.out.rlt; have := H5.out.big; omega, fun hb_ => by have := H5.out.tree.lt.2 _ hb_; omega⟩); (case aO => exact Kd.S_mono H5.out.row (fun k_ hk => ⟨hk.1, fun e_ => by have h1_ := (H5.out.krow k_ e_.symm).1; have h2_ := hk.2; omega⟩)); (case aL => have h1_ := HZ.out.1; have h2_ := HL.out; omega); intro v1 w6 ho hb hg hat; have H6 := hid (H5.out.append ho hg); clear ho hb hg hat)))
        clear e0 e1 e2 e3 e4 e5 HM H5
        go_roundg k1
        case measure => omega
        case rel => exact ⟨i + 1, t', rs ++ [(tri (kv), ok, [], 0)], rfl, HL.out, by have := HG.out; show k1 + (i + 1) = _; omega, H6.out, by rw [List.length_append, HZ.out.1]; rfl, by rw [← HZ.out.2.1, HX.out, List.append_assoc]; show _ = rs ++ (tellT t.raw _ :: toldT (stepT t.raw _) _); rw [← HS.out.1, HS.out.2]; rfl, by rw [← HZ.out.2.2.1, HX.out]; show _ = runT (stepT t.raw _) _; rw [← HS.out.1], by rw [HS.out.1]; have h1 := size_step t.raw (0, lo, hi, v); have h2_ := HZ.out.2.2.2; have h3_ := HL.out; omega⟩
      · by_cases h1 : d = 1
        · subst h1
          go_wp2_with fail
          generalize ((wr.alloc (.cells #[.int .i64 1, .int .i64 lo, .int .i64 hi, .int .i64 v] 25)).alloc (.cells #[.int .i64 0, .int .i64 0, .int .i64 0, .bool false, .slice none 0 0, .int .i64 0] 32)).alloc (.cells #[.int .i64 0, .int .i64 0, .int .i64 0] 74) = W3 at H2 ⊢
          refine (tAdd_any base R t lo hi v (HFIT.out (by simp)) W3 H2.out.tree (by have := HEV.out; omega)).mono ?_
          intro e w2 hT
          obtain ⟨t', rfl, hraw, hS⟩ := H2.out.turned hT
          clear hT
          have HS : Hid (t'.raw = stepT t.raw (1, lo, hi, v) ∧ tellT t.raw (1, lo, hi, v) = (tri (T.ins ⟨lo, hi, v⟩ false t.raw).2.1, (T.ins ⟨lo, hi, v⟩ false t.raw).2.2, [], 0)) := ⟨hraw, rfl⟩
          have H2' := hid hS
          clear hraw hS H2
          generalize T.ins ⟨lo, hi, v⟩ false t.raw = res at HS H2' ⊢
          obtain ⟨r1, kv, ok⟩ := res
          simp only at HS ⊢
          have g0 : w2.cell? ⟨wr.heap.size + 1 + 1, 0, none⟩ = some (.int .i64 0) := H2'.out.x9.cell 0
          have q0 : w2.frozen? ⟨wr.heap.size + 1 + 1, 0, none⟩ = false := H2'.out.x9.free 0
          have g1 : w2.cell? ⟨wr.heap.size + 1 + 1, 1, none⟩ = some (.int .i64 0) := H2'.out.x9.cell 1
          have q1 : w2.frozen? ⟨wr.heap.size + 1 + 1, 1, none⟩ = false := H2'.out.x9.free 1
          have g2 : w2.cell? ⟨wr.heap.size + 1 + 1, 2, none⟩ = some (.int .i64 0) := H2'.out.x9.cell 2
          have q2 : w2.frozen? ⟨wr.heap.size + 1 + 1, 2, none⟩ = false := H2'.out.x9.free 2
          have e3 : w2.cell? ⟨wr.heap.size + 1, 3, none⟩ = some (.bool false) := H2'.out.x8.cell 3
          have f3 : w2.frozen? ⟨wr.heap.size + 1, 3, none⟩ = false := H2'.out.x8.free 3
          go_upto_region 28 with fail
          clear g0 g1 g2 q0 q1 q2 e3 f3
          have H9 := hid (H2'.out.to9 (W1 := box3 w2 (wr.heap.size + 1 + 1) kv) fr_box3 (blk_box3 H2'.out.x9))
          have H3 : Hid (St base R wr.heap.size t0 w t' u5 rs (F8 0 0 0 ok (.slice none 0 0) 0) kv (.slice none 0 0) [] ((box3 w2 (wr.heap.size + 1 + 1) kv).setCell ⟨wr.heap.size + 1, 3, none⟩ (.bool ok))) := H9.out.to8 Fr.one (H9.out.x8.set 3 _)
          clear H2' H9
          change Code.wp _ _ _ _ ((box3 w2 (wr.heap.size + 1 + 1) kv).setCell ⟨wr.heap.size + 1, 3, none⟩ (.bool ok))
          generalize (box3 w2 (wr.heap.size + 1 + 1) kv).setCell ⟨wr.heap.size + 1, 3, none⟩ (.bool ok) = w3 at H3 ⊢
          have g0 : w3.cell? ⟨wr.heap.size + 1 + 1, 0, none⟩ = some (.int .i64 kv.lo) := H3.out.x9.cell 0
          have g1 : w3.cell? ⟨wr.heap.size + 1 + 1, 1, none⟩ = some (.int .i64 kv.hi) := H3.out.x9.cell 1
          have g2 : w3.cell? ⟨wr.heap.size + 1 + 1, 2, none⟩ = some (.int .i64 kv.v) := H3.out.x9.cell 2
          go_wp2_with fail
          refine (span_any (kv).lo (kv).hi (kv).v w3).mono ?_
          rintro e w4 ⟨rfl, hb⟩
          have H4 := hid (H3.out.below hb)
          clear hb H3 g0 g1 g2
          have e0 : w4.cell? ⟨wr.heap.size + 1, 0, none⟩ = some (.int .i64 0) := H4.out.x8.cell 0
          have e1 : w4.cell? ⟨wr.heap.size + 1, 1, none⟩ = some (.int .i64 0) := H4.out.x8.cell 1
          have e2 : w4.cell? ⟨wr.heap.size + 1, 2, none⟩ = some (.int .i64 0) := H4.out.x8.cell 2
          have e3 : w4.cell? ⟨wr.heap.size + 1, 3, none⟩ = some (.bool ok) := H4.out.x8.cell 3
          have e4 : w4.cell? ⟨wr.heap.size + 1, 4, none⟩ = some (.slice none 0 0) := H4.out.x8.cell 4
          have e5 : w4.cell? ⟨wr.heap.size + 1, 5, none⟩ = some (.int .i64 0) := H4.out.x8.cell 5
          have f0 : w4.frozen? ⟨wr.heap.size + 1, 0, none⟩ = false := H4.out.x8.free 0
          have f1 : w4.frozen? ⟨wr.heap.size + 1, 1, none⟩ = false := H4.out.x8.free 1
          have f2 : w4.frozen? ⟨wr.heap.size + 1, 2, none⟩ = false := H4.out.x8.free 2
          have HF4 : Hid (Fr (· = wr.heap.size + 1) w4 (((w4.setCell ⟨wr.heap.size + 1, 0, none⟩ (.int .i64 kv.lo)).setCell ⟨wr.heap.size + 1, 1, none⟩ (.int .i64 kv.hi)).setCell ⟨wr.heap.size + 1, 2, none⟩ (.int .i64 kv.v))) := (Fr.one.then Fr.one).then Fr.one
          have H5 := hid (H4.out.to8 HF4.out (((H4.out.x8.set 0 (.int .i64 kv.lo)).set 1 (.int .i64 kv.hi)).set 2 (.int .i64 kv.v)))
          go_upto_region 29 with fail
          clear e0 e1 e2 e3 e4 e5 f0 f1 f2 HF4 H4
          replace H5 : Hid (St base R wr.heap.size t0 w t' u5 rs (F8 (kv).lo (kv).hi (kv).v ok (.slice none 0 0) (0)) (kv) (.slice none 0 0) ([]) (((w4.setCell ⟨wr.heap.size + 1, 0, none⟩ (.int .i64 kv.lo)).setCell ⟨wr.heap.size + 1, 1, none⟩ (.int .i64 kv.hi)).setCell ⟨wr.heap.size + 1, 2, none⟩ (.int .i64 kv.v))) := H5
          generalize ((w4.setCell ⟨wr.heap.size + 1, 0, none⟩ (.int .i64 kv.lo)).setCell ⟨wr.heap.size + 1, 1, none⟩ (.int .i64 kv.hi)).setCell ⟨wr.heap.size + 1, 2, none⟩ (.int .i64 kv.v) = w5 at H5 ⊢
          have e0 : w5.cell? ⟨wr.heap.size + 1, 0, none⟩ = some (.int .i64 kv.lo) := H5.out.x8.cell 0
          have e1 : w5.cell? ⟨wr.heap.size + 1, 1, none⟩ = some (.int .i64 kv.hi) := H5.out.x8.cell 1
          have e2 : w5.cell? ⟨wr.heap.size + 1, 2, none⟩ = some (.int .i64 kv.v) := H5.out.x8.cell 2
          have e3 : w5.cell? ⟨wr.heap.size + 1, 3, none⟩ = some (.bool ok) := H5.out.x8.cell 3
          have e4 : w5.cell? ⟨wr.heap.size + 1, 4, none⟩ = some (.slice none 0 0) := H5.out.x8.cell 4
          have e5 : w5.cell? ⟨wr.heap.size + 1, 5, none⟩ = some (.int .i64 0) := H5.out.x8.cell 5
          have HM := hid (found_M (base := w.heap.size) (ok' := fun k_ => some k_ = Value.ownBlock (.slice none 0 0)) (by have := H5.out.sz; omega) H5.out.kr (fun k_ hk => hk.symm) (kv).lo (kv).hi (kv).v ok (0))
          go_wp2_with (first | (at_builtin; go_loud (refine Kd.S_append foundK (w0 := w5) (W := w5) w.heap.size rfl (.tmp 107) (.tmp 109) 26 32 (.agg #[.int .i64 0, .int .i64 0, .int .i64 0, .bool false, .slice none 0 0, .int .i64 0]) 64 rfl und26 infoFound rfl (by decide) (by omega) u5 rs (tri (kv), ok, [], 0) [.int .i64 kv.lo, .int .i64 kv.hi, .int .i64 kv.v, .bool ok, .slice none 0 0, .int .i64 0] (fun b => b ≠ R ∧ b ∉ t'.ids) (fun k_ => some k_ = Value.ownBlock (.slice none 0 0)) rfl rfl HM.out (fun k_ hk => H5.out.okp k_ hk.symm) ?aF ?aO (Below.refl _ _) (Nat.le_trans H5.out.sz (Nat.le_trans (by omega) H5.out.big)) ?aL ?_; (case aF => exact fun k_ hk => ⟨by have := H5.out.rlt; have := H5.out.big; omega, fun hb_ => by have := H5.out.tree.lt.2 _ hb_; omega⟩); (case aO => exact Kd.S_mono H5.out.row (fun k_ hk => ⟨hk.1, fun e_ => by have h1_ := (H5.out.krow k_ e_.symm).1; have h2_ := hk.2; omega⟩)); (case aL => have h1_ := HZ.out.1; have h2_ := HL.out; omega); intro v1 w6 ho hb hg hat; have H6 := hid (H5.out.append ho hg); clear ho hb hg hat)))
          clear e0 e1 e2 e3 e4 e5 HM H5
          go_roundg k1
          case measure => omega
          case rel => exact ⟨i + 1, t', rs ++ [(tri (kv), ok, [], 0)], rfl, HL.out, by have := HG.out; show k1 + (i + 1) = _; omega, H6.out, by rw [List.length_append, HZ.out.1]; rfl, by rw [← HZ.out.2.1, HX.out, List.append_assoc]; show _ = rs ++ (tellT t.raw _ :: toldT (stepT t.raw _) _); rw [← HS.out.1, HS.out.2]; rfl, by rw [← HZ.out.2.2.1, HX.out]; show _ = runT (stepT t.raw _) _; rw [← HS.out.1], by rw [HS.out.1]; have h1 := size_step t.raw (1, lo, hi, v); have h2_ := HZ.out.2.2.2; have h3_ := HL.out; omega⟩
        · by_cases h2 : d = 2
          · subst h2
            go_wp2_with fail
            generalize ((wr.alloc (.cells #[.int .i64 2, .int .i64 lo, .int .i64 hi, .int .i64 v] 25)).alloc (.cells #[.int .i64 0, .int .i64 0, .int .i64 0, .bool false, .slice none 0 0, .int .i64 0] 32)).alloc (.cells #[.int .i64 0, .int .i64 0, .int .i64 0] 74) = W3 at H2 ⊢
            refine (tRemove_any base R t lo W3 H2.out.tree (by have := HEV.out; omega)).mono ?_
            intro e w2 hT
            obtain ⟨t', rfl, hraw, hS⟩ := H2.out.turned hT
            clear hT
            have HS : Hid (t'.raw = stepT t.raw (2, lo, hi, v) ∧ tellT t.raw (2, lo, hi, v) = (tri (T.rem t.raw lo).2.1, (T.rem t.raw lo).2.2, [], 0)) := ⟨hraw, rfl⟩
            have H2' := hid hS
            clear hraw hS H2
            generalize T.rem t.raw lo = res at HS H2' ⊢
            obtain ⟨r1, kv, ok⟩ := res
            simp only at HS ⊢
            have g0 : w2.cell? ⟨wr.heap.size + 1 + 1, 0, none⟩ = some (.int .i64 0) := H2'.out.x9.cell 0
            have q0 : w2.frozen? ⟨wr.heap.size + 1 + 1, 0, none⟩ = false := H2'.out.x9.free 0
            have g1 : w2.cell? ⟨wr.heap.size + 1 + 1, 1, none⟩ = some (.int .i64 0) := H2'.out.x9.cell 1
            have q1 : w2.frozen? ⟨wr.heap.size + 1 + 1, 1, none⟩ = false := H2'.out.x9.free 1
            have g2 : w2.cell? ⟨wr.heap.size + 1 + 1, 2, none⟩ = some (.int .i64 0) := H2'.out.x9.cell 2
            have q2 : w2.frozen? ⟨wr.heap.size + 1 + 1, 2, none⟩ = false := H2'.out.x9.free 2
            have e3 : w2.cell? ⟨wr.heap.size + 1, 3, none⟩ = some (.bool false) := H2'.out.x8.cell 3
            have f3 : w2.frozen? ⟨wr.heap.size + 1, 3, none⟩ = false := H2'.out.x8.free 3
            go_upto_region 28 with fail
            clear g0 g1 g2 q0 q1 q2 e3 f3
            have H9 := hid (H2'.out.to9 (W1 := box3 w2 (wr.heap.size + 1 + 1) kv) fr_box3 (blk_box3 H2'.out.x9))
            have H3 : Hid (St base R wr.heap.size t0 w t' u5 rs (F8 0 0 0 ok (.slice none 0 0) 0) kv (.slice none 0 0) [] ((box3 w2 (wr.heap.size + 1 + 1) kv).setCell ⟨wr.heap.size + 1, 3, none⟩ (.bool ok))) := H9.out.to8 Fr.one (H9.out.x8.set 3 _)
            clear H2' H9
            change Code.wp _ _ _ _ ((box3 w2 (wr.heap.size + 1 + 1) kv).setCell ⟨wr.heap.size + 1, 3, none⟩ (.bool ok))
            generalize (box3 w2 (wr.heap.size + 1 + 1) kv).setCell ⟨wr.heap.size + 1, 3, none⟩ (.bool ok) = w3 at H3 ⊢
            have g0 : w3.cell? ⟨wr.heap.size + 1 + 1, 0, none⟩ = some (.int .i64 kv.lo) := H3.out.x9.cell 0
            have g1 : w3.cell? ⟨wr.heap.size + 1 + 1, 1, none⟩ = some (.int .i64 kv.hi) := H3.out.x9.cell 1
            have g2 : w3.cell? ⟨wr.heap.size + 1 + 1, 2, none⟩ = some (.int .i64 kv.v) := H3.out.x9.cell 2
            go_wp2_with fail
            refine (span_any (kv).lo (kv).hi (kv).v w3).mono ?_
            rintro e w4 ⟨rfl, hb⟩
            have H4 := hid (H3.out.below hb)
            clear hb H3 g0 g1 g2
            have e0 : w4.cell? ⟨wr.heap.size + 1, 0, none⟩ = some (.int .i64 0) := H4.out.x8.cell 0
            have e1 : w4.cell? ⟨wr.heap.size + 1, 1, none⟩ = some (.int .i64 0) := H4.out.x8.cell 1
            have e2 : w4.cell? ⟨wr.heap.size + 1, 2, none⟩ = some (.int .i64 0) := H4.out.x8.cell 2
            have e3 : w4.cell? ⟨wr.heap.size + 1, 3, none⟩ = some (.bool ok) := H4.out.x8.cell 3
            have e4 : w4.cell? ⟨wr.heap.size + 1, 4, none⟩ = some (.slice none 0 0) := H4.out.x8.cell 4
            have e5 : w4.cell? ⟨wr.heap.size + 1, 5, none⟩ = some (.int .i64 0) := H4.out.x8.cell 5
            have f0 : w4.frozen? ⟨wr.heap.size + 1, 0, none⟩ = false := H4.out.x8.free 0
            have f1 : w4.frozen? ⟨wr.heap.size + 1, 1, none⟩ = false := H4.out.x8.free 1
            have f2 : w4.frozen? ⟨wr.heap.size + 1, 2, none⟩ = false := H4.out.x8.free 2
            have HF4 : Hid (Fr (· = wr.heap.size + 1) w4 (((w4.setCell ⟨wr.heap.size + 1, 0, none⟩ (.int .i64 kv.lo)).setCell ⟨wr.heap.size + 1, 1, none⟩ (.int .i64 kv.hi)).setCell ⟨wr.heap.size + 1, 2, none⟩ (.int .i64 kv.v))) := (Fr.one.then Fr.one).then Fr.one
            have H5 := hid (H4.out.to8 HF4.out (((H4.out.x8.set 0 (.int .i64 kv.lo)).set 1 (.int .i64 kv.hi)).set 2 (.int .i64 kv.v)))
            go_upto_region 29 with fail
            clear e0 e1 e2 e3 e4 e5 f0 f1 f2 HF4 H4
            replace H5 : Hid (St base R wr.heap.size t0 w t' u5 rs (F8 (kv).lo (kv).hi (kv).v ok (.slice none 0 0) (0)) (kv) (.slice none 0 0) ([]) (((w4.setCell ⟨wr.heap.size + 1, 0, none⟩ (.int .i64 kv.lo)).setCell ⟨wr.heap.size + 1, 1, none⟩ (.int .i64 kv.hi)).setCell ⟨wr.heap.size + 1, 2, none⟩ (.int .i64 kv.v))) := H5
            generalize ((w4.setCell ⟨wr.heap.size + 1, 0, none⟩ (.int .i64 kv.lo)).setCell ⟨wr.heap.size + 1, 1, none⟩ (.int .i64 kv.hi)).setCell ⟨wr.heap.size + 1, 2, none⟩ (.int .i64 kv.v) = w5 at H5 ⊢
            have e0 : w5.cell? ⟨wr.heap.size + 1, 0, none⟩ = some (.int .i64 kv.lo) := H5.out.x8.cell 0
            have e1 : w5.cell? ⟨wr.heap.size + 1, 1, none⟩ = some (.int .i64 kv.hi) := H5.out.x8.cell 1
            have e2 : w5.cell? ⟨wr.heap.size + 1, 2, none⟩ = some (.int .i64 kv.v) := H5.out.x8.cell 2
            have e3 : w5.cell? ⟨wr.heap.size + 1, 3, none⟩ = some (.bool ok) := H5.out.x8.cell 3
            have e4 : w5.cell? ⟨wr.heap.size + 1, 4, none⟩ = some (.slice none 0 0) := H5.out.x8.cell 4
            have e5 : w5.cell? ⟨wr.heap.size + 1, 5, none⟩ = some (.int .i64 0) := H5.out.x8.cell 5
            have HM := hid (found_M (base := w.heap.size) (ok' := fun k_ => some k_ = Value.ownBlock (.slice none 0 0)) (by have := H5.out.sz; omega) H5.out.kr (fun k_ hk => hk.symm) (kv).lo (kv).hi (kv).v ok (0))
            go_wp2_with (first | (at_builtin; go_loud (refine Kd.S_append foundK (w0 := w5) (W := w5) w.heap.size rfl (.tmp 107) (.tmp 109) 26 32 (.agg #[.int .i64 0, .int .i64 0, .int .i64 0, .bool false, .slice none 0 0, .int .i64 0]) 64 rfl und26 infoFound rfl (by decide) (by omega) u5 rs (tri (kv), ok, [], 0) [.int .i64 kv.lo, .int .i64 kv.hi, .int .i64 kv.v, .bool ok, .slice none 0 0, .int .i64 0] (fun b => b ≠ R ∧ b ∉ t'.ids) (fun k_ => some k_ = Value.ownBlock (.slice none 0 0)) rfl rfl HM.out (fun k_ hk => H5.out.okp k_ hk.symm) ?aF ?aO (Below.refl _ _) (Nat.le_trans H5.out.sz (Nat.le_trans (by omega) H5.out.big)) ?aL ?_; (case aF => exact fun k_ hk => ⟨by have := H5.out.rlt; have := H5.out.big; omega, fun hb_ => by have := H5.out.tree.lt.2 _ hb_; omega⟩); (case aO => exact Kd.S_mono H5.out.row (fun k_ hk => ⟨hk.1, fun e_ => by have h1_ := (H5.out.krow k_ e_.symm).1; have h2_ := hk.2; omega⟩)); (case aL => have h1_ := HZ.out.1; have h2_ := HL.out; omega); intro v1 w6 ho hb hg hat; have H6 := hid (H5.out.append ho hg); clear ho hb hg hat)))
            clear e0 e1 e2 e3 e4 e5 HM H5
            go_roundg k1
            case measure => omega
            case rel => exact ⟨i + 1, t', rs ++ [(tri (kv), ok, [], 0)], rfl, HL.out, by have := HG.out; show k1 + (i + 1) = _; omega, H6.out, by rw [List.length_append, HZ.out.1]; rfl, by rw [← HZ.out.2.1, HX.out, List.append_assoc]; show _ = rs ++ (tellT t.raw _ :: toldT (stepT t.raw _) _); rw [← HS.out.1, HS.out.2]; rfl, by rw [← HZ.out.2.2.1, HX.out]; show _ = runT (stepT t.raw _) _; rw [← HS.out.1], by rw [HS.out.1]; have h1 := size_step t.raw (2, lo, hi, v); have h2_ := HZ.out.2.2.2; have h3_ := HL.out; omega⟩
          · by_cases h3 : d = 3
            · subst h3
              go_wp2_with fail
              generalize ((wr.alloc (.cells #[.int .i64 3, .int .i64 lo, .int .i64 hi, .int .i64 v] 25)).alloc (.cells #[.int .i64 0, .int .i64 0, .int .i64 0, .bool false, .slice none 0 0, .int .i64 0] 32)).alloc (.cells #[.int .i64 0, .int .i64 0, .int .i64 0] 74) = W3 at H2 ⊢
              refine (tGet_any base R t lo W3 H2.out.tree).mono ?_
              rintro e w2 ⟨rfl, hb⟩
              have H2' := hid (H2.out.below hb)
              have HS : Hid (t.raw = stepT t.raw (3, lo, hi, v) ∧ tellT t.raw (3, lo, hi, v) = (tri ((T.find lo t.raw).getD ⟨0, 0, 0⟩), (T.find lo t.raw).isSome, [], 0)) := ⟨rfl, rfl⟩
              clear hb H2
              generalize (T.find lo t.raw).getD ⟨0, 0, 0⟩ = kv at HS ⊢
              generalize (T.find lo t.raw).isSome = ok at HS ⊢
              have g0 : w2.cell? ⟨wr.heap.size + 1 + 1, 0, none⟩ = some (.int .i64 0) := H2'.out.x9.cell 0
              have q0 : w2.frozen? ⟨wr.heap.size + 1 + 1, 0, none⟩ = false := H2'.out.x9.free 0
              have g1 : w2.cell? ⟨wr.heap.size + 1 + 1, 1, none⟩ = some (.int .i64 0) := H2'.out.x9.cell 1
              have q1 : w2.frozen? ⟨wr.heap.size + 1 + 1, 1, none⟩ = false := H2'.out.x9.free 1
              have g2 : w2.cell? ⟨wr.heap.size + 1 + 1, 2, none⟩ = some (.int .i64 0) := H2'.out.x9.cell 2
              have q2 : w2.frozen? ⟨wr.heap.size + 1 + 1, 2, none⟩ = false := H2'.out.x9.free 2
              have e3 : w2.cell? ⟨wr.heap.size + 1, 3, none⟩ = some (.bool false) := H2'.out.x8.cell 3
              have f3 : w2.frozen? ⟨wr.heap.size + 1, 3, none⟩ = false := H2'.out.x8.free 3
              go_upto_region 28 with fail
              clear g0 g1 g2 q0 q1 q2 e3 f3
              have H9 := hid (H2'.out.to9 (W1 := box3 w2 (wr.heap.size + 1 + 1) kv) fr_box3 (blk_box3 H2'.out.x9))
              have H3 : Hid (St base R wr.heap.size t0 w t u5 rs (F8 0 0 0 ok (.slice none 0 0) 0) kv (.slice none 0 0) [] ((box3 w2 (wr.heap.size + 1 + 1) kv).setCell ⟨wr.heap.size + 1, 3, none⟩ (.bool ok))) := H9.out.to8 Fr.one (H9.out.x8.set 3 _)
              clear H2' H9
              change Code.wp _ _ _ _ ((box3 w2 (wr.heap.size + 1 + 1) kv).setCell ⟨wr.heap.size + 1, 3, none⟩ (.bool ok))
              generalize (box3 w2 (wr.heap.size + 1 + 1) kv).setCell ⟨wr.heap.size + 1, 3, none⟩ (.bool ok) = w3 at H3 ⊢
              have g0 : w3.cell? ⟨wr.heap.size + 1 + 1, 0, none⟩ = some (.int .i64 kv.lo) := H3.out.x9.cell 0
              have g1 : w3.cell? ⟨wr.heap.size + 1 + 1, 1, none⟩ = some (.int .i64 kv.hi) := H3.out.x9.cell 1
              have g2 : w3.cell? ⟨wr.heap.size + 1 + 1, 2, none⟩ = some (.int .i64 kv.v) := H3.out.x9.cell 2
              go_wp2_with fail
              refine (span_any (kv).lo (kv).hi (kv).v w3).mono ?_
              rintro e w4 ⟨rfl, hb⟩
              have H4 := hid (H3.out.below hb)
              clear hb H3 g0 g1 g2
              have e0 : w4.cell? ⟨wr.heap.size + 1, 0, none⟩ = some (.int .i64 0) := H4.out.x8.cell 0
              have e1 : w4.cell? ⟨wr.heap.size + 1, 1, none⟩ = some (.int .i64 0) := H4.out.x8.cell 1
              have e2 : w4.cell? ⟨wr.heap.size + 1, 2, none⟩ = some (.int .i64 0) := H4.out.x8.cell 2
              have e3 : w4.cell? ⟨wr.heap.size + 1, 3, none⟩ = some (.bool ok) := H4.out.x8.cell 3
              have e4 : w4.cell? ⟨wr.heap.size + 1, 4, none⟩ = some (.slice none 0 0) := H4.out.x8.cell 4
              have e5 : w4.cell? ⟨wr.heap.size + 1, 5, none⟩ = some (.int .i64 0) := H4.out.x8.cell 5
              have f0 : w4.frozen? ⟨wr.heap.size + 1, 0, none⟩ = false := H4.out.x8.free 0
              have f1 : w4.frozen? ⟨wr.heap.size + 1, 1, none⟩ = false := H4.out.x8.free 1
              have f2 : w4.frozen? ⟨wr.heap.size + 1, 2, none⟩ = false := H4.out.x8.free 2
              have HF4 : Hid (Fr (· = wr.heap.size + 1) w4 (((w4.setCell ⟨wr.heap.size + 1, 0, none⟩ (.int .i64 kv.lo)).setCell ⟨wr.heap.size + 1, 1, none⟩ (.int .i64 kv.hi)).setCell ⟨wr.heap.size + 1, 2, none⟩ (.int .i64 kv.v))) := (Fr.one.then Fr.one).then Fr.one
              have H5 := hid (H4.out.to8 HF4.out (((H4.out.x8.set 0 (.int .i64 kv.lo)).set 1 (.int .i64 kv.hi)).set 2 (.int .i64 kv.v)))
              go_upto_region 29 with fail
              clear e0 e1 e2 e3 e4 e5 f0 f1 f2 HF4 H4
              replace H5 : Hid (St base R wr.heap.size t0 w t u5 rs (F8 (kv).lo (kv).hi (kv).v ok (.slice none 0 0) (0)) (kv) (.slice none 0 0) ([]) (((w4.setCell ⟨wr.heap.size + 1, 0, none⟩ (.int .i64 kv.lo)).setCell ⟨wr.heap.size + 1, 1, none⟩ (.int .i64 kv.hi)).setCell ⟨wr.heap.size + 1, 2, none⟩ (.int .i64 kv.v))) := H5
              generalize ((w4.setCell ⟨wr.heap.size + 1, 0, none⟩ (.int .i64 kv.lo)).setCell ⟨wr.heap.size + 1, 1, none⟩ (.int .i64 kv.hi)).setCell ⟨wr.heap.size + 1, 2, none⟩ (.int .i64 kv.v) = w5 at H5 ⊢
              have e0 : w5.cell? ⟨wr.heap.size + 1, 0, none⟩ = some (.int .i64 kv.lo) := H5.out.x8.cell 0
              have e1 : w5.cell? ⟨wr.heap.size + 1, 1, none⟩ = some (.int .i64 kv.hi) := H5.out.x8.cell 1
              have e2 : w5.cell? ⟨wr.heap.size + 1, 2, none⟩ = some (.int .i64 kv.v) := H5.out.x8.cell 2
              have e3 : w5.cell? ⟨wr.heap.size + 1, 3, none⟩ = some (.bool ok) := H5.out.x8.cell 3
              have e4 : w5.cell? ⟨wr.heap.size + 1, 4, none⟩ = some (.slice none 0 0) := H5.out.x8.cell 4
              have e5 : w5.cell? ⟨wr.heap.size + 1, 5, none⟩ = some (.int .i64 0) := H5.out.x8.cell 5
              have HM := hid (found_M (base := w.heap.size) (ok' := fun k_ => some k_ = Value.ownBlock (.slice none 0 0)) (by have := H5.out.sz; omega) H5.out.kr (fun k_ hk => hk.symm) (kv).lo (kv).hi (kv).v ok (0))
              go_wp2_with (first | (at_builtin; go_loud (refine Kd.S_append foundK (w0 := w5) (W := w5) w.heap.size rfl (.tmp 107) (.tmp 109) 26 32 (.agg #[.int .i64 0, .int .i64 0, .int .i64 0, .bool false, .slice none 0 0, .int .i64 0]) 64 rfl und26 infoFound rfl (by decide) (by omega) u5 rs (tri (kv), ok, [], 0) [.int .i64 kv.lo, .int .i64 kv.hi, .int .i64 kv.v, .bool ok, .slice none 0 0, .int .i64 0] (fun b => b ≠ R ∧ b ∉ t.ids) (fun k_ => some k_ = Value.ownBlock (.slice none 0 0)) rfl rfl HM.out (fun k_ hk => H5.out.okp k_ hk.symm) ?aF ?aO (Below.refl _ _) (Nat.le_trans H5.out.sz (Nat.le_trans (by omega) H5.out.big)) ?aL ?_; (case aF => exact fun k_ hk => ⟨by have := H5.out.rlt; have := H5.out.big; omega, fun hb_ => by have := H5.out.tree.lt.2 _ hb_; omega⟩); (case aO => exact Kd.S_mono H5.out.row (fun k_ hk => ⟨hk.1, fun e_ => by have h1_ := (H5.out.krow k_ e_.symm).1; have h2_ := hk.2; omega⟩)); (case aL => have h1_ := HZ.out.1; have h2_ := HL.out; omega); intro v1 w6 ho hb hg hat; have H6 := hid (H5.out.append ho hg); clear ho hb hg hat)))
              clear e0 e1 e2 e3 e4 e5 HM H5
              go_roundg k1
              case measure => omega
              case rel => exact ⟨i + 1, t, rs ++ [(tri (kv), ok, [], 0)], rfl, HL.out, by have := HG.out; show k1 + (i + 1) = _; omega, H6.out, by rw [List.length_append, HZ.out.1]; rfl, by rw [← HZ.out.2.1, HX.out, List.append_assoc]; show _ = rs ++ (tellT t.raw _ :: toldT (stepT t.raw _) _); rw [← HS.out.1, HS.out.2]; rfl, by rw [← HZ.out.2.2.1, HX.out]; show _ = runT (stepT t.raw _) _; rw [← HS.out.1], by rw [HS.out.1]; have h1 := size_step t.raw (3, lo, hi, v); have h2_ := HZ.out.2.2.2; have h3_ := HL.out; omega⟩
            · by_cases h4 : d = 4
              · subst h4
                go_wp2_with fail
                generalize ((wr.alloc (.cells #[.int .i64 4, .int .i64 lo, .int .i64 hi, .int .i64 v] 25)).alloc (.cells #[.int .i64 0, .int .i64 0, .int .i64 0, .bool false, .slice none 0 0, .int .i64 0] 32)).alloc (.cells #[.int .i64 0, .int .i64 0, .int .i64 0] 74) = W3 at H2 ⊢
                refine (tOverlaps_any base R t lo hi (HFIT.out (by simp)) W3 H2.out.tree (by have := HEV.out; omega)).mono ?_
                rintro e w2 ⟨V, rfl, hV, hb⟩
                have HS : Hid (t.raw = stepT t.raw (4, lo, hi, v) ∧ tellT t.raw (4, lo, hi, v) = (tri ⟨0, 0, 0⟩, false, (T.over lo hi t.raw).map tri, 0)) := ⟨rfl, rfl⟩
                have HXL : Hid (((T.over lo hi t.raw).map tri).length ≤ 1099511627776) := hid (by
                  have h1_ := over_le lo hi t.raw
                  have h2_ := HEV.out.2
                  rw [List.length_map]
                  omega)
                generalize (T.over lo hi t.raw).map tri = xs at hV HS HXL
                obtain ⟨AV, cV, rfl⟩ := Kd.R_slice hV
                have HV : Hid (Vr wr.heap.size (.slice AV xs.length cV) (.slice none 0 0) xs w2) := ⟨Kd.R_lower hV H2.out.big, fun k hk e => by simp [Value.ownBlock] at e⟩
                have H2' := hid (H2.out.below hb)
                clear hV hb H2
                obtain ⟨wq, rfl⟩ : ∃ wq, wq = wr := ⟨_, rfl⟩
                go_wp2_with fail
                go_loopg [77] xs.length (fun g v77 wr => ∃ (i2 : Nat) (K : Value), v77 = .int .i64 i2 ∧ i2 ≤ xs.length ∧ Hid (g + i2 = xs.length) ∧ Hid (St base R wq.heap.size t0 w t u5 rs (F8 0 0 0 false K 0) ⟨0, 0, 0⟩ K (xs.take i2) wr ∧ Vr wq.heap.size (.slice AV xs.length cV) K xs wr))
                case atStart => exact ⟨0, .slice none 0 0, rfl, Nat.zero_le _, Nat.add_zero _, H2'.out, HV.out⟩
                case round =>
                  obtain ⟨i2, K, rfl, hi2, HG2, HI2⟩ := hrel
                  by_cases hlt2 : i2 < xs.length
                  · obtain ⟨ad2, rfl, y0, y1, y2⟩ := at_span (Kd.R_reads' HI2.out.2.row).2.2 i2 hlt2
                    have HX2 : Hid (xs.take (i2 + 1) = xs.take i2 ++ [xs[i2]]) := by
                      refine hid ?_
                      rw [List.take_add_one, List.getElem?_eq_getElem hlt2]; rfl
                    generalize xs[i2] = x2 at y0 y1 y2 HX2
                    obtain ⟨px, py, pz⟩ := x2
                    simp only at y0 y1 y2
                    have HL2 := hid hlt2
                    obtain ⟨k2, rfl⟩ : ∃ k2, gk = k2 + 1 := ⟨gk - 1, by have := HG2.out; omega⟩
                    clear hlt2
                    have HBA : Hid (Below wr.heap.size wr (wr.alloc (.cells #[.int .i64 px, .int .i64 py, .int .i64 pz] 74))) := (Below.refl _ _).alloc (Nat.le_refl _) _
                    have HA : Hid (St base R wq.heap.size t0 w t u5 rs (F8 0 0 0 false K 0) ⟨0, 0, 0⟩ K (xs.take i2) (wr.alloc (.cells #[.int .i64 px, .int .i64 py, .int .i64 pz] 74)) ∧ Vr wq.heap.size (.slice (some ad2) xs.length cV) K xs (wr.alloc (.cells #[.int .i64 px, .int .i64 py, .int .i64 pz] 74)) ∧ Blk (wr.alloc (.cells #[.int .i64 px, .int .i64 py, .int .i64 pz] 74)) wr.heap.size #[.int .i64 px, .int .i64 py, .int .i64 pz] 74) :=
                      ⟨HI2.out.1.below HBA.out, HI2.out.2.below HBA.out, Blk.new _ _ _⟩
                    go_upto_region 20 with fail
                    clear y0 y1 y2 HI2
                    generalize wr.alloc (.cells #[.int .i64 px, .int .i64 py, .int .i64 pz] 74) = Wa at HA ⊢
                    have c4 : Wa.cell? ⟨wq.heap.size + 1, 4, none⟩ = some K := HA.out.1.x8.cell 4
                    have z0 : Wa.cell? ⟨wr.heap.size, 0, none⟩ = some (.int .i64 px) := HA.out.2.2.cell 0
                    have z1 : Wa.cell? ⟨wr.heap.size, 1, none⟩ = some (.int .i64 py) := HA.out.2.2.cell 1
                    have z2 : Wa.cell? ⟨wr.heap.size, 2, none⟩ = some (.int .i64 pz) := HA.out.2.2.cell 2
                    refine start_ (n := 8) (S := fun w' => w'.cell? ⟨wq.heap.size + 1, 4, none⟩ = some (K) ∧ w'.cell? ⟨wr.heap.size, 0, none⟩ = some (.int .i64 px) ∧ w'.cell? ⟨wr.heap.size, 1, none⟩ = some (.int .i64 py) ∧ w'.cell? ⟨wr.heap.size, 2, none⟩ = some (.int .i64 pz)) (ds := [7]) #[false, false, false, false, false, false, false, false] (by kernel_rfl) rfl rfl ⟨c4, z0, z1, z2⟩ (fun hHeld => ?_)
                    refine with_tabW do20.tab do20.bits (fun HT_ HW_ => ?_)
                    clear c4 z0 z1 z2
                    refine pure_ (i := 0) (N := some 81) (v := ?_) (a' := ?_) #[true, false, false, false, false, false, false, false] rfl rfl (any_of HT_.out (by kernel_rfl)) (fun _ _ _ h => h) (Or.inl ⟨by rfl, ?_⟩) ?_ ?_
                    rotate_left
                    · intro w'
                      go_simp
                      with_reducible rfl
                    rotate_left
                    · simp only [Act.put, List.setIfInBounds_toArray, List.set_cons_zero, List.set_cons_succ]
                      rfl
                    refine take_ (i := 1) (N := some 82) (v := ?_) (a' := ?_) #[true, true, false, false, false, false, false, false] rfl rfl (take_ofW HT_.out HW_.out (by kernel_rfl)) (fun _ _ _ h => h) (Or.inl ⟨by rfl, ?_⟩) hHeld ?_ ?_
                    rotate_left
                    · intro w' s0
                      obtain ⟨s1, s2, s3, s4⟩ := s0
                      go_simp
                      with_reducible rfl
                    rotate_left
                    · simp only [Act.put, List.setIfInBounds_toArray, List.set_cons_zero, List.set_cons_succ]
                      rfl
                    refine take_ (i := 2) (N := some 83) (v := ?_) (a' := ?_) #[true, true, true, false, false, false, false, false] rfl rfl (take_ofW HT_.out HW_.out (by kernel_rfl)) (fun _ _ _ h => h) (Or.inl ⟨by rfl, ?_⟩) hHeld ?_ ?_
                    rotate_left
                    · intro w' s0
                      obtain ⟨s1, s2, s3, s4⟩ := s0
                      go_simp
                      with_reducible rfl
                    rotate_left
                    · simp only [Act.put, List.setIfInBounds_toArray, List.set_cons_zero, List.set_cons_succ]
                      rfl
                    refine one_ (i := 3) (N := some 84) #[true, true, true, true, false, false, false, false] rfl rfl (one_of HT_.out (by kernel_rfl)) (by decide) (fun K_ hK => ?_)
                    refine call_ (N := some 84) 39 #[.agg #[.int .i64 px, .int .i64 py, .int .i64 pz]] (by rfl) rfl (by go_simp) ?_
                    have HCall_ := span_any px py pz Wa.drew
                    refine HCall_.mono ?_
                    clear HCall_
                    rintro e w4 ⟨rfl, hb⟩
                    have hb' : Below Wa.heap.size Wa w4 := ⟨hb.os, hb.tape, hb.output, hb.size, hb.block⟩
                    have H4 : Hid (St base R wq.heap.size t0 w t u5 rs (F8 0 0 0 false K 0) ⟨0, 0, 0⟩ K (xs.take i2) w4 ∧ Vr wq.heap.size (.slice (some ad2) xs.length cV) K xs w4 ∧ Blk w4 wr.heap.size #[.int .i64 px, .int .i64 py, .int .i64 pz] 74) := ⟨HA.out.1.below hb', HA.out.2.1.below hb', HA.out.2.2.fr (Fr.new (Z := fun _ => False) hb') (fun h => h)⟩
                    clear hb hb' HA
                    refine ⟨_, rfl, ?_⟩
                    refine hK.out _ _ ⟨H4.out.1.x8.cell 4, H4.out.2.2.cell 0, H4.out.2.2.cell 1, H4.out.2.2.cell 2⟩ (fun hHeld => ?_)
                    clear hK K_
                    refine norm_ (a' := ?_) ?_ ?_
                    rotate_left
                    · show Act.put _ (some 84) _ = _
                      simp only [Act.put, List.setIfInBounds_toArray, List.set_cons_zero, List.set_cons_succ]
                      rfl
                    have HBB : Hid (Below w4.heap.size w4 (w4.alloc (.cells #[.int .i64 px, .int .i64 py, .int .i64 pz] 29))) := (Below.refl _ _).alloc (Nat.le_refl _) _
                    refine one_ (i := 4) (N := some 85) #[true, true, true, true, true, false, false, false] rfl rfl (one_of HT_.out (by kernel_rfl)) (by decide) (fun K_ hK => ?_)
                    refine value_ (w1 := ?_) (v := ?_) (by rfl) rfl ?_ ?_
                    rotate_left 2
                    · go_simp
                      constructor
                      · rfl
                      · rfl
                    refine hK.out _ _ ⟨(H4.out.1.x8.alloc _).cell 4, (H4.out.2.2.alloc _).cell 0, (H4.out.2.2.alloc _).cell 1, (H4.out.2.2.alloc _).cell 2⟩ (fun hHeld => ?_)
                    clear hK K_
                    have H5 : Hid (St base R wq.heap.size t0 w t u5 rs (F8 0 0 0 false K 0) ⟨0, 0, 0⟩ K (xs.take i2) (w4.alloc (.cells #[.int .i64 px, .int .i64 py, .int .i64 pz] 29)) ∧ Vr wq.heap.size (.slice (some ad2) xs.length cV) K xs (w4.alloc (.cells #[.int .i64 px, .int .i64 py, .int .i64 pz] 29)) ∧ Blk (w4.alloc (.cells #[.int .i64 px, .int .i64 py, .int .i64 pz] 29)) w4.heap.size #[.int .i64 px, .int .i64 py, .int .i64 pz] 29 ∧ Blk (w4.alloc (.cells #[.int .i64 px, .int .i64 py, .int .i64 pz] 29)) wr.heap.size #[.int .i64 px, .int .i64 py, .int .i64 pz] 74) := ⟨H4.out.1.below HBB.out, H4.out.2.1.below HBB.out, Blk.new _ _ _, H4.out.2.2.alloc _⟩
                    generalize w4.alloc (.cells #[.int .i64 px, .int .i64 py, .int .i64 pz] 29) = w5 at H5 hHeld ⊢
                    clear H4 HBB
                    refine norm_ (a' := ?_) ?_ ?_
                    rotate_left
                    · show Act.put _ (some 85) _ = _
                      simp only [Act.put, List.setIfInBounds_toArray, List.set_cons_zero, List.set_cons_succ]
                      rfl
                    refine one_ (i := 5) (N := some 86) #[true, true, true, true, true, true, false, false] rfl rfl (one_of HT_.out (by kernel_rfl)) (by decide) (fun K_ hK => ?_)
                    refine Row.append_step spK rfl (.tmp 82) (.tmp 85) 30 29 (.agg #[.int .i64 0, .int .i64 0, .int .i64 0]) 24 rfl und30 infoSpan rfl (by decide) (wq.heap.size + 3) K (xs.take i2) (px, py, pz) [.int .i64 px, .int .i64 py, .int .i64 pz] (fun _ => True) (fun _ => False) w5 rfl H5.out.1.kr ⟨w4.heap.size, 0, none⟩ 1 rfl (spK_M _ _ _ _ _ _) ?acs (fun _ h => h.elim) (fun _ _ => trivial) ?aln (by omega) H5.out.1.big ?_
                    case acs =>
                      intro j u hj
                      rw [add_at, Nat.zero_add]
                      rw [H5.out.2.2.1.cell j]
                      simpa using hj
                    case aln =>
                      have h1_ := HXL.out
                      rw [List.length_take]
                      omega
                    intro v1 w6 hR hg hat
                    have H6 : Hid (St base R wq.heap.size t0 w t u5 rs (F8 0 0 0 false K 0) ⟨0, 0, 0⟩ v1 (xs.take (i2 + 1)) w6 ∧ Vr wq.heap.size (.slice (some ad2) xs.length cV) v1 xs w6 ∧ Blk w6 wr.heap.size #[.int .i64 px, .int .i64 py, .int .i64 pz] 74) := by
                      rw [HX2.out]
                      have hno : some wr.heap.size ≠ K.ownBlock := Kd.R_ne H5.out.1.kr H5.out.2.2.2 (by decide)
                      exact ⟨H5.out.1.kgrow hR hg hat, H5.out.2.1.grown hg hat, H5.out.2.2.2.fr (Fr.of_grown hg) hno⟩
                    obtain ⟨A1, c1, hq⟩ := Kd.R_slice H6.out.1.kr
                    generalize (xs.take (i2 + 1)).length = n1 at hq
                    subst hq
                    clear hR hg hat H5
                    refine hK.out _ _ ⟨H6.out.1.x8.cell 4, H6.out.2.2.cell 0, H6.out.2.2.cell 1, H6.out.2.2.cell 2⟩ (fun hHeld => ?_)
                    clear hK K_
                    refine norm_ (a' := ?_) ?_ ?_
                    rotate_left
                    · show Act.put _ (some 86) _ = _
                      simp only [Act.put, List.setIfInBounds_toArray, List.set_cons_zero, List.set_cons_succ]
                      rfl
                    refine pure_ (i := 6) (N := some 87) (v := ?_) (a' := ?_) #[true, true, true, true, true, true, true, false] rfl rfl (any_of HT_.out (by kernel_rfl)) (fun _ _ _ h => h) (Or.inl ⟨by rfl, ?_⟩) ?_ ?_
                    rotate_left
                    · intro w'
                      go_simp
                      with_reducible rfl
                    rotate_left
                    · simp only [Act.put, List.setIfInBounds_toArray, List.set_cons_zero, List.set_cons_succ]
                      rfl
                    have d4 : w6.cell? ⟨wq.heap.size + 1, 4, none⟩ = some K := H6.out.1.x8.cell 4
                    have f4 : w6.frozen? ⟨wq.heap.size + 1, 4, none⟩ = false := H6.out.1.x8.free 4
                    refine last_ (i := 7) (N := none) #[true, true, true, true, true, true, true, true] rfl rfl (one_of HT_.out (by kernel_rfl)) (by decide) (fun K_ hK => ?_)
                    refine skip_ (w1 := ?_) (by rfl) rfl ?_ ?_
                    rotate_left
                    · go_simp
                      rfl
                    refine hK.out _ _ ?_
                    clear hK K_
                    refine done_ (done_of HT_.out (by kernel_rfl)) ?_
                    clear HT_ HW_
                    clear d4 f4
                    have H7 : Hid (St base R wq.heap.size t0 w t u5 rs (F8 0 0 0 false (.slice A1 n1 c1) 0) ⟨0, 0, 0⟩ (.slice A1 n1 c1) (xs.take (i2 + 1)) (w6.setCell ⟨wq.heap.size + 1, 4, none⟩ (.slice A1 n1 c1)) ∧ Vr wq.heap.size (.slice (some ad2) xs.length cV) (.slice A1 n1 c1) xs (w6.setCell ⟨wq.heap.size + 1, 4, none⟩ (.slice A1 n1 c1))) := ⟨H6.out.1.to8 Fr.one (H6.out.1.x8.set 4 _), H6.out.2.1.set8 4 _⟩
                    clear H6 hHeld
                    generalize w6.setCell ⟨wq.heap.size + 1, 4, none⟩ (.slice A1 n1 c1) = w7 at H7 ⊢
                    have hb_ := HXL.out
                    have hl_ := HL2.out
                    go_wp2_with fail
                    go_roundg k2
                    case measure => omega
                    case rel => exact ⟨i2 + 1, .slice A1 n1 c1, rfl, HL2.out, by have := HG2.out; show k2 + (i2 + 1) = _; omega, H7.out.1, H7.out.2⟩
                  · have e : i2 = xs.length := by omega
                    subst e
                    have H3 : Hid (St base R wq.heap.size t0 w t u5 rs (F8 0 0 0 false K 0) ⟨0, 0, 0⟩ K xs wr) := by
                      have h_ := HI2.out.1
                      rw [List.take_length] at h_
                      exact h_
                    clear HI2
                    obtain ⟨AK, nK, cK, rfl⟩ : ∃ A n c, K = .slice A n c := by
                      obtain ⟨A, c, h⟩ := Kd.R_slice H3.out.kr
                      exact ⟨A, _, c, h⟩
                    obtain ⟨w3, rfl⟩ : ∃ w3, w3 = wr := ⟨_, rfl⟩
                    go_upto_region 28 with fail
                    obtain ⟨kv, hkv⟩ : ∃ kv : S, (⟨0, 0, 0⟩ : S) = kv := ⟨_, rfl⟩
                    rw [hkv] at H3 HS
                    clear hkv
                    have g0 : w3.cell? ⟨wq.heap.size + 1 + 1, 0, none⟩ = some (.int .i64 kv.lo) := H3.out.x9.cell 0
                    have g1 : w3.cell? ⟨wq.heap.size + 1 + 1, 1, none⟩ = some (.int .i64 kv.hi) := H3.out.x9.cell 1
                    have g2 : w3.cell? ⟨wq.heap.size + 1 + 1, 2, none⟩ = some (.int .i64 kv.v) := H3.out.x9.cell 2
                    go_wp2_with fail
                    refine (span_any (kv).lo (kv).hi (kv).v w3).mono ?_
                    rintro e w4 ⟨rfl, hb⟩
                    have H4 := hid (H3.out.below hb)
                    clear hb H3 g0 g1 g2
                    have e0 : w4.cell? ⟨wq.heap.size + 1, 0, none⟩ = some (.int .i64 0) := H4.out.x8.cell 0
                    have e1 : w4.cell? ⟨wq.heap.size + 1, 1, none⟩ = some (.int .i64 0) := H4.out.x8.cell 1
                    have e2 : w4.cell? ⟨wq.heap.size + 1, 2, none⟩ = some (.int .i64 0) := H4.out.x8.cell 2
                    have e3 : w4.cell? ⟨wq.heap.size + 1, 3, none⟩ = some (.bool false) := H4.out.x8.cell 3
                    have e4 : w4.cell? ⟨wq.heap.size + 1, 4, none⟩ = some (.slice AK nK cK) := H4.out.x8.cell 4
                    have e5 : w4.cell? ⟨wq.heap.size + 1, 5, none⟩ = some (.int .i64 0) := H4.out.x8.cell 5
                    have f0 : w4.frozen? ⟨wq.heap.size + 1, 0, none⟩ = false := H4.out.x8.free 0
                    have f1 : w4.frozen? ⟨wq.heap.size + 1, 1, none⟩ = false := H4.out.x8.free 1
                    have f2 : w4.frozen? ⟨wq.heap.size + 1, 2, none⟩ = false := H4.out.x8.free 2
                    have HF4 : Hid (Fr (· = wq.heap.size + 1) w4 (((w4.setCell ⟨wq.heap.size + 1, 0, none⟩ (.int .i64 kv.lo)).setCell ⟨wq.heap.size + 1, 1, none⟩ (.int .i64 kv.hi)).setCell ⟨wq.heap.size + 1, 2, none⟩ (.int .i64 kv.v))) := (Fr.one.then Fr.one).then Fr.one
                    have H5 := hid (H4.out.to8 HF4.out (((H4.out.x8.set 0 (.int .i64 kv.lo)).set 1 (.int .i64 kv.hi)).set 2 (.int .i64 kv.v)))
                    go_upto_region 29 with fail
                    clear e0 e1 e2 e3 e4 e5 f0 f1 f2 HF4 H4
                    replace H5 : Hid (St base R wq.heap.size t0 w t u5 rs (F8 (kv).lo (kv).hi (kv).v false (.slice AK nK cK) (0)) (kv) (.slice AK nK cK) (xs) (((w4.setCell ⟨wq.heap.size + 1, 0, none⟩ (.int .i64 kv.lo)).setCell ⟨wq.heap.size + 1, 1, none⟩ (.int .i64 kv.hi)).setCell ⟨wq.heap.size + 1, 2, none⟩ (.int .i64 kv.v))) := H5
                    generalize ((w4.setCell ⟨wq.heap.size + 1, 0, none⟩ (.int .i64 kv.lo)).setCell ⟨wq.heap.size + 1, 1, none⟩ (.int .i64 kv.hi)).setCell ⟨wq.heap.size + 1, 2, none⟩ (.int .i64 kv.v) = w5 at H5 ⊢
                    have e0 : w5.cell? ⟨wq.heap.size + 1, 0, none⟩ = some (.int .i64 kv.lo) := H5.out.x8.cell 0
                    have e1 : w5.cell? ⟨wq.heap.size + 1, 1, none⟩ = some (.int .i64 kv.hi) := H5.out.x8.cell 1
                    have e2 : w5.cell? ⟨wq.heap.size + 1, 2, none⟩ = some (.int .i64 kv.v) := H5.out.x8.cell 2
                    have e3 : w5.cell? ⟨wq.heap.size + 1, 3, none⟩ = some (.bool false) := H5.out.x8.cell 3
                    have e4 : w5.cell? ⟨wq.heap.size + 1, 4, none⟩ = some (.slice AK nK cK) := H5.out.x8.cell 4
                    have e5 : w5.cell? ⟨wq.heap.size + 1, 5, none⟩ = some (.int .i64 0) := H5.out.x8.cell 5
                    have HM := hid (found_M (base := w.heap.size) (ok' := fun k_ => some k_ = Value.ownBlock (.slice AK nK cK)) (by have := H5.out.sz; omega) H5.out.kr (fun k_ hk => hk.symm) (kv).lo (kv).hi (kv).v false (0))
                    go_wp2_with (first | (at_builtin; go_loud (refine Kd.S_append foundK (w0 := w5) (W := w5) w.heap.size rfl (.tmp 107) (.tmp 109) 26 32 (.agg #[.int .i64 0, .int .i64 0, .int .i64 0, .bool false, .slice none 0 0, .int .i64 0]) 64 rfl und26 infoFound rfl (by decide) (by omega) u5 rs (tri (kv), false, xs, 0) [.int .i64 kv.lo, .int .i64 kv.hi, .int .i64 kv.v, .bool false, .slice AK nK cK, .int .i64 0] (fun b => b ≠ R ∧ b ∉ t.ids) (fun k_ => some k_ = Value.ownBlock (.slice AK nK cK)) rfl rfl HM.out (fun k_ hk => H5.out.okp k_ hk.symm) ?aF ?aO (Below.refl _ _) (Nat.le_trans H5.out.sz (Nat.le_trans (by omega) H5.out.big)) ?aL ?_; (case aF => exact fun k_ hk => ⟨by have := H5.out.rlt; have := H5.out.big; omega, fun hb_ => by have := H5.out.tree.lt.2 _ hb_; omega⟩); (case aO => exact Kd.S_mono H5.out.row (fun k_ hk => ⟨hk.1, fun e_ => by have h1_ := (H5.out.krow k_ e_.symm).1; have h2_ := hk.2; omega⟩)); (case aL => have h1_ := HZ.out.1; have h2_ := HL.out; omega); intro v1 w6 ho hb hg hat; have H6 := hid (H5.out.append ho hg); clear ho hb hg hat)))
                    clear e0 e1 e2 e3 e4 e5 HM H5
                    go_roundg k1
                    case measure => omega
                    case rel => exact ⟨i + 1, t, rs ++ [(tri (kv), false, xs, 0)], rfl, HL.out, by have := HG.out; show k1 + (i + 1) = _; omega, H6.out, by rw [List.length_append, HZ.out.1]; rfl, by rw [← HZ.out.2.1, HX.out, List.append_assoc]; show _ = rs ++ (tellT t.raw _ :: toldT (stepT t.raw _) _); rw [← HS.out.1, HS.out.2]; rfl, by rw [← HZ.out.2.2.1, HX.out]; show _ = runT (stepT t.raw _) _; rw [← HS.out.1], by rw [HS.out.1]; have h1 := size_step t.raw (4, lo, hi, v); have h2_ := HZ.out.2.2.2; have h3_ := HL.out; omega⟩
              · by_cases h5 : d = 5
                · subst h5
                  go_wp2_with fail
                  generalize ((wr.alloc (.cells #[.int .i64 5, .int .i64 lo, .int .i64 hi, .int .i64 v] 25)).alloc (.cells #[.int .i64 0, .int .i64 0, .int .i64 0, .bool false, .slice none 0 0, .int .i64 0] 32)).alloc (.cells #[.int .i64 0, .int .i64 0, .int .i64 0] 74) = W3 at H2 ⊢
                  refine (tEach_any base R t (wr.heap.size + 3) (wr.heap.size + 1) W3 H2.out.tree (fun b hb => by have := HLT.out.2 b hb; omega) ⟨_, H2.out.x8, by omega, H2.out.big, Kd.R_nil ..⟩ (by have := HEV.out; omega)).mono ?_
                  rintro e w3 ⟨rfl, hA, hF⟩
                  obtain ⟨K, hX, _, hN2, hK⟩ := hA
                  have H3 : Hid (St base R wr.heap.size t0 w t u5 rs (F8 0 0 0 false K 0) ⟨0, 0, 0⟩ K (all t.raw) w3) := H2.out.keep hF (fun b hb e => by omega) (fun b hb e => by have := HLT.out.2 b hb; omega) hX (H2.out.x9.fr hF (fun e => by omega)) hK (fun k hk hm => by have h1 := (rowB hK k hk).1; have h2 := HLT.out.2 k hm; omega)
                  clear hX hN2 hK hF H2
                  obtain ⟨AK, nK, cK, rfl⟩ : ∃ A n c, K = .slice A n c := by
                    obtain ⟨A, c, h⟩ := Kd.R_slice H3.out.kr
                    exact ⟨A, _, c, h⟩
                  have HS : Hid (t.raw = stepT t.raw (5, lo, hi, v) ∧ tellT t.raw (5, lo, hi, v) = (tri ⟨0, 0, 0⟩, false, all t.raw, 0)) := ⟨rfl, rfl⟩
                  go_upto_region 28 with fail
                  obtain ⟨kv, hkv⟩ : ∃ kv : S, (⟨0, 0, 0⟩ : S) = kv := ⟨_, rfl⟩
                  rw [hkv] at H3 HS
                  clear hkv
                  have g0 : w3.cell? ⟨wr.heap.size + 1 + 1, 0, none⟩ = some (.int .i64 kv.lo) := H3.out.x9.cell 0
                  have g1 : w3.cell? ⟨wr.heap.size + 1 + 1, 1, none⟩ = some (.int .i64 kv.hi) := H3.out.x9.cell 1
                  have g2 : w3.cell? ⟨wr.heap.size + 1 + 1, 2, none⟩ = some (.int .i64 kv.v) := H3.out.x9.cell 2
                  go_wp2_with fail
                  refine (span_any (kv).lo (kv).hi (kv).v w3).mono ?_
                  rintro e w4 ⟨rfl, hb⟩
                  have H4 := hid (H3.out.below hb)
                  clear hb H3 g0 g1 g2
                  have e0 : w4.cell? ⟨wr.heap.size + 1, 0, none⟩ = some (.int .i64 0) := H4.out.x8.cell 0
                  have e1 : w4.cell? ⟨wr.heap.size + 1, 1, none⟩ = some (.int .i64 0) := H4.out.x8.cell 1
                  have e2 : w4.cell? ⟨wr.heap.size + 1, 2, none⟩ = some (.int .i64 0) := H4.out.x8.cell 2
                  have e3 : w4.cell? ⟨wr.heap.size + 1, 3, none⟩ = some (.bool false) := H4.out.x8.cell 3
                  have e4 : w4.cell? ⟨wr.heap.size + 1, 4, none⟩ = some (.slice AK nK cK) := H4.out.x8.cell 4
                  have e5 : w4.cell? ⟨wr.heap.size + 1, 5, none⟩ = some (.int .i64 0) := H4.out.x8.cell 5
                  have f0 : w4.frozen? ⟨wr.heap.size + 1, 0, none⟩ = false := H4.out.x8.free 0
                  have f1 : w4.frozen? ⟨wr.heap.size + 1, 1, none⟩ = false := H4.out.x8.free 1
                  have f2 : w4.frozen? ⟨wr.heap.size + 1, 2, none⟩ = false := H4.out.x8.free 2
                  have HF4 : Hid (Fr (· = wr.heap.size + 1) w4 (((w4.setCell ⟨wr.heap.size + 1, 0, none⟩ (.int .i64 kv.lo)).setCell ⟨wr.heap.size + 1, 1, none⟩ (.int .i64 kv.hi)).setCell ⟨wr.heap.size + 1, 2, none⟩ (.int .i64 kv.v))) := (Fr.one.then Fr.one).then Fr.one
                  have H5 := hid (H4.out.to8 HF4.out (((H4.out.x8.set 0 (.int .i64 kv.lo)).set 1 (.int .i64 kv.hi)).set 2 (.int .i64 kv.v)))
                  go_upto_region 29 with fail
                  clear e0 e1 e2 e3 e4 e5 f0 f1 f2 HF4 H4
                  replace H5 : Hid (St base R wr.heap.size t0 w t u5 rs (F8 (kv).lo (kv).hi (kv).v false (.slice AK nK cK) (0)) (kv) (.slice AK nK cK) (all t.raw) (((w4.setCell ⟨wr.heap.size + 1, 0, none⟩ (.int .i64 kv.lo)).setCell ⟨wr.heap.size + 1, 1, none⟩ (.int .i64 kv.hi)).setCell ⟨wr.heap.size + 1, 2, none⟩ (.int .i64 kv.v))) := H5
                  generalize ((w4.setCell ⟨wr.heap.size + 1, 0, none⟩ (.int .i64 kv.lo)).setCell ⟨wr.heap.size + 1, 1, none⟩ (.int .i64 kv.hi)).setCell ⟨wr.heap.size + 1, 2, none⟩ (.int .i64 kv.v) = w5 at H5 ⊢
                  have e0 : w5.cell? ⟨wr.heap.size + 1, 0, none⟩ = some (.int .i64 kv.lo) := H5.out.x8.cell 0
                  have e1 : w5.cell? ⟨wr.heap.size + 1, 1, none⟩ = some (.int .i64 kv.hi) := H5.out.x8.cell 1
                  have e2 : w5.cell? ⟨wr.heap.size + 1, 2, none⟩ = some (.int .i64 kv.v) := H5.out.x8.cell 2
                  have e3 : w5.cell? ⟨wr.heap.size + 1, 3, none⟩ = some (.bool false) := H5.out.x8.cell 3
                  have e4 : w5.cell? ⟨wr.heap.size + 1, 4, none⟩ = some (.slice AK nK cK) := H5.out.x8.cell 4
                  have e5 : w5.cell? ⟨wr.heap.size + 1, 5, none⟩ = some (.int .i64 0) := H5.out.x8.cell 5
                  have HM := hid (found_M (base := w.heap.size) (ok' := fun k_ => some k_ = Value.ownBlock (.slice AK nK cK)) (by have := H5.out.sz; omega) H5.out.kr (fun k_ hk => hk.symm) (kv).lo (kv).hi (kv).v false (0))
                  go_wp2_with (first | (at_builtin; go_loud (refine Kd.S_append foundK (w0 := w5) (W := w5) w.heap.size rfl (.tmp 107) (.tmp 109) 26 32 (.agg #[.int .i64 0, .int .i64 0, .int .i64 0, .bool false, .slice none 0 0, .int .i64 0]) 64 rfl und26 infoFound rfl (by decide) (by omega) u5 rs (tri (kv), false, all t.raw, 0) [.int .i64 kv.lo, .int .i64 kv.hi, .int .i64 kv.v, .bool false, .slice AK nK cK, .int .i64 0] (fun b => b ≠ R ∧ b ∉ t.ids) (fun k_ => some k_ = Value.ownBlock (.slice AK nK cK)) rfl rfl HM.out (fun k_ hk => H5.out.okp k_ hk.symm) ?aF ?aO (Below.refl _ _) (Nat.le_trans H5.out.sz (Nat.le_trans (by omega) H5.out.big)) ?aL ?_; (case aF => exact fun k_ hk => ⟨by have := H5.out.rlt; have := H5.out.big; omega, fun hb_ => by have := H5.out.tree.lt.2 _ hb_; omega⟩); (case aO => exact Kd.S_mono H5.out.row (fun k_ hk => ⟨hk.1, fun e_ => by have h1_ := (H5.out.krow k_ e_.symm).1; have h2_ := hk.2; omega⟩)); (case aL => have h1_ := HZ.out.1; have h2_ := HL.out; omega); intro v1 w6 ho hb hg hat; have H6 := hid (H5.out.append ho hg); clear ho hb hg hat)))
                  clear e0 e1 e2 e3 e4 e5 HM H5
                  go_roundg k1
                  case measure => omega
                  case rel => exact ⟨i + 1, t, rs ++ [(tri (kv), false, all t.raw, 0)], rfl, HL.out, by have := HG.out; show k1 + (i + 1) = _; omega, H6.out, by rw [List.length_append, HZ.out.1]; rfl, by rw [← HZ.out.2.1, HX.out, List.append_assoc]; show _ = rs ++ (tellT t.raw _ :: toldT (stepT t.raw _) _); rw [← HS.out.1, HS.out.2]; rfl, by rw [← HZ.out.2.2.1, HX.out]; show _ = runT (stepT t.raw _) _; rw [← HS.out.1], by rw [HS.out.1]; have h1 := size_step t.raw (5, lo, hi, v); have h2_ := HZ.out.2.2.2; have h3_ := HL.out; omega⟩
                · by_cases h6 : d = 6
                  · subst h6
                    go_wp2_with fail
                    generalize ((wr.alloc (.cells #[.int .i64 6, .int .i64 lo, .int .i64 hi, .int .i64 v] 25)).alloc (.cells #[.int .i64 0, .int .i64 0, .int .i64 0, .bool false, .slice none 0 0, .int .i64 0] 32)).alloc (.cells #[.int .i64 0, .int .i64 0, .int .i64 0] 74) = W3 at H2 ⊢
                    refine (tSize_any base R t W3 H2.out.tree (by have := HEV.out; omega)).mono ?_
                    rintro e w2 ⟨rfl, rfl⟩
                    have HS : Hid (t.raw = stepT t.raw (6, lo, hi, v) ∧ tellT t.raw (6, lo, hi, v) = (tri ⟨0, 0, 0⟩, false, [], t.raw.size)) := ⟨rfl, rfl⟩
                    have e5 : W3.cell? ⟨wr.heap.size + 1, 5, none⟩ = some (.int .i64 0) := H2.out.x8.cell 5
                    have f5 : W3.frozen? ⟨wr.heap.size + 1, 5, none⟩ = false := H2.out.x8.free 5
                    go_upto_region 28 with fail
                    clear e5 f5
                    have H3 : Hid (St base R wr.heap.size t0 w t u5 rs (F8 0 0 0 false (.slice none 0 0) (t.raw.size)) ⟨0, 0, 0⟩ (.slice none 0 0) [] (W3.setCell ⟨wr.heap.size + 1, 5, none⟩ (.int .i64 (t.raw.size)))) := H2.out.to8 Fr.one (H2.out.x8.set 5 _)
                    clear H2
                    generalize W3.setCell ⟨wr.heap.size + 1, 5, none⟩ (.int .i64 (t.raw.size)) = w3 at H3 ⊢
                    obtain ⟨kv, hkv⟩ : ∃ kv : S, (⟨0, 0, 0⟩ : S) = kv := ⟨_, rfl⟩
                    rw [hkv] at H3 HS
                    clear hkv
                    have g0 : w3.cell? ⟨wr.heap.size + 1 + 1, 0, none⟩ = some (.int .i64 kv.lo) := H3.out.x9.cell 0
                    have g1 : w3.cell? ⟨wr.heap.size + 1 + 1, 1, none⟩ = some (.int .i64 kv.hi) := H3.out.x9.cell 1
                    have g2 : w3.cell? ⟨wr.heap.size + 1 + 1, 2, none⟩ = some (.int .i64 kv.v) := H3.out.x9.cell 2
                    go_wp2_with fail
                    refine (span_any (kv).lo (kv).hi (kv).v w3).mono ?_
                    rintro e w4 ⟨rfl, hb⟩
                    have H4 := hid (H3.out.below hb)
                    clear hb H3 g0 g1 g2
                    have e0 : w4.cell? ⟨wr.heap.size + 1, 0, none⟩ = some (.int .i64 0) := H4.out.x8.cell 0
                    have e1 : w4.cell? ⟨wr.heap.size + 1, 1, none⟩ = some (.int .i64 0) := H4.out.x8.cell 1
                    have e2 : w4.cell? ⟨wr.heap.size + 1, 2, none⟩ = some (.int .i64 0) := H4.out.x8.cell 2
                    have e3 : w4.cell? ⟨wr.heap.size + 1, 3, none⟩ = some (.bool false) := H4.out.x8.cell 3
                    have e4 : w4.cell? ⟨wr.heap.size + 1, 4, none⟩ = some (.slice none 0 0) := H4.out.x8.cell 4
                    have e5 : w4.cell? ⟨wr.heap.size + 1, 5, none⟩ = some (.int .i64 t.raw.size) := H4.out.x8.cell 5
                    have f0 : w4.frozen? ⟨wr.heap.size + 1, 0, none⟩ = false := H4.out.x8.free 0
                    have f1 : w4.frozen? ⟨wr.heap.size + 1, 1, none⟩ = false := H4.out.x8.free 1
                    have f2 : w4.frozen? ⟨wr.heap.size + 1, 2, none⟩ = false := H4.out.x8.free 2
                    have HF4 : Hid (Fr (· = wr.heap.size + 1) w4 (((w4.setCell ⟨wr.heap.size + 1, 0, none⟩ (.int .i64 kv.lo)).setCell ⟨wr.heap.size + 1, 1, none⟩ (.int .i64 kv.hi)).setCell ⟨wr.heap.size + 1, 2, none⟩ (.int .i64 kv.v))) := (Fr.one.then Fr.one).then Fr.one
                    have H5 := hid (H4.out.to8 HF4.out (((H4.out.x8.set 0 (.int .i64 kv.lo)).set 1 (.int .i64 kv.hi)).set 2 (.int .i64 kv.v)))
                    go_upto_region 29 with fail
                    clear e0 e1 e2 e3 e4 e5 f0 f1 f2 HF4 H4
                    replace H5 : Hid (St base R wr.heap.size t0 w t u5 rs (F8 (kv).lo (kv).hi (kv).v false (.slice none 0 0) (t.raw.size)) (kv) (.slice none 0 0) ([]) (((w4.setCell ⟨wr.heap.size + 1, 0, none⟩ (.int .i64 kv.lo)).setCell ⟨wr.heap.size + 1, 1, none⟩ (.int .i64 kv.hi)).setCell ⟨wr.heap.size + 1, 2, none⟩ (.int .i64 kv.v))) := H5
                    generalize ((w4.setCell ⟨wr.heap.size + 1, 0, none⟩ (.int .i64 kv.lo)).setCell ⟨wr.heap.size + 1, 1, none⟩ (.int .i64 kv.hi)).setCell ⟨wr.heap.size + 1, 2, none⟩ (.int .i64 kv.v) = w5 at H5 ⊢
                    have e0 : w5.cell? ⟨wr.heap.size + 1, 0, none⟩ = some (.int .i64 kv.lo) := H5.out.x8.cell 0
                    have e1 : w5.cell? ⟨wr.heap.size + 1, 1, none⟩ = some (.int .i64 kv.hi) := H5.out.x8.cell 1
                    have e2 : w5.cell? ⟨wr.heap.size + 1, 2, none⟩ = some (.int .i64 kv.v) := H5.out.x8.cell 2
                    have e3 : w5.cell? ⟨wr.heap.size + 1, 3, none⟩ = some (.bool false) := H5.out.x8.cell 3
                    have e4 : w5.cell? ⟨wr.heap.size + 1, 4, none⟩ = some (.slice none 0 0) := H5.out.x8.cell 4
                    have e5 : w5.cell? ⟨wr.heap.size + 1, 5, none⟩ = some (.int .i64 t.raw.size) := H5.out.x8.cell 5
                    have HM := hid (found_M (base := w.heap.size) (ok' := fun k_ => some k_ = Value.ownBlock (.slice none 0 0)) (by have := H5.out.sz; omega) H5.out.kr (fun k_ hk => hk.symm) (kv).lo (kv).hi (kv).v false (t.raw.size))
                    go_wp2_with (first | (at_builtin; go_loud (refine Kd.S_append foundK (w0 := w5) (W := w5) w.heap.size rfl (.tmp 107) (.tmp 109) 26 32 (.agg #[.int .i64 0, .int .i64 0, .int .i64 0, .bool false, .slice none 0 0, .int .i64 0]) 64 rfl und26 infoFound rfl (by decide) (by omega) u5 rs (tri (kv), false, [], t.raw.size) [.int .i64 kv.lo, .int .i64 kv.hi, .int .i64 kv.v, .bool false, .slice none 0 0, .int .i64 t.raw.size] (fun b => b ≠ R ∧ b ∉ t.ids) (fun k_ => some k_ = Value.ownBlock (.slice none 0 0)) rfl rfl HM.out (fun k_ hk => H5.out.okp k_ hk.symm) ?aF ?aO (Below.refl _ _) (Nat.le_trans H5.out.sz (Nat.le_trans (by omega) H5.out.big)) ?aL ?_; (case aF => exact fun k_ hk => ⟨by have := H5.out.rlt; have := H5.out.big; omega, fun hb_ => by have := H5.out.tree.lt.2 _ hb_; omega⟩); (case aO => exact Kd.S_mono H5.out.row (fun k_ hk => ⟨hk.1, fun e_ => by have h1_ := (H5.out.krow k_ e_.symm).1; have h2_ := hk.2; omega⟩)); (case aL => have h1_ := HZ.out.1; have h2_ := HL.out; omega); intro v1 w6 ho hb hg hat; have H6 := hid (H5.out.append ho hg); clear ho hb hg hat)))
                    clear e0 e1 e2 e3 e4 e5 HM H5
                    go_roundg k1
                    case measure => omega
                    case rel => exact ⟨i + 1, t, rs ++ [(tri (kv), false, [], t.raw.size)], rfl, HL.out, by have := HG.out; show k1 + (i + 1) = _; omega, H6.out, by rw [List.length_append, HZ.out.1]; rfl, by rw [← HZ.out.2.1, HX.out, List.append_assoc]; show _ = rs ++ (tellT t.raw _ :: toldT (stepT t.raw _) _); rw [← HS.out.1, HS.out.2]; rfl, by rw [← HZ.out.2.2.1, HX.out]; show _ = runT (stepT t.raw _) _; rw [← HS.out.1], by rw [HS.out.1]; have h1 := size_step t.raw (6, lo, hi, v); have h2_ := HZ.out.2.2.2; have h3_ := HL.out; omega⟩
                  · by_cases h7 : d = 7
                    · subst h7
                      go_wp2_with fail
                      generalize ((wr.alloc (.cells #[.int .i64 7, .int .i64 lo, .int .i64 hi, .int .i64 v] 25)).alloc (.cells #[.int .i64 0, .int .i64 0, .int .i64 0, .bool false, .slice none 0 0, .int .i64 0] 32)).alloc (.cells #[.int .i64 0, .int .i64 0, .int .i64 0] 74) = W3 at H2 ⊢
                      refine (tHeight_any base R t W3 H2.out.tree).mono ?_
                      rintro e w2 ⟨rfl, rfl⟩
                      have HS : Hid (t.raw = stepT t.raw (7, lo, hi, v) ∧ tellT t.raw (7, lo, hi, v) = (tri ⟨0, 0, 0⟩, false, [], t.raw.ht)) := ⟨rfl, rfl⟩
                      have e5 : w2.cell? ⟨wr.heap.size + 1, 5, none⟩ = some (.int .i64 0) := H2.out.x8.cell 5
                      have f5 : w2.frozen? ⟨wr.heap.size + 1, 5, none⟩ = false := H2.out.x8.free 5
                      go_upto_region 28 with fail
                      clear e5 f5
                      have H3 : Hid (St base R wr.heap.size t0 w t u5 rs (F8 0 0 0 false (.slice none 0 0) (t.raw.ht)) ⟨0, 0, 0⟩ (.slice none 0 0) [] (w2.setCell ⟨wr.heap.size + 1, 5, none⟩ (.int .i64 (t.raw.ht)))) := H2.out.to8 Fr.one (H2.out.x8.set 5 _)
                      clear H2
                      generalize w2.setCell ⟨wr.heap.size + 1, 5, none⟩ (.int .i64 (t.raw.ht)) = w3 at H3 ⊢
                      obtain ⟨kv, hkv⟩ : ∃ kv : S, (⟨0, 0, 0⟩ : S) = kv := ⟨_, rfl⟩
                      rw [hkv] at H3 HS
                      clear hkv
                      have g0 : w3.cell? ⟨wr.heap.size + 1 + 1, 0, none⟩ = some (.int .i64 kv.lo) := H3.out.x9.cell 0
                      have g1 : w3.cell? ⟨wr.heap.size + 1 + 1, 1, none⟩ = some (.int .i64 kv.hi) := H3.out.x9.cell 1
                      have g2 : w3.cell? ⟨wr.heap.size + 1 + 1, 2, none⟩ = some (.int .i64 kv.v) := H3.out.x9.cell 2
                      go_wp2_with fail
                      refine (span_any (kv).lo (kv).hi (kv).v w3).mono ?_
                      rintro e w4 ⟨rfl, hb⟩
                      have H4 := hid (H3.out.below hb)
                      clear hb H3 g0 g1 g2
                      have e0 : w4.cell? ⟨wr.heap.size + 1, 0, none⟩ = some (.int .i64 0) := H4.out.x8.cell 0
                      have e1 : w4.cell? ⟨wr.heap.size + 1, 1, none⟩ = some (.int .i64 0) := H4.out.x8.cell 1
                      have e2 : w4.cell? ⟨wr.heap.size + 1, 2, none⟩ = some (.int .i64 0) := H4.out.x8.cell 2
                      have e3 : w4.cell? ⟨wr.heap.size + 1, 3, none⟩ = some (.bool false) := H4.out.x8.cell 3
                      have e4 : w4.cell? ⟨wr.heap.size + 1, 4, none⟩ = some (.slice none 0 0) := H4.out.x8.cell 4
                      have e5 : w4.cell? ⟨wr.heap.size + 1, 5, none⟩ = some (.int .i64 t.raw.ht) := H4.out.x8.cell 5
                      have f0 : w4.frozen? ⟨wr.heap.size + 1, 0, none⟩ = false := H4.out.x8.free 0
                      have f1 : w4.frozen? ⟨wr.heap.size + 1, 1, none⟩ = false := H4.out.x8.free 1
                      have f2 : w4.frozen? ⟨wr.heap.size + 1, 2, none⟩ = false := H4.out.x8.free 2
                      have HF4 : Hid (Fr (· = wr.heap.size + 1) w4 (((w4.setCell ⟨wr.heap.size + 1, 0, none⟩ (.int .i64 kv.lo)).setCell ⟨wr.heap.size + 1, 1, none⟩ (.int .i64 kv.hi)).setCell ⟨wr.heap.size + 1, 2, none⟩ (.int .i64 kv.v))) := (Fr.one.then Fr.one).then Fr.one
                      have H5 := hid (H4.out.to8 HF4.out (((H4.out.x8.set 0 (.int .i64 kv.lo)).set 1 (.int .i64 kv.hi)).set 2 (.int .i64 kv.v)))
                      go_upto_region 29 with fail
                      clear e0 e1 e2 e3 e4 e5 f0 f1 f2 HF4 H4
                      replace H5 : Hid (St base R wr.heap.size t0 w t u5 rs (F8 (kv).lo (kv).hi (kv).v false (.slice none 0 0) (t.raw.ht)) (kv) (.slice none 0 0) ([]) (((w4.setCell ⟨wr.heap.size + 1, 0, none⟩ (.int .i64 kv.lo)).setCell ⟨wr.heap.size + 1, 1, none⟩ (.int .i64 kv.hi)).setCell ⟨wr.heap.size + 1, 2, none⟩ (.int .i64 kv.v))) := H5
                      generalize ((w4.setCell ⟨wr.heap.size + 1, 0, none⟩ (.int .i64 kv.lo)).setCell ⟨wr.heap.size + 1, 1, none⟩ (.int .i64 kv.hi)).setCell ⟨wr.heap.size + 1, 2, none⟩ (.int .i64 kv.v) = w5 at H5 ⊢
                      have e0 : w5.cell? ⟨wr.heap.size + 1, 0, none⟩ = some (.int .i64 kv.lo) := H5.out.x8.cell 0
                      have e1 : w5.cell? ⟨wr.heap.size + 1, 1, none⟩ = some (.int .i64 kv.hi) := H5.out.x8.cell 1
                      have e2 : w5.cell? ⟨wr.heap.size + 1, 2, none⟩ = some (.int .i64 kv.v) := H5.out.x8.cell 2
                      have e3 : w5.cell? ⟨wr.heap.size + 1, 3, none⟩ = some (.bool false) := H5.out.x8.cell 3
                      have e4 : w5.cell? ⟨wr.heap.size + 1, 4, none⟩ = some (.slice none 0 0) := H5.out.x8.cell 4
                      have e5 : w5.cell? ⟨wr.heap.size + 1, 5, none⟩ = some (.int .i64 t.raw.ht) := H5.out.x8.cell 5
                      have HM := hid (found_M (base := w.heap.size) (ok' := fun k_ => some k_ = Value.ownBlock (.slice none 0 0)) (by have := H5.out.sz; omega) H5.out.kr (fun k_ hk => hk.symm) (kv).lo (kv).hi (kv).v false (t.raw.ht))
                      go_wp2_with (first | (at_builtin; go_loud (refine Kd.S_append foundK (w0 := w5) (W := w5) w.heap.size rfl (.tmp 107) (.tmp 109) 26 32 (.agg #[.int .i64 0, .int .i64 0, .int .i64 0, .bool false, .slice none 0 0, .int .i64 0]) 64 rfl und26 infoFound rfl (by decide) (by omega) u5 rs (tri (kv), false, [], t.raw.ht) [.int .i64 kv.lo, .int .i64 kv.hi, .int .i64 kv.v, .bool false, .slice none 0 0, .int .i64 t.raw.ht] (fun b => b ≠ R ∧ b ∉ t.ids) (fun k_ => some k_ = Value.ownBlock (.slice none 0 0)) rfl rfl HM.out (fun k_ hk => H5.out.okp k_ hk.symm) ?aF ?aO (Below.refl _ _) (Nat.le_trans H5.out.sz (Nat.le_trans (by omega) H5.out.big)) ?aL ?_; (case aF => exact fun k_ hk => ⟨by have := H5.out.rlt; have := H5.out.big; omega, fun hb_ => by have := H5.out.tree.lt.2 _ hb_; omega⟩); (case aO => exact Kd.S_mono H5.out.row (fun k_ hk => ⟨hk.1, fun e_ => by have h1_ := (H5.out.krow k_ e_.symm).1; have h2_ := hk.2; omega⟩)); (case aL => have h1_ := HZ.out.1; have h2_ := HL.out; omega); intro v1 w6 ho hb hg hat; have H6 := hid (H5.out.append ho hg); clear ho hb hg hat)))
                      clear e0 e1 e2 e3 e4 e5 HM H5
                      go_roundg k1
                      case measure => omega
                      case rel => exact ⟨i + 1, t, rs ++ [(tri (kv), false, [], t.raw.ht)], rfl, HL.out, by have := HG.out; show k1 + (i + 1) = _; omega, H6.out, by rw [List.length_append, HZ.out.1]; rfl, by rw [← HZ.out.2.1, HX.out, List.append_assoc]; show _ = rs ++ (tellT t.raw _ :: toldT (stepT t.raw _) _); rw [← HS.out.1, HS.out.2]; rfl, by rw [← HZ.out.2.2.1, HX.out]; show _ = runT (stepT t.raw _) _; rw [← HS.out.1], by rw [HS.out.1]; have h1 := size_step t.raw (7, lo, hi, v); have h2_ := HZ.out.2.2.2; have h3_ := HL.out; omega⟩
                    · have HS : Hid (t.raw = stepT t.raw (d, lo, hi, v) ∧ tellT t.raw (d, lo, hi, v) = (tri ⟨0, 0, 0⟩, false, [], 0)) := by
                        refine ⟨?_, ?_⟩
                        · simp [stepT, h0, h1, h2]
                        · simp [tellT, h0, h1, h2, h3, h4, h5, h6, h7]
                      go_upto_region 28 with fail
                      generalize ((wr.alloc (.cells #[.int .i64 d, .int .i64 lo, .int .i64 hi, .int .i64 v] 25)).alloc (.cells #[.int .i64 0, .int .i64 0, .int .i64 0, .bool false, .slice none 0 0, .int .i64 0] 32)).alloc (.cells #[.int .i64 0, .int .i64 0, .int .i64 0] 74) = w3 at H2 ⊢
                      have H3 : Hid (St base R wr.heap.size t0 w t u5 rs (F8 0 0 0 false (.slice none 0 0) 0) ⟨0, 0, 0⟩ (.slice none 0 0) [] w3) := H2
                      clear H2
                      obtain ⟨kv, hkv⟩ : ∃ kv : S, (⟨0, 0, 0⟩ : S) = kv := ⟨_, rfl⟩
                      rw [hkv] at H3 HS
                      clear hkv
                      have g0 : w3.cell? ⟨wr.heap.size + 1 + 1, 0, none⟩ = some (.int .i64 kv.lo) := H3.out.x9.cell 0
                      have g1 : w3.cell? ⟨wr.heap.size + 1 + 1, 1, none⟩ = some (.int .i64 kv.hi) := H3.out.x9.cell 1
                      have g2 : w3.cell? ⟨wr.heap.size + 1 + 1, 2, none⟩ = some (.int .i64 kv.v) := H3.out.x9.cell 2
                      go_wp2_with fail
                      refine (span_any (kv).lo (kv).hi (kv).v w3).mono ?_
                      rintro e w4 ⟨rfl, hb⟩
                      have H4 := hid (H3.out.below hb)
                      clear hb H3 g0 g1 g2
                      have e0 : w4.cell? ⟨wr.heap.size + 1, 0, none⟩ = some (.int .i64 0) := H4.out.x8.cell 0
                      have e1 : w4.cell? ⟨wr.heap.size + 1, 1, none⟩ = some (.int .i64 0) := H4.out.x8.cell 1
                      have e2 : w4.cell? ⟨wr.heap.size + 1, 2, none⟩ = some (.int .i64 0) := H4.out.x8.cell 2
                      have e3 : w4.cell? ⟨wr.heap.size + 1, 3, none⟩ = some (.bool false) := H4.out.x8.cell 3
                      have e4 : w4.cell? ⟨wr.heap.size + 1, 4, none⟩ = some (.slice none 0 0) := H4.out.x8.cell 4
                      have e5 : w4.cell? ⟨wr.heap.size + 1, 5, none⟩ = some (.int .i64 0) := H4.out.x8.cell 5
                      have f0 : w4.frozen? ⟨wr.heap.size + 1, 0, none⟩ = false := H4.out.x8.free 0
                      have f1 : w4.frozen? ⟨wr.heap.size + 1, 1, none⟩ = false := H4.out.x8.free 1
                      have f2 : w4.frozen? ⟨wr.heap.size + 1, 2, none⟩ = false := H4.out.x8.free 2
                      have HF4 : Hid (Fr (· = wr.heap.size + 1) w4 (((w4.setCell ⟨wr.heap.size + 1, 0, none⟩ (.int .i64 kv.lo)).setCell ⟨wr.heap.size + 1, 1, none⟩ (.int .i64 kv.hi)).setCell ⟨wr.heap.size + 1, 2, none⟩ (.int .i64 kv.v))) := (Fr.one.then Fr.one).then Fr.one
                      have H5 := hid (H4.out.to8 HF4.out (((H4.out.x8.set 0 (.int .i64 kv.lo)).set 1 (.int .i64 kv.hi)).set 2 (.int .i64 kv.v)))
                      go_upto_region 29 with fail
                      clear e0 e1 e2 e3 e4 e5 f0 f1 f2 HF4 H4
                      replace H5 : Hid (St base R wr.heap.size t0 w t u5 rs (F8 (kv).lo (kv).hi (kv).v false (.slice none 0 0) (0)) (kv) (.slice none 0 0) ([]) (((w4.setCell ⟨wr.heap.size + 1, 0, none⟩ (.int .i64 kv.lo)).setCell ⟨wr.heap.size + 1, 1, none⟩ (.int .i64 kv.hi)).setCell ⟨wr.heap.size + 1, 2, none⟩ (.int .i64 kv.v))) := H5
                      generalize ((w4.setCell ⟨wr.heap.size + 1, 0, none⟩ (.int .i64 kv.lo)).setCell ⟨wr.heap.size + 1, 1, none⟩ (.int .i64 kv.hi)).setCell ⟨wr.heap.size + 1, 2, none⟩ (.int .i64 kv.v) = w5 at H5 ⊢
                      have e0 : w5.cell? ⟨wr.heap.size + 1, 0, none⟩ = some (.int .i64 kv.lo) := H5.out.x8.cell 0
                      have e1 : w5.cell? ⟨wr.heap.size + 1, 1, none⟩ = some (.int .i64 kv.hi) := H5.out.x8.cell 1
                      have e2 : w5.cell? ⟨wr.heap.size + 1, 2, none⟩ = some (.int .i64 kv.v) := H5.out.x8.cell 2
                      have e3 : w5.cell? ⟨wr.heap.size + 1, 3, none⟩ = some (.bool false) := H5.out.x8.cell 3
                      have e4 : w5.cell? ⟨wr.heap.size + 1, 4, none⟩ = some (.slice none 0 0) := H5.out.x8.cell 4
                      have e5 : w5.cell? ⟨wr.heap.size + 1, 5, none⟩ = some (.int .i64 0) := H5.out.x8.cell 5
                      have HM := hid (found_M (base := w.heap.size) (ok' := fun k_ => some k_ = Value.ownBlock (.slice none 0 0)) (by have := H5.out.sz; omega) H5.out.kr (fun k_ hk => hk.symm) (kv).lo (kv).hi (kv).v false (0))
                      go_wp2_with (first | (at_builtin; go_loud (refine Kd.S_append foundK (w0 := w5) (W := w5) w.heap.size rfl (.tmp 107) (.tmp 109) 26 32 (.agg #[.int .i64 0, .int .i64 0, .int .i64 0, .bool false, .slice none 0 0, .int .i64 0]) 64 rfl und26 infoFound rfl (by decide) (by omega) u5 rs (tri (kv), false, [], 0) [.int .i64 kv.lo, .int .i64 kv.hi, .int .i64 kv.v, .bool false, .slice none 0 0, .int .i64 0] (fun b => b ≠ R ∧ b ∉ t.ids) (fun k_ => some k_ = Value.ownBlock (.slice none 0 0)) rfl rfl HM.out (fun k_ hk => H5.out.okp k_ hk.symm) ?aF ?aO (Below.refl _ _) (Nat.le_trans H5.out.sz (Nat.le_trans (by omega) H5.out.big)) ?aL ?_; (case aF => exact fun k_ hk => ⟨by have := H5.out.rlt; have := H5.out.big; omega, fun hb_ => by have := H5.out.tree.lt.2 _ hb_; omega⟩); (case aO => exact Kd.S_mono H5.out.row (fun k_ hk => ⟨hk.1, fun e_ => by have h1_ := (H5.out.krow k_ e_.symm).1; have h2_ := hk.2; omega⟩)); (case aL => have h1_ := HZ.out.1; have h2_ := HL.out; omega); intro v1 w6 ho hb hg hat; have H6 := hid (H5.out.append ho hg); clear ho hb hg hat)))
                      clear e0 e1 e2 e3 e4 e5 HM H5
                      go_roundg k1
                      case measure => omega
                      case rel => exact ⟨i + 1, t, rs ++ [(tri (kv), false, [], 0)], rfl, HL.out, by have := HG.out; show k1 + (i + 1) = _; omega, H6.out, by rw [List.length_append, HZ.out.1]; rfl, by rw [← HZ.out.2.1, HX.out, List.append_assoc]; show _ = rs ++ (tellT t.raw _ :: toldT (stepT t.raw _) _); rw [← HS.out.1, HS.out.2]; rfl, by rw [← HZ.out.2.2.1, HX.out]; show _ = runT (stepT t.raw _) _; rw [← HS.out.1], by rw [HS.out.1]; have h1 := size_step t.raw (d, lo, hi, v); have h2_ := HZ.out.2.2.2; have h3_ := HL.out; omega⟩
    · have e : i = l.length := by omega
      subst e
      have HF : Hid (rs = toldT t0.raw l ∧ t.raw = runT t0.raw l) := by
        have h1 := HI.out.2.2.1
        have h2 := HI.out.2.2.2.1
        rw [List.drop_length] at h1 h2
        exact ⟨by simpa [toldT] using h1, h2⟩
      go_wp2_with fail
      go_ret
      exact ⟨t, _, rfl, HF.out.2, HF.out.1 ▸ HI.out.1⟩

set_option maxRecDepth 100000 in
theorem IntervalRun_any (A : Option Addr) (c : Nat) (l : List Mk) (w : World) (hC : Kd.C markK w A l.length l) (hl : l.length ≤ 1099511627776) (hfit : Fit l) :
    Calls Try.prog 11 #[.slice A l.length c] w fun e w' => ∃ v, e = .returned v ∧ Kd.S foundK 32 w' w.heap.size (fun _ => True) v (toldT .nil l) ∧ Below w.heap.size w w' := by
  have HC := hid hC
  have HF := hid hfit
  clear hC hfit
  go_enter Try.func11, Try.ntmps11
  go_wp2_with fail
  refine (tNew_any w).mono ?_
  rintro e w2 ⟨R, rfl, hT, hB⟩
  have HT := hid hT
  have HB2 := hid hB
  clear hT hB
  go_wp2_with fail
  refine (intervalDo_any w.heap.size R .nil w2 A c l HT.out HB2.out.size (fun W hW => ?_) ?_ hl HF.out).mono ?_
  · exact Kd.C_below HC.out (HB2.out.trans hW)
  · show (0 : Int) + _ ≤ _
    omega
  rintro e w3 ⟨t', v, rfl, hraw, hI⟩
  have HI := hid hI
  clear hI hraw
  go_wp2_with fail
  go_ret
  have b2 := HB2.out
  have b3 : Below w.heap.size w2 w3 := HI.out.fr.below b2.size (fun k hk => by
    rcases hk with rfl | hk
    · exact HT.out.ge
    · simp [N.ids] at hk)
  exact ⟨_, rfl, Kd.S_mono (Kd.S_lower HI.out.row b2.size) (fun _ _ => trivial), b2.trans b3⟩
end Go.Proofs.Ytmnjkdbopafkfaa.Int
