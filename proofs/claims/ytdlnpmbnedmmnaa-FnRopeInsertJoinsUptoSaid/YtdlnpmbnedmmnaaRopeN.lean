/- Ropes in memory: a script of steps, one behind the other. For every row and every script whose steps may be done. -/
import Derived.Test.YtdlnpmbnedmmnaaRopeM
import Derived.Test.YtdlnpmbnedmmnaaRow
import Derived.Deep.LoopGhost
namespace Go.Proofs.Ytdlnpmbnedmmnaa.Rope
open Go Go.RowKit Go.Deep Go.Proofs.Ytdlnpmbnedmmnaa.Hk Go.Proofs.Ytdlnpmbnedmmnaa.RopePure Go.Proofs.YtdlnpmbnedmmnaaW.PrintWords Go.Proofs.YtdlnpmbnedmmnaaW.PrintLast Go.Proofs.YtdlnpmbnedmmnaaW.PrintMore
theorem ro_of {w : World} {base : Nat} {ok : Nat → Prop} {v : Value} {xs : List Int} (h : w.ownsRow base 3 1 v xs.length (xs.map (Value.int .i64))) (hok : ∀ k, v.ownBlock = some k → ok k) : (Kd.int .i64).R 3 w base ok v xs :=
  ⟨hok, _, h, by show (xs.map (Value.int .i64)).length = xs.length * 1; rw [List.length_map]; omega, fun j p hj => by
    show ((xs.map (Value.int .i64)).drop (j * 1)).take 1 = [Value.int .i64 p]
    have hlt : j < (xs.map (Value.int .i64)).length := by rw [List.length_map]; exact (List.getElem?_eq_some_iff.1 hj).1
    rw [Nat.mul_one, List.drop_eq_getElem_cons hlt]
    have : (xs.map (Value.int .i64))[j]? = some (Value.int .i64 p) := by rw [List.getElem?_map, hj]; rfl
    rw [List.getElem?_eq_getElem hlt] at this
    rw [Option.some.inj this]
    rfl⟩
theorem Mid.gathered {t : N} {S : Nat} {p : Part3} {V1 V2 : Value} {w W0 W : World} (h : Mid t t S zeroP (.slice none 0 0) (.slice none 0 0) w W0) (ht : t.In w) (h3 : W0.heap.size = S + 3) (h0 : p.1 = 0) (hA : Acc (S + 3) (S + 2) p.2.1 p.2.2 V1 V2 W) (hF : Fr (fun k => k = S + 2 ∨ S + 3 ≤ k) W0 W) : Mid t t S p V1 V2 w W := by
  have hs := h.sz
  have hlow : ∀ k o, t.own k o → k < S := fun k o ho => by have := ht.lt k o ho; omega
  have hfar : ∀ (V : Value) (n : Nat) (xs : List Value), W.ownsRow (S + 3) 3 1 V n xs → ∀ k, V.ownBlock = some k → ∀ o, ¬ t.own k o := fun V n xs ho k e o a => by
    have := (ho.lt k e).1; have := hlow k o a; omega
  refine ⟨hs, h.hin.fr hF (fun k o ho e => by have := hlow k o ho; omega), h.own, h.fz.trans (⟨hF.os, hF.tape, hF.output, hF.size, fun k o hk hn => ?_, fun k o hk => ?_, fun k hk hn => ?_⟩ : Fz (fun k _ => k = S + 2 ∨ S + 3 ≤ k) W0 W) (fun n o hn e => by omega), h.res.fr hF (fun e => by omega), ?_, ro_of hA.r1 (hfar _ _ _ hA.r1), ro_of hA.r2 (hfar _ _ _ hA.r2)⟩
  · exact cell_of_block (hF.block k hk hn)
  · by_cases e : k = S + 2
    · subst e
      have b0 := h.box
      have b1 := hA.blk
      unfold Blk at b0 b1
      unfold World.frozen?
      rw [show (⟨S + 2, o, none⟩ : Addr).block = S + 2 from rfl, b0, b1]
    · exact froz_of_block (hF.block k hk (fun q => by omega))
  · exact hF.block k hk (hn 0)
  · have := hA.blk
    rw [h0]
    exact this
set_option maxHeartbeats 8000000 in
set_option maxRecDepth 100000 in
theorem rdo_11 (t : N) (a b : Int) (Ad : Option Addr) (dc : Nat) (data : List Int) (w : World) (hin : t.In w) (_hm : mayR t.raw (11, a, b, data)) (hl : t.len + data.length ≤ 1099511627776) (hsz : t.raw.sizes.length ≤ 1099511627776) (hD : Kd.C (Kd.int .i64) w Ad data.length data) :
    Calls Try.prog 26 #[t.ptr, .agg #[.int .i64 11, .int .i64 a, .int .i64 b, .slice Ad data.length dc]] w (Done t (stepR t.raw (11, a, b, data)) (tellR t.raw (11, a, b, data)) w) := by
  have HI := hid hin
  have HL := hid hl
  have HD := hid hD
  have HM0 := hid (Mid.start w 11 a b (.slice Ad data.length dc) hin)
  have HE := hid (And.intro (enter_below w 11 a b (.slice Ad data.length dc)) (enter_size w 11 a b (.slice Ad data.length dc)))
  have HCut := hid (enter_cut w 11 a b (.slice Ad data.length dc))
  clear hin hD hl
  have HZ := hid hsz
  clear hsz
  go_enter Try.func26, Try.ntmps26
  go_wp2_with fail
  have hacc : Acc (w.heap.size + 3) (w.heap.size + 2) [] [] (.slice none 0 0) (.slice none 0 0) (enter w 11 a b (.slice Ad data.length dc)) := ⟨HM0.out.box, by omega, by rw [HE.out.2]; exact Nat.le_refl _, World.ownsRow_nil _ _ _ _, World.ownsRow_nil _ _ _ _, fun k hk => by simp [Value.ownBlock] at hk⟩
  refine (show Calls Try.prog 36 #[t.ptr, .func (.func 37) #[] #[.pointer (some ⟨w.heap.size + 2, 0, none⟩)]] (enter w 11 a b (.slice Ad data.length dc)) _ from Each_any (w.heap.size + 3) (w.heap.size + 2) t [] [] _ _ _ HM0.out.hin (fun k o ho => by have := HI.out.lt k o ho; omega) hacc (by have : t.raw.flat.length = t.len := rfl; have := HL.out; rw [List.length_nil]; omega) (by rw [List.length_nil, Nat.zero_add]; exact HZ.out)).mono ?_
  clear hacc
  rintro e W ⟨rfl, V1, V2, hA, hF⟩
  rw [List.nil_append, List.nil_append] at hA
  obtain ⟨A1, k1, rfl⟩ := own_slice hA.r1
  obtain ⟨A2, k2, rfl⟩ := own_slice hA.r2
  have HM := hid (HM0.out.gathered (p := (0, t.raw.flat, ints t.raw.sizes)) HI.out HE.out.2 rfl hA hF)
  clear hA hF
  generalize hg1 : t.raw.flat.length = n1 at HM ⊢
  generalize hg2 : (ints t.raw.sizes).length = n2 at HM ⊢
  clear hg1 hg2
  rw [show t.ptr = .pointer (some ⟨t.blk, 0, none⟩) from rfl]
  have e0 : W.cell? ⟨w.heap.size + 1 + 1, 0, none⟩ = some (.int .i64 0) := HM.out.box.cell 0
  have e1 : W.cell? ⟨w.heap.size + 1 + 1, 1, none⟩ = some (.slice A1 n1 k1) := HM.out.box.cell 1
  have e2 : W.cell? ⟨w.heap.size + 1 + 1, 2, none⟩ = some (.slice A2 n2 k2) := HM.out.box.cell 2
  have g0 : W.cell? ⟨w.heap.size + 1, 0, none⟩ = some (.int .i64 0) := HM.out.res.cell 0
  have g1 : W.cell? ⟨w.heap.size + 1, 1, none⟩ = some (.slice none 0 0) := HM.out.res.cell 1
  have g2 : W.cell? ⟨w.heap.size + 1, 2, none⟩ = some (.slice none 0 0) := HM.out.res.cell 2
  have h0 : W.frozen? ⟨w.heap.size + 1, 0, none⟩ = false := HM.out.res.free 0
  have h1 : W.frozen? ⟨w.heap.size + 1, 1, none⟩ = false := HM.out.res.free 1
  have h2 : W.frozen? ⟨w.heap.size + 1, 2, none⟩ = false := HM.out.res.free 2
  go_wp2_with fail
  refine still_tail_drew 3 (by kernel_rfl) (by kernel_rfl) ?_
  simp only [List.take_succ_cons, List.take_zero, List.drop_succ_cons, List.drop_zero]
  repeat still_step
  refine wpStill_nil ?_
  change wpList _ _ _ _ _ W.drew
  go_wp2_with fail
  refine bodyPost_ret (v := .tuple #[.pointer (some ⟨t.blk, 0, none⟩), .agg #[.int .i64 0, .slice A1 n1 k1, .slice A2 n2 k2]]) (by simp [results, Try.results26, go_sem, g0, g1, g2]) rfl ?_
  have hh := HM.out.done HI.out
  rw [show stepR t.raw _ = t.raw from by simp [stepR], show tellR t.raw _ = (0, t.raw.flat, ints t.raw.sizes) from by simp [tellR]]
  exact hh
/-- One step, whatever it is. -/
theorem ropeDo_any (t : N) (d a b : Int) (Ad : Option Addr) (dc : Nat) (data : List Int) (w : World) (hin : t.In w) (hm : mayR t.raw (d, a, b, data)) (hl : t.len + data.length ≤ 1099511627776) (hsz : t.raw.sizes.length ≤ 1099511627776) (hD : Kd.C (Kd.int .i64) w Ad data.length data) :
    Calls Try.prog 26 #[t.ptr, .agg #[.int .i64 d, .int .i64 a, .int .i64 b, .slice Ad data.length dc]] w (Done t (stepR t.raw (d, a, b, data)) (tellR t.raw (d, a, b, data)) w) := by
  by_cases h0 : d = 0
  · subst h0; exact rdo_0 t a b Ad dc data w hin hm hl hD
  by_cases h1 : d = 1
  · subst h1; exact rdo_1 t a b Ad dc data w hin hm hl hD
  by_cases h2 : d = 2
  · subst h2; exact rdo_2 t a b Ad dc data w hin hm hl hD
  by_cases h3 : d = 3
  · subst h3; exact rdo_3 t a b Ad dc data w hin hm hl hD
  by_cases h4 : d = 4
  · subst h4; exact rdo_4 t a b Ad dc data w hin hm hl hD
  by_cases h5 : d = 5
  · subst h5; exact rdo_5 t a b Ad dc data w hin hm hl hD
  by_cases h6 : d = 6
  · subst h6; exact rdo_6 t a b Ad dc data w hin hm hl hD
  by_cases h7 : d = 7
  · subst h7; exact rdo_7 t a b Ad dc data w hin hm hl hD
  by_cases h8 : d = 8
  · subst h8; exact rdo_8 t a b Ad dc data w hin hm hl hD
  by_cases h9 : d = 9
  · subst h9; exact rdo_9 t a b Ad dc data w hin hm hl hD
  by_cases h10 : d = 10
  · subst h10; exact rdo_10 t a b Ad dc data w hin hm hl hD
  by_cases h11 : d = 11
  · subst h11; exact rdo_11 t a b Ad dc data w hin hm hl hsz hD
  exact rdo_else d h0 h1 h2 h3 h4 h5 h6 h7 h8 h9 h10 h11 t a b Ad dc data w hin hm hl hD
def runR : T → List Cut4 → T
  | t, [] => t
  | t, c :: l => runR (stepR t c) l
def toldR : T → List Cut4 → List Part3
  | _, [] => []
  | t, c :: l => tellR t c :: toldR (stepR t c) l
/-- All steps may be done, and all stays within bounds. -/
def okR : T → List Cut4 → Prop
  | _, [] => True
  | t, c :: l => mayR t c ∧ t.len + c.2.2.2.length ≤ 1099511627776 ∧ t.sizes.length ≤ 1099511627776 ∧ okR (stepR t c) l
def cutK : Kd Cut4 := Kd.pair (Kd.int .i64) (Kd.pair (Kd.int .i64) (Kd.pair (Kd.int .i64) (Kd.slice 3 (Kd.int .i64))))
theorem at_cut {w : World} {A : Option Addr} {n : Nat} {xs : List Cut4} (h : Kd.C cutK w A n xs) (i : Nat) (hi : i < xs.length) : ∃ ad Ad dc, A = some ad ∧ w.cell? (ad.add (i * 4)) = some (.int .i64 xs[i].1) ∧
    w.cell? ⟨(ad.add (i * 4)).block, (ad.add (i * 4)).off + 1, none⟩ = some (.int .i64 xs[i].2.1) ∧ w.cell? ⟨(ad.add (i * 4)).block, (ad.add (i * 4)).off + 2, none⟩ = some (.int .i64 xs[i].2.2.1) ∧
    w.cell? ⟨(ad.add (i * 4)).block, (ad.add (i * 4)).off + 3, none⟩ = some (.slice Ad xs[i].2.2.2.length dc) ∧ Kd.C (Kd.int .i64) w Ad xs[i].2.2.2.length xs[i].2.2.2 := by
  have hn := h.1
  obtain ⟨ad, c, e, _, hK, hc0⟩ := Kd.C_get h ((0, 0, 0, []) : Cut4) i (by omega) (by omega)
  have hx : xs.getD (i : Int).toNat (0, 0, 0, []) = xs[i] := by simp [List.getD_eq_getElem?_getD, hi]
  rw [hx] at hK
  have hc : ∀ j u, c[j]? = some u → w.cell? (ad.add (i * 4 + j)) = some u := hc0
  obtain ⟨c0, c1, rfl, h0, d0, d1, rfl, h1, e0, e1, rfl, h2, Ad, dc, rfl, _, h3⟩ := hK
  cases h0; cases h1; cases h2
  exact ⟨ad, Ad, dc, e, hc 0 _ rfl, by rw [← add_field _ _ 1 (by omega)]; exact hc 1 _ rfl, by rw [← add_field _ _ 2 (by omega)]; exact hc 2 _ rfl, by rw [← add_field _ _ 3 (by omega)]; exact hc 3 _ rfl, h3⟩
theorem infoPart : (Try.prog.info? 34).map (fun i => (i.zero, i.size, i.bytes)) = some (some (.agg #[(.int .i64 0), (.slice none 0 0), (.slice none 0 0)]), 3, 56) := by kernel_rfl
theorem part_rows {W : World} {base N0 : Nat} {ok : Nat → Prop} {n : Int} {V1 V2 : Value} {xs ys : List Int} (hb : base ≤ N0) (h1 : (Kd.int .i64).R 3 W N0 ok V1 xs) (h2 : (Kd.int .i64).R 3 W N0 ok V2 ys) : partK.M W base (fun k => N0 ≤ k ∧ ok k) (n, xs, ys) [.int .i64 n, V1, V2] :=
  ⟨[_], [_, _], rfl, rfl, [_], [_], rfl, ⟨_, rfl, Kd.R_lower (Kd.R_reok rfl h1 (fun k hk => ⟨(ro_ge h1 k hk).1, h1.1 k hk⟩)) hb⟩, ⟨_, rfl, Kd.R_lower (Kd.R_reok rfl h2 (fun k hk => ⟨(ro_ge h2 k hk).1, h2.1 k hk⟩)) hb⟩⟩
theorem ro_far {w w' : World} {base : Nat} {ok : Nat → Prop} {v : Value} {xs : List Int} (h : (Kd.int .i64).R 3 w base ok v xs) (hs : ∀ k, base ≤ k → k < w.heap.size → w'.heap[k]? = w.heap[k]?) : (Kd.int .i64).R 3 w' base ok v xs :=
  Kd.R_mono (Kd.R_step (Kd.R_reok (ok := fun k => base ≤ k ∧ ok k) rfl h (fun k e => ⟨(ro_ge h k e).1, h.1 k e⟩)) (fun k a b => hs k a.1 b)) (fun _ a => a.2)
/-- What holds between the steps. -/
structure Inv (w : World) (t : N) (out : Value) (rs : List Part3) (wr : World) : Prop where
  hin : t.In wr
  own : ∀ k o, t.own k o → w.heap.size ≤ k
  row : Kd.S partK 34 wr w.heap.size (fun k => ∀ o, ¬ t.own k o) out rs
  bel : Below w.heap.size w wr
set_option maxHeartbeats 8000000 in
set_option maxRecDepth 100000 in
theorem RopeRun_any (Af : Option Addr) (cf : Nat) (first : List Int) (A : Option Addr) (c : Nat) (l : List Cut4) (w : World) (hf : Kd.C (Kd.int .i64) w Af first.length first) (hC : Kd.C cutK w A l.length l) (hl : l.length ≤ 1099511627776) (h1 : first.length ≤ 1099511627776) (hok : okR (T.new first) l) :
    Calls Try.prog 15 #[.slice Af first.length cf, .slice A l.length c] w fun e w' => ∃ v, e = .returned v ∧ Kd.S partK 34 w' w.heap.size (fun _ => True) v (toldR (T.new first) l) ∧ Below w.heap.size w w' := by
  have HC := hid hC
  have HLL := hid (And.intro hl h1)
  have HF := hid hf
  have HOK := hid hok
  clear hC hf hok h1
  go_enter Try.func15, Try.ntmps15
  go_wp2_with fail
  refine (copied_any Af cf first w HF.out HLL.out.2).mono ?_
  rintro e w1 ⟨v, rfl, hR, hB1⟩
  obtain ⟨Av, cv, rfl, hs, hz⟩ := hR.seg
  have H1 := hid (And.intro hs (And.intro hz hB1))
  clear hR hs hz hB1
  go_wp2_with fail
  refine (New_any first HLL.out.2 Av cv w1 H1.out.1).mono ?_
  rintro e w2 ⟨t0, rfl, a1, a2, a3, a4⟩
  have H2 : Hid (t0.raw = T.new first ∧ Inv w t0 (.slice none 0 0) [] w2) := hid ⟨a1, a2, fun k o p => by
    rcases a3 k o p with q | q
    · obtain ⟨q1, e1, g1, g2⟩ := q
      exact H1.out.2.1 k o ⟨q1, e1, g1, by have := H1.out.1.le; omega⟩
    · exact Nat.le_trans H1.out.2.2.size q, Kd.S_nil .., below_at H1.out.2.2 a4 H1.out.2.2.size⟩
  clear a1 a2 a3 a4
  go_wp2_with fail
  go_loopg [5, 6, 15] l.length (fun g v5 v6 v15 wr => ∃ (i : Nat) (t : N) (rs : List Part3), v5 = t.ptr ∧ v15 = .int .i64 i ∧ i ≤ l.length ∧ Hid (g + i = l.length) ∧ Hid (Inv w t v6 rs wr ∧ rs.length = i ∧ rs ++ toldR t.raw (l.drop i) = toldR (T.new first) l ∧ okR t.raw (l.drop i)))
  case atStart => exact ⟨0, t0, [], rfl, rfl, Nat.zero_le _, Nat.add_zero _, H2.out.2, rfl, by rw [H2.out.1]; rfl, by rw [H2.out.1]; exact HOK.out⟩
  case round =>
    obtain ⟨i, t, rs, rfl, rfl, hi, HG, HI⟩ := hrel
    by_cases hlt : i < l.length
    · obtain ⟨ad, Ad, dc, rfl, x0, x1, x2, x3, xC⟩ := at_cut (Kd.C_below HC.out HI.out.1.bel) i hlt
      have HX : Hid (l.drop i = l[i] :: l.drop (i + 1)) := List.drop_eq_getElem_cons hlt
      generalize l[i] = x at x0 x1 x2 x3 xC HX
      obtain ⟨d, a, b, data⟩ := x
      simp only at x0 x1 x2 x3 xC
      have HL := hid hlt
      have HD := hid xC
      obtain ⟨k1, rfl⟩ : ∃ k1, gk = k1 + 1 := ⟨gk - 1, by have := HG.out; omega⟩
      clear hlt xC
      rw [HX.out] at HI
      go_wp2_with fail
      have HB0 := hid (show Below wr.heap.size wr ((wr.alloc (.cells #[.int .i64 d, .int .i64 a, .int .i64 b, .slice Ad data.length dc] 38)).alloc (.cells #[.int .i64 0, .slice none 0 0, .slice none 0 0] 34)) from ((Below.refl _ _).alloc (Nat.le_refl _) _).alloc (by rw [alloc_size]; exact Nat.le_succ _) _)
      have HX9 := hid (show Blk ((wr.alloc (.cells #[.int .i64 d, .int .i64 a, .int .i64 b, .slice Ad data.length dc] 38)).alloc (.cells #[.int .i64 0, .slice none 0 0, .slice none 0 0] 34)) (wr.heap.size + 1) #[.int .i64 0, .slice none 0 0, .slice none 0 0] 34 from by
        have h0_ := Blk.new (wr.alloc (.cells #[.int .i64 d, .int .i64 a, .int .i64 b, .slice Ad data.length dc] 38)) #[.int .i64 0, .slice none 0 0, .slice none 0 0] 34
        rw [alloc_size] at h0_
        exact h0_)
      have HS0 := hid (show ((wr.alloc (.cells #[.int .i64 d, .int .i64 a, .int .i64 b, .slice Ad data.length dc] 38)).alloc (.cells #[.int .i64 0, .slice none 0 0, .slice none 0 0] 34)).heap.size = wr.heap.size + 2 from by simp)
      generalize ((wr.alloc (.cells #[.int .i64 d, .int .i64 a, .int .i64 b, .slice Ad data.length dc] 38)).alloc (.cells #[.int .i64 0, .slice none 0 0, .slice none 0 0] 34)) = W0 at HB0 HX9 HS0 ⊢
      have hmay := HI.out.2.2.2
      refine (ropeDo_any t d a b Ad dc data W0 (HI.out.1.hin.below HB0.out) hmay.1 hmay.2.1 hmay.2.2.1 (Kd.C_below HD.out HB0.out)).mono ?_
      rintro e W ⟨t', V1, V2, rfl, r1, r2, r3, r4, r5, r6⟩
      obtain ⟨A1, c1, rfl⟩ := Kd.R_slice r4
      obtain ⟨A2, c2, rfl⟩ := Kd.R_slice r5
      have HR := hid (And.intro r1 (And.intro r2 (And.intro r3 (And.intro r4 (And.intro r5 r6)))))
      have ht9 : ∀ o, ¬ t.own (wr.heap.size + 1) o := fun o ho => by have := HI.out.1.hin.lt _ _ ho; omega
      have hX : Blk W (wr.heap.size + 1) #[.int .i64 0, .slice none 0 0, .slice none 0 0] 34 := blk_fz HX9.out r6 ht9
      have g0 : W.cell? ⟨wr.heap.size + 1, 0, none⟩ = some (.int .i64 0) := hX.cell 0
      have g1 : W.cell? ⟨wr.heap.size + 1, 1, none⟩ = some (.slice none 0 0) := hX.cell 1
      have g2 : W.cell? ⟨wr.heap.size + 1, 2, none⟩ = some (.slice none 0 0) := hX.cell 2
      have f0 : W.frozen? ⟨wr.heap.size + 1, 0, none⟩ = false := hX.free 0
      have f1 : W.frozen? ⟨wr.heap.size + 1, 1, none⟩ = false := hX.free 1
      have f2 : W.frozen? ⟨wr.heap.size + 1, 2, none⟩ = false := hX.free 2
      have HX2 := hid hX
      have HT9 := hid ht9
      obtain ⟨pn, pv, ps, hp⟩ : ∃ pn pv ps, tellR t.raw (d, a, b, data) = (pn, pv, ps) := ⟨_, _, _, rfl⟩
      rw [hp] at HR
      have HP := hid hp
      generalize hn1 : (tellR t.raw (d, a, b, data)).2.1.length = n1
      generalize hn2 : (tellR t.raw (d, a, b, data)).2.2.length = n2
      rw [hp] at hn1 hn2
      rw [hp]
      have HN := hid (And.intro hn1 hn2)
      clear r1 r2 r3 r4 r5 r6 ht9 hX hp hn1 hn2 x0 x1 x2 x3 hmay
      rw [show t'.ptr = .pointer (some ⟨t'.blk, 0, none⟩) from rfl]
      go_upto_region 8 with fail
      have ht9' : ∀ o, ¬ t'.own (wr.heap.size + 1) o := fun o ho => by
        rcases HR.out.2.2.1 _ o ho with q | q
        · exact HT9.out o q
        · have := HS0.out; omega
      have F5 : Fz (fun k _ => k = wr.heap.size + 1) W (((W.setCell ⟨wr.heap.size + 1, 0, none⟩ (.int .i64 pn)).setCell ⟨wr.heap.size + 1, 1, none⟩ (.slice A1 n1 c1)).setCell ⟨wr.heap.size + 1, 2, none⟩ (.slice A2 n2 c2)) :=
        ((Fz.one.mono (fun _ _ _ e => e.1)).trans Fz.one (fun _ _ _ e => e.1)).trans Fz.one (fun _ _ _ e => e.1)
      have B5 : Blk (((W.setCell ⟨wr.heap.size + 1, 0, none⟩ (.int .i64 pn)).setCell ⟨wr.heap.size + 1, 1, none⟩ (.slice A1 n1 c1)).setCell ⟨wr.heap.size + 1, 2, none⟩ (.slice A2 n2 c2)) (wr.heap.size + 1) #[.int .i64 pn, .slice A1 n1 c1, .slice A2 n2 c2] 34 := ((HX2.out.set 0 _).set 1 _).set 2 _
      have HF5 := hid F5
      have HB5 := hid B5
      clear g0 g1 g2 f0 f1 f2 F5 B5
      generalize ((W.setCell ⟨wr.heap.size + 1, 0, none⟩ (.int .i64 pn)).setCell ⟨wr.heap.size + 1, 1, none⟩ (.slice A1 n1 c1)).setCell ⟨wr.heap.size + 1, 2, none⟩ (.slice A2 n2 c2) = W5 at HF5 HB5 ⊢
      have hsz5 : W0.heap.size ≤ W5.heap.size := Nat.le_trans HR.out.2.2.2.2.2.size HF5.out.size
      have H5 := hid (show Inv w t' u6 rs W5 from by
        refine ⟨HR.out.2.1.fz HF5.out (fun k o ho e => ht9' o (by rw [← e]; exact ho)), fun k o ho => ?_, ?_, ?_⟩
        · rcases HR.out.2.2.1 k o ho with q | q
          · exact HI.out.1.own k o q
          · have := HI.out.1.bel.size; have := HS0.out; omega
        · refine Kd.S_mono (Kd.S_step (Kd.S_bound HI.out.1.row) (fun k hk hlt => ?_)) (fun k hk o ho => ?_)
          · rw [HF5.out.block k (by have := HS0.out; have := HR.out.2.2.2.2.2.size; omega) (fun _ e => by omega), HR.out.2.2.2.2.2.block k (by have := HS0.out; omega) hk.1]
            exact HB0.out.block k hlt
          · rcases HR.out.2.2.1 k o ho with q | q
            · exact hk.1 o q
            · have := hk.2.2.1; have := HS0.out; omega
        · have b1 : Below w.heap.size w W0 := below_at HI.out.1.bel HB0.out HI.out.1.bel.size
          have b2 : Below w.heap.size W0 W := HR.out.2.2.2.2.2.below b1.size (fun k o ho => HI.out.1.own k o ho)
          have b3 : Below w.heap.size W W5 := HF5.out.below (Nat.le_trans b1.size HR.out.2.2.2.2.2.size) (fun k o e => by have := HI.out.1.bel.size; omega)
          exact (b1.trans b2).trans b3)
      have HM := hid (show partK.M W5 w.heap.size (fun k => W0.heap.size ≤ k ∧ ∀ o, ¬ t'.own k o) (pn, pv, ps) [.int .i64 pn, .slice A1 n1 c1, .slice A2 n2 c2] from by
        have m1 := ro_far HR.out.2.2.2.1 (w' := W5) (fun k a b => HF5.out.block k b (fun _ e => by have := HS0.out; omega))
        have m2 := ro_far HR.out.2.2.2.2.1 (w' := W5) (fun k a b => HF5.out.block k b (fun _ e => by have := HS0.out; omega))
        rw [HN.out.1] at m1
        rw [HN.out.2] at m2
        exact part_rows (by have := HI.out.1.bel.size; have := HS0.out; omega) m1 m2)
      have e0 : W5.cell? ⟨wr.heap.size + 1, 0, none⟩ = some (.int .i64 pn) := HB5.out.cell 0
      have e1 : W5.cell? ⟨wr.heap.size + 1, 1, none⟩ = some (.slice A1 n1 c1) := HB5.out.cell 1
      have e2 : W5.cell? ⟨wr.heap.size + 1, 2, none⟩ = some (.slice A2 n2 c2) := HB5.out.cell 2
      have HRI : Hid (Kd.S partK 34 W5 w.heap.size (fun k => (∀ o, ¬ t'.own k o) ∧ ¬ (W0.heap.size ≤ k ∧ ∀ o, ¬ t'.own k o)) u6 rs ∧ ∀ k, some k = u6.ownBlock → k < W0.heap.size) := hid (by
        have hlow := Kd.S_bound HI.out.1.row
        have h6 := (Kd.S_R hlow).1
        refine ⟨Kd.S_mono (Kd.S_step hlow (fun k hk hlt => ?_)) (fun k hk => ⟨fun o ho => ?_, fun q => ?_⟩), fun k e => ?_⟩
        · rw [HF5.out.block k (by have := HS0.out; have := HR.out.2.2.2.2.2.size; omega) (fun _ e => by omega), HR.out.2.2.2.2.2.block k (by have := HS0.out; omega) hk.1]
          exact HB0.out.block k hlt
        · rcases HR.out.2.2.1 k o ho with q | q
          · exact hk.1 o q
          · have := hk.2.2.1; have := HS0.out; omega
        · have := hk.2.2.1; have := HS0.out; omega
        · have := (h6 k e.symm).2.2.1; have := HS0.out; omega)
      clear ht9' hsz5
      go_wp2_with (first | (at_builtin; go_loud (refine Kd.S_append partK (w0 := W5) (W := W5) w.heap.size rfl (.tmp 25) (.tmp 27) 30 34 (.agg #[(.int .i64 0), (.slice none 0 0), (.slice none 0 0)]) 56 rfl Try.underlying30 infoPart rfl (by decide) (by omega) u6 rs (pn, pv, ps) [.int .i64 pn, .slice A1 n1 c1, .slice A2 n2 c2] (fun k => ∀ o, ¬ t'.own k o) (fun k => W0.heap.size ≤ k ∧ ∀ o, ¬ t'.own k o) rfl rfl HM.out (fun k hk => ⟨hk.2, fun e => absurd (HRI.out.2 k e) (by omega)⟩) (fun k hk o ho => H5.out.hin.far hk ho) HRI.out.1 (Below.refl _ _) H5.out.bel.size ?aL ?_; (case aL => have h1 := HI.out.2.1; have h2 := HL.out; have h3 := HLL.out.1; omega); intro v1 w3 ho hb hg hat)))
      have HE := hid (show Inv w t' v1 (rs ++ [(pn, pv, ps)]) w3 from by
        have hR0 := Kd.S_R H5.out.row
        refine ⟨H5.out.hin.same (fun k o hk => hg.block k (H5.out.hin.lt k o hk) (fun e => hR0.1 k e.symm o hk)), H5.out.own, ho, ?_⟩
        have hb3 : Below w.heap.size W5 w3 := ⟨hg.os, hg.tape, hg.output, hg.size, fun k hk => hg.block k (by have := H5.out.bel.size; omega) (fun e => by have := Kd.R_base hR0 k e.symm; omega)⟩
        exact H5.out.bel.trans hb3)
      clear ho hb hg hat e0 e1 e2
      go_wp2_with fail
      go_roundg k1
      case measure => omega
      case rel => exact ⟨i + 1, t', rs ++ [(pn, pv, ps)], rfl, rfl, HL.out, by have := HG.out; show k1 + (i + 1) = _; omega, HE.out, by rw [List.length_append, HI.out.2.1]; rfl, by rw [← HI.out.2.2.1, List.append_assoc, HR.out.1]; show _ = rs ++ (tellR _ _ :: toldR (stepR _ _) _); rw [HP.out]; rfl, by rw [HR.out.1]; exact HI.out.2.2.2.2.2.2⟩
    · have hil : i = l.length := by omega
      have hdrop : l.drop i = [] := List.drop_eq_nil_of_le (by omega)
      have HV := hid HI.out
      rw [show l.drop i = [] from hdrop] at HV
      have hlt2 : ¬ ((i : Int) < (l.length : Int)) := by omega
      go_wp2_with fail
      go_ret
      refine ⟨_, rfl, ?_, HV.out.1.bel⟩
      have h := HV.out.2.2.1
      rw [show toldR t.raw [] = [] from rfl, List.append_nil] at h
      rw [← h]
      exact Kd.S_mono HV.out.1.row (fun _ _ => trivial)
end Go.Proofs.Ytdlnpmbnedmmnaa.Rope
