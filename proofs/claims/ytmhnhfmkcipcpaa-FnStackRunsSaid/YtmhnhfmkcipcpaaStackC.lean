/- Stacks in memory: the run of a script. For every script. -/
import Derived.Test.YtmhnhfmkcipcpaaStackB
namespace Go.Proofs.Ytmhnhfmkcipcpaa.Stack
open Go Go.RowKit Go.Proofs.Ytmhnhfmkcipcpaa.Hk Go.Proofs.Ytmhnhfmkcipcpaa.HeapPure Go.Proofs.Ytmhnhfmkcipcpaa.Heap Go.Proofs.Ytmhnhfmkcipcpaa.StackPure Go.Proofs.Ytmhnhfmkcipcpaa.Seen Go.Proofs.YtmhnhfmkcipcpaaW.PrintWords Go.Proofs.YtmhnhfmkcipcpaaW.PrintLast Go.Proofs.YtmhnhfmkcipcpaaW.PrintMore

section
variable {base : Nat} {w w1 : World} {ks : List Sk} {Z : Nat → Prop}
theorem Al.fr (h : Al base w ks) (hF : Fr Z w w1) (hZ : ∀ g, Z g → ∃ cs t, w.heap[g]? = some (.cells cs t (0, 0)) ∧ t ≠ 107 ∧ t ≠ 3) : Al base w1 ks :=
  ⟨fun i k hk => (h.one i k hk).fr hF (fun e => by
      obtain ⟨cs, t, h', h1, _⟩ := hZ _ e
      exact clash h' (h.one i k hk).blk h1) (fun g hg e => by
      obtain ⟨cs, t, h', _, h2⟩ := hZ _ e
      obtain ⟨cs', h''⟩ := (h.one i k hk).typed g hg
      exact clash h' h'' h2), h.ap⟩
theorem row_fr {α : Type} {d : Kd α} {e : Nat} {vr : Value} {rs : List α} (hE : d.E = []) (hR : d.R e w base (fun _ => True) vr rs) (hF : Fr Z w w1) (hZ : ∀ g, Z g → ∃ cs t, w.heap[g]? = some (.cells cs t (0, 0)) ∧ t ≠ e) : d.R e w1 base (fun _ => True) vr rs := by
  refine Kd.R_mono (Kd.R_step (Kd.R_reok (ok := fun g => some g = vr.ownBlock) hE hR (fun _ hk => hk.symm)) (fun g hg hlt => hF.block g hlt (fun hz => ?_))) (fun _ _ => trivial)
  obtain ⟨cs, t, h', hne⟩ := hZ g hz
  obtain ⟨inner, ho⟩ := Kd.R_own hR
  obtain ⟨cells, hc'⟩ := own_typed ho g hg.symm
  exact clash h' hc' hne
theorem blk_fr {g : Nat} {cs : Array Value} {e : TypeId} (hb : Blk w g cs e) (hF : Fr Z w w1) (hZ : ∀ g, Z g → ∃ cs t, w.heap[g]? = some (.cells cs t (0, 0)) ∧ t ≠ e) : Blk w1 g cs e := hb.fr hF (fun hz => by
  obtain ⟨cs', t, h', hne⟩ := hZ g hz
  exact clash h' hb hne)
end
section
variable {base s i : Nat} {w0 W W1 W2 : World} {ks : List Sk} {k : Sk} {va va' vo vo' : Value} {rs rs' : List (Int × Bool)} {n : Int} {b' : Nat} {v' : Value} {xs' : List Int}
theorem Sr.told (h : Sr base s w0 ks va vo rs n W) (hR : seenN.R 34 W1 base (fun _ => True) vo' rs') (hg : W.grownBy W1 vo.ownBlock) :
    Al base W1 ks ∧ ptrK.R 53 W1 base (fun _ => True) va (ks.map (·.b)) ∧ seenN.R 34 W1 base (fun _ => True) vo' rs' ∧ Below base w0 W1 ∧ base ≤ W1.heap.size := by
  have hF : Fr (fun k => some k = vo.ownBlock) W W1 := Fr.of_grown hg
  have hZ : ∀ g, some g = vo.ownBlock → ∃ cs, W.heap[g]? = some (.cells cs 34 (0, 0)) := fun g e => by
    obtain ⟨inner, ho⟩ := Kd.R_own h.out
    exact own_typed ho g e.symm
  refine ⟨h.al.fr hF (fun g e => ?_), row_fr (d := ptrK) rfl h.all hF (fun g e => ?_), hR, h.below.trans (hF.below h.big (fun g e => Kd.R_base h.out g e.symm)), Nat.le_trans h.big hF.size⟩
  · obtain ⟨cs, h'⟩ := hZ g e
    exact ⟨cs, _, h', by decide, by decide⟩
  · obtain ⟨cs, h'⟩ := hZ g e
    exact ⟨cs, _, h', by decide⟩
theorem Sr.copied (h : Sr base s w0 ks va vo rs n W) (hO : One W.heap.size b' v' xs' W1) (hB : Below W.heap.size W W1) (hR : ptrK.R 53 W2 base (fun _ => True) va' (ks.map (·.b) ++ [b'])) (hg : W1.grownBy W2 va.ownBlock) : Sr base s w0 (ks ++ [⟨b', v', xs'⟩]) va' vo rs n W2 := by
  have hF : Fr (fun k => some k = va.ownBlock) W1 W2 := Fr.of_grown hg
  have hall := Kd.R_below h.all hB
  have hZ : ∀ g, some g = va.ownBlock → ∃ cs, W1.heap[g]? = some (.cells cs 53 (0, 0)) := fun g e => by
    obtain ⟨inner, ho⟩ := Kd.R_own hall
    exact own_typed ho g e.symm
  have hZ' : ∀ g, some g = va.ownBlock → ∀ e, 53 ≠ e → ∃ cs t, W1.heap[g]? = some (.cells cs t (0, 0)) ∧ t ≠ e := fun g q e hne => by
    obtain ⟨cs, h'⟩ := hZ g q
    exact ⟨cs, _, h', hne⟩
  obtain ⟨cs6, h6⟩ := h.x6
  have hb1 : Below base w0 W1 := h.below.trans ⟨hB.os, hB.tape, hB.output, hB.size, fun k hk => hB.block k (Nat.lt_of_lt_of_le hk h.big)⟩
  refine ⟨(h.al.push h.big hO hB).fr hF (fun g e => ?_), by rw [List.map_append]; exact hR, row_fr (d := seenN) rfl (Kd.R_below h.out hB) hF (fun g e => hZ' g e _ (by decide)), h.off, hb1.trans (hF.below (Nat.le_trans h.big hB.size) (fun g e => Kd.R_base hall g e.symm)), Nat.le_trans h.big (Nat.le_trans hB.size hF.size), h.bs, ⟨cs6, blk_fr (h6.below hB h6.lt) hF (fun g e => hZ' g e _ (by decide))⟩, blk_fr (h.x8.below hB h.x8.lt) hF (fun g e => hZ' g e _ (by decide))⟩
  obtain ⟨cs, h'⟩ := hZ g e
  exact ⟨cs, _, h', by decide, by decide⟩
end
theorem reps_one {w : World} {base b : Nat} {ok : Nat → Prop} : Reps (ptrK.M w base ok) ptrK.sz [b] [ptrV b] := by
  refine ⟨rfl, fun j p hj => ?_⟩
  match j, hj with
  | 0, hj =>
    simp only [List.getElem?_cons_zero, Option.some.injEq] at hj
    subst hj
    rfl

theorem set_ok {ks : List Sk} {j i : Nat} {x : Sk} (h : ks ≠ [] ∧ ks.length ≤ i + 1) : ks.set j x ≠ [] ∧ (ks.set j x).length ≤ i + 1 + 1 := by
  refine ⟨fun e => h.1 ?_, by rw [List.length_set]; omega⟩
  have := congrArg List.length e
  rw [List.length_set] at this
  exact List.length_eq_zero_iff.1 this
theorem set_each {ks : List Sk} {j i : Nat} {x : Sk} (h : ∀ (j : Nat) (k : Sk), ks[j]? = some k → k.xs.length ≤ i) (hx : x.xs.length ≤ i + 1) : ∀ (j' : Nat) (k : Sk), (ks.set j x)[j']? = some k → k.xs.length ≤ i + 1 := by
  intro j' k hk
  rw [List.getElem?_set] at hk
  split at hk
  · split at hk
    · injection hk with hk; subst hk; exact hx
    · cases hk
  · exact Nat.le_succ_of_le (h j' k hk)
theorem add_each {ks : List Sk} {i : Nat} {x : Sk} (h : ∀ (j : Nat) (k : Sk), ks[j]? = some k → k.xs.length ≤ i) (hx : x.xs.length ≤ i + 1) : ∀ (j' : Nat) (k : Sk), (ks ++ [x])[j']? = some k → k.xs.length ≤ i + 1 := by
  intro j' k hk
  have hm := List.mem_of_getElem? hk
  rcases List.mem_append.1 hm with q | q
  · obtain ⟨j, hj⟩ := List.getElem?_of_mem q
    exact Nat.le_succ_of_le (h j k hj)
  · rw [List.mem_singleton.1 q]; exact hx

theorem start {b0 : Nat} {v0 v2 : Value} {w w1 w2 : World} {l : List St} (hO : One w.heap.size b0 v0 [] w1) (_ : Below w.heap.size w w1) (ho : ptrK.R 53 w2 w.heap.size (fun _ => True) v2 [b0]) (hb : Below w.heap.size w w2) (hg : w1.grownBy w2 none) : Rn w.heap.size w l 0 [⟨b0, v0, []⟩] v2 (.slice none 0 0) [] w2 := by
  have h2 : Below w1.heap.size w1 w2 := ⟨hg.os, hg.tape, hg.output, hg.size, fun k hk => hg.block k hk (by simp)⟩
  have get : ∀ (i : Nat) (k : Sk), ([⟨b0, v0, []⟩] : List Sk)[i]? = some k → i = 0 ∧ k = ⟨b0, v0, []⟩ := by
    intro i k hk
    match i, hk with
    | 0, hk =>
      simp only [List.getElem?_cons_zero, Option.some.injEq] at hk
      exact ⟨rfl, hk.symm⟩
  refine ⟨⟨fun i k hk => ?_, fun i j k k' h1 h2 hne => ?_⟩, ho, Kd.R_nil .., hb, hb.size, rfl, ⟨by simp, by simp⟩, fun j k hk => ?_, rfl⟩
  · obtain ⟨_, rfl⟩ := get i k hk
    exact hO.below h2
  · exact absurd ((get i k h1).1.trans (get j k' h2).1.symm) hne
  · obtain ⟨_, rfl⟩ := get j k hk
    exact Nat.zero_le _

set_option maxHeartbeats 16000000 in
set_option maxRecDepth 100000 in
theorem StackRun_any (A : Option Addr) (c : Nat) (l : List St) (w : World) (hS : Kd.C stK w A l.length l) (hl : l.length ≤ 274877906944) :
    Calls Try.prog 12 #[.slice A l.length c] w fun e w' => ∃ v, e = .returned v ∧ seenN.R 34 w' w.heap.size (fun _ => True) v (toldS [[]] l) ∧ Below w.heap.size w w' := by
  have HS := hid hS
  clear hS
  go_enter Try.func12, Try.ntmps12
  go_wp2_with fail
  refine (new_any w).mono ?_
  rintro e w1 ⟨b0, v0, rfl, hO, _, hB⟩
  have H1 := hid (And.intro hO hB)
  clear hO hB
  go_wp2_with ((with_reducible refine gate_dst (N := 10) rfl ?_); refine Kd.R_lit ptrK (w0 := w) w.heap.size 53 ?hg (N := 10) ?hd (xs := [b0]) (inner := [ptrV b0]) (ok := fun _ => True) (okp := fun _ => True) ?hr ?hp (fun _ hk => hk) trivial H1.out.2 H1.out.2.size (by simp) ?_; (case hd => rfl); (case hg => rfl); (case hr => first | (go_simp; done) | (go_simp; rfl)); (case hp => exact reps_one); intro v2 w2 ho hb hg_ hnew_; have HR : Hid (Rn w.heap.size w l 0 [⟨b0, v0, []⟩] v2 (.slice none 0 0) [] w2) := start H1.out.1 H1.out.2 ho hb hg_; clear hg_ hnew_ ho hb)
  go_loopg [3, 4, 13] l.length (fun gk v3 v4 v13 wr => ∃ (i : Nat) (ks : List Sk) (rs : List (Int × Bool)), v13 = .int .i64 i ∧ i ≤ l.length ∧ Hid (gk + i = l.length) ∧ Hid (Rn w.heap.size w l i ks v3 v4 rs wr))
  case atStart => exact ⟨0, [⟨b0, v0, []⟩], [], rfl, Nat.zero_le _, Nat.add_zero _, HR⟩
  case round =>
    obtain ⟨i, ks, rs, rfl, hi, HG, HI⟩ := hrel
    by_cases hin : i < l.length
    · obtain ⟨ad, rfl, x0, x1, x2, x3⟩ := at_st (Kd.C_below HS.out HI.out.below) i hin
      have HD : Hid (l.drop i = l[i] :: l.drop (i + 1)) := List.drop_eq_getElem_cons hin
      generalize l[i] = a at x0 x1 x2 x3 HD
      obtain ⟨o, d, key, val⟩ := a
      simp only at x0 x1 x2 x3
      have HIN := hid hin
      obtain ⟨k1, rfl⟩ : ∃ k1, gk = k1 + 1 := ⟨gk - 1, by have := HG.out; omega⟩
      clear hin
      obtain ⟨A3, c3, rfl⟩ := Kd.R_slice HI.out.all
      obtain ⟨n, hn⟩ : ∃ n, ks.length = n := ⟨_, rfl⟩
      have hn' : (ks.map (·.b)).length = n := by rw [List.length_map]; exact hn
      rw [hn'] at HI ⊢
      have HN := hid hn
      have HLEN : Hid (0 < n ∧ n ≤ 274877906945 ∧ n ≤ i + 1) := by
        have h1 := HI.out.len
        have h2 : 0 < ks.length := List.length_pos_iff.2 h1.1
        exact hid ⟨by omega, by omega, by omega⟩
      clear hn hn'
      -- which stack
      obtain ⟨j, hj⟩ : ∃ j : Nat, (o % (n : Int)).toNat = j := ⟨_, rfl⟩
      have hjo : o % (n : Int) = (j : Int) := by
        have := Int.emod_nonneg o (show (n : Int) ≠ 0 by have := HLEN.out.1; omega)
        omega
      have hjn : j < n := by
        have := Int.emod_lt_of_pos o (show (0 : Int) < (n : Int) by have := HLEN.out.1; omega)
        omega
      have HJO := hid hjo
      have HJL : Hid (j < ks.length) := by have := HN.out; exact hid (by omega)
      obtain ⟨kk, hk⟩ : ∃ kk, ks[j]? = some kk := ⟨ks[j]'HJL.out, List.getElem?_eq_getElem HJL.out⟩
      have HK := hid hk
      have HON : Hid (on (ks.map (·.xs)) o = j ∧ (ks.map (·.xs)).getD j [] = kk.xs) := by
        refine hid ⟨?_, ?_⟩
        · unfold on
          rw [List.length_map, HN.out]
          exact hj
        · rw [List.getD_eq_getElem?_getD, List.getElem?_map, hk]; rfl
      have HXL : Hid (kk.xs.length ≤ i ∧ kk.xs.length ≤ 1099511627776) := by
        have := HI.out.each j kk hk
        exact hid ⟨this, by omega⟩
      clear hj hjo hk
      -- the step's own cells
      have hB1 : Below wr.heap.size wr (wr.alloc (.cells #[.int .i64 o, .int .i64 d, .int .i64 key, .int .i64 val] 27)) := (Below.refl _ _).alloc (Nat.le_refl _) _
      obtain ⟨ad3, e3, hc3⟩ := at_ptr (Kd.R_reads' (Kd.R_below HI.out.all hB1)).2.2 (j : Int) (by omega) (by rw [List.length_map]; have := HJL.out; omega)
      subst e3
      rw [Int.toNat_natCast] at hc3
      have hgd : (ks.map (·.b)).getD j 0 = kk.b := by rw [List.getD_eq_getElem?_getD, List.getElem?_map, HK.out]; rfl
      rw [hgd] at hc3
      have hc3' : (wr.alloc (.cells #[.int .i64 o, .int .i64 d, .int .i64 key, .int .i64 val] 27)).cell? (ad3.add j) = some (.pointer (some ⟨kk.b, 0, none⟩)) := hc3
      clear hgd hc3
      have HA1 : Hid (Blk (wr.alloc (.cells #[.int .i64 o, .int .i64 d, .int .i64 key, .int .i64 val] 27)) wr.heap.size #[.int .i64 o, .int .i64 d, .int .i64 key, .int .i64 val] 27 ∧ Below wr.heap.size wr (wr.alloc (.cells #[.int .i64 o, .int .i64 d, .int .i64 key, .int .i64 val] 27)) ∧ (wr.alloc (.cells #[.int .i64 o, .int .i64 d, .int .i64 key, .int .i64 val] 27)).heap.size = wr.heap.size + 1) := hid ⟨Blk.new _ _ _, hB1, Hk.alloc_size _ _⟩
      clear hB1
      go_upto_region 6 with fail
      generalize wr.alloc (.cells #[.int .i64 o, .int .i64 d, .int .i64 key, .int .i64 val] 27) = W0 at HA1 hc3' ⊢
      have y0 : W0.cell? ⟨wr.heap.size, 0, none⟩ = some (.int .i64 o) := HA1.out.1.cell 0
      clear x0 x1 x2 x3
      go_wp2_with fail
      refine (Less.mod_any o n W0 (by have := HLEN.out.1; omega) (by have := HLEN.out.2.1; omega)).mono ?_
      rintro e w3 ⟨rfl, rfl⟩
      rw [HJO.out]
      go_upto_region 8 with fail
      rw [HA1.out.2.2]
      have H2 : Hid (Sr w.heap.size wr.heap.size w ks (.slice (some ad3) n c3) u4 rs 0 (w3.alloc (.cells (F4 0 false) 34))) := by
        have hB2 : Below w3.heap.size w3 (w3.alloc (.cells (F4 0 false) 34)) := (Below.refl _ _).alloc (Nat.le_refl _) _
        have hB := below_at HA1.out.2.1 hB2 HA1.out.2.1.size
        have h8 := Blk.new w3 (F4 0 false) 34
        rw [HA1.out.2.2] at h8
        have hbw : w.heap.size ≤ wr.heap.size := HI.out.big
        exact hid ⟨HI.out.al.below hB, Kd.R_below HI.out.all hB, Kd.R_below HI.out.out hB, fun k hk => by have := Kd.R_lt HI.out.out k hk; omega, below_at HI.out.below hB HI.out.below.size, Nat.le_trans HI.out.big hB.size, hbw, ⟨_, HA1.out.1.alloc _⟩, h8⟩
      have HS6 : Hid (Blk (w3.alloc (.cells (F4 0 false) 34)) wr.heap.size #[.int .i64 o, .int .i64 d, .int .i64 key, .int .i64 val] 27) := hid (HA1.out.1.alloc _)
      change Code.wp _ _ _ _ (w3.alloc (.cells (F4 0 false) 34))
      have HI2 : Hid (rs ++ toldS (ks.map (·.xs)) (l.drop i) = toldS [[]] l ∧ (ks ≠ [] ∧ ks.length ≤ i + 1) ∧ (∀ (j : Nat) (k : Sk), ks[j]? = some k → k.xs.length ≤ i) ∧ rs.length = i) := hid ⟨HI.out.told, HI.out.len, HI.out.each, HI.out.rlen⟩
      clear y0 hc3' HA1 HI
      generalize w3.alloc (.cells (F4 0 false) 34) = W at H2 HS6 ⊢
      generalize wr.heap.size = s at H2 HS6 ⊢
      have k1_ : W.cell? ⟨s, 1, none⟩ = some (.int .i64 d) := HS6.out.cell 1
      have k2_ : W.cell? ⟨s, 2, none⟩ = some (.int .i64 key) := HS6.out.cell 2
      have HO : Hid (One w.heap.size kk.b kk.v kk.xs W) := hid (H2.out.al.one j kk HK.out)
      by_cases h0 : d = 0
      · subst h0
        go_wp2_with fail
        refine (push_any w.heap.size kk.b kk.v kk.xs key W HO.out H2.out.big HXL.out.2).mono ?_
        rintro e W9 ⟨rfl, v', hO, hat, hF⟩
        have H9 := hid (H2.out.step HK.out hO hF hat)
        clear hO hat hF H2
        have HT : Hid (stepS (ks.map (·.xs)) (o, 0, key, val) = (ks.set j ⟨kk.b, v', kk.xs ++ [key]⟩).map (·.xs) ∧ tellS (ks.map (·.xs)) (o, 0, key, val) = (0, false) ∧ ((ks.set j ⟨kk.b, v', kk.xs ++ [key]⟩) ≠ [] ∧ (ks.set j ⟨kk.b, v', kk.xs ++ [key]⟩).length ≤ i + 1 + 1) ∧ ∀ (j' : Nat) (k : Sk), (ks.set j ⟨kk.b, v', kk.xs ++ [key]⟩)[j']? = some k → k.xs.length ≤ i + 1) := by
          refine hid ⟨?_, ?_, set_ok HI2.out.2.1, set_each HI2.out.2.2.1 (by show (kk.xs ++ [key]).length ≤ _; rw [List.length_append, List.length_singleton]; have := HXL.out.1; omega)⟩
          · simp only [stepS]
            rw [HON.out.1, HON.out.2, List.map_set]
            rfl
          · simp only [tellS]
            rw [HON.out.1, HON.out.2]
            rfl
        generalize ks.set j ⟨kk.b, v', kk.xs ++ [key]⟩ = ks2 at H9 HT
        go_upto_region 19 with fail
        have p0 : W9.cell? ⟨s + 1, 0, none⟩ = some (.int .i64 0) := H9.out.x8.cell 0
        have p1 : W9.cell? ⟨s + 1, 1, none⟩ = some (.bool false) := H9.out.x8.cell 1
        have p2 : W9.cell? ⟨s + 1, 2, none⟩ = some (.slice none 0 0) := H9.out.x8.cell 2
        have p3 : W9.cell? ⟨s + 1, 3, none⟩ = some (.slice none 0 0) := H9.out.x8.cell 3
        have HQ : Hid (rs ++ [(0, false)] ++ toldS (ks2.map (·.xs)) (l.drop (i + 1)) = toldS [[]] l) := by
          have h1 := HI2.out.1
          rw [HD.out] at h1
          simp only [toldS] at h1
          rw [HT.out.1, HT.out.2.1] at h1
          rw [List.append_assoc]
          exact hid h1
        clear k1_ k2_ HS6 HO
        go_wp2_with ((with_reducible refine gate_builtin (b := .append) (xs := #[.tmp 55, .tmp 57]) rfl ?_); at_builtin; refine Kd.R_append (W := W9) seenN (w0 := W9) w.heap.size rfl (.tmp 55) (.tmp 57) 24 34 (.agg #[(.int .i64 0), (.bool false), (.slice none 0 0), (.slice none 0 0)]) 64 rfl undSeens infoSeen rfl (by decide) (by omega) u4 rs (0, false) [.int .i64 0, .bool false, .slice none 0 0, .slice none 0 0] (fun _ => True) (fun _ => False) rfl rfl ?aP (fun _ hk => hk.elim) (fun _ _ => trivial) ?aO ?aB ?aS ?aL ?_; (case aP => exact rfl); (case aO => exact H9.out.out); (case aB => exact Below.refl _ _); (case aS => exact H9.out.big); (case aL => have h1_ := HI2.out.2.2.2; have h2_ := HIN.out; omega); intro v1 w4 ho _ hg hat; have H10 := hid (H9.out.told ho hg); clear ho hg hat)
        have H11 : Hid (Rn w.heap.size w l (i + 1) ks2 (.slice (some ad3) n c3) v1 (rs ++ [(0, false)]) w4) :=
          hid ⟨H10.out.1, H10.out.2.1, H10.out.2.2.1, H10.out.2.2.2.1, H10.out.2.2.2.2, HQ.out, HT.out.2.2.1, HT.out.2.2.2, by rw [List.length_append, HI2.out.2.2.2]; rfl⟩
        go_roundg k1
        case measure => omega
        case rel => exact ⟨i + 1, _, _, rfl, HIN.out, by have := HG.out; show k1 + (i + 1) = l.length; omega, H11⟩
      · have hz0 : (d == 0) = false := beq_eq_false_iff_ne.2 h0
        by_cases h1 : d = 1
        · subst h1
          go_wp2_with fail
          refine (pop_any w.heap.size kk.b kk.v kk.xs W HO.out HXL.out.2).mono ?_
          rintro e W8 ⟨rfl, v', hO, hat, hF⟩
          have H8 := hid (H2.out.step HK.out hO (hF.mono (fun _ _ e => .inl e)) (.inl hat))
          clear hO hat hF H2 k1_ k2_ HS6 HO
          have HT : Hid (stepS (ks.map (·.xs)) (o, 1, key, val) = (ks.set j ⟨kk.b, v', kk.xs.take (kk.xs.length - 1)⟩).map (·.xs) ∧ tellS (ks.map (·.xs)) (o, 1, key, val) = (StackPure.top kk.xs, false) ∧ ((ks.set j ⟨kk.b, v', kk.xs.take (kk.xs.length - 1)⟩) ≠ [] ∧ (ks.set j ⟨kk.b, v', kk.xs.take (kk.xs.length - 1)⟩).length ≤ i + 1 + 1) ∧ ∀ (j' : Nat) (k : Sk), (ks.set j ⟨kk.b, v', kk.xs.take (kk.xs.length - 1)⟩)[j']? = some k → k.xs.length ≤ i + 1) := by
            refine hid ⟨?_, ?_, set_ok HI2.out.2.1, set_each HI2.out.2.2.1 (by show (kk.xs.take (kk.xs.length - 1)).length ≤ _; rw [List.length_take]; have := HXL.out.1; omega)⟩
            · simp only [stepS]
              rw [HON.out.1, HON.out.2, List.map_set]
              rfl
            · simp only [tellS]
              rw [HON.out.1, HON.out.2]
              rfl
          generalize ks.set j ⟨kk.b, v', kk.xs.take (kk.xs.length - 1)⟩ = ks2 at H8 HT
          have HTOP : Hid (Stack.top kk.xs = StackPure.top kk.xs) := hid rfl
          generalize StackPure.top kk.xs = tn at HT HTOP
          rw [HTOP.out]
          have f8 : W8.frozen? ⟨s + 1, 0, none⟩ = false := H8.out.x8.free 0
          have p8 : W8.cell? ⟨s + 1, 0, none⟩ = some (.int .i64 0) := H8.out.x8.cell 0
          have H9 := hid (H8.out.set8 tn)
          clear H8
          go_upto_region 19 with fail
          clear f8 p8
          generalize W8.setCell ⟨s + 1, 0, none⟩ (.int .i64 tn) = W9 at H9 ⊢
          have p0 : W9.cell? ⟨s + 1, 0, none⟩ = some (.int .i64 tn) := H9.out.x8.cell 0
          have p1 : W9.cell? ⟨s + 1, 1, none⟩ = some (.bool false) := H9.out.x8.cell 1
          have p2 : W9.cell? ⟨s + 1, 2, none⟩ = some (.slice none 0 0) := H9.out.x8.cell 2
          have p3 : W9.cell? ⟨s + 1, 3, none⟩ = some (.slice none 0 0) := H9.out.x8.cell 3
          have HQ : Hid (rs ++ [(tn, false)] ++ toldS (ks2.map (·.xs)) (l.drop (i + 1)) = toldS [[]] l) := by
            have h1 := HI2.out.1
            rw [HD.out] at h1
            simp only [toldS] at h1
            rw [HT.out.1, HT.out.2.1] at h1
            rw [List.append_assoc]
            exact hid h1
          go_wp2_with ((with_reducible refine gate_builtin (b := .append) (xs := #[.tmp 55, .tmp 57]) rfl ?_); at_builtin; refine Kd.R_append (W := W9) seenN (w0 := W9) w.heap.size rfl (.tmp 55) (.tmp 57) 24 34 (.agg #[(.int .i64 0), (.bool false), (.slice none 0 0), (.slice none 0 0)]) 64 rfl undSeens infoSeen rfl (by decide) (by omega) u4 rs (tn, false) [.int .i64 tn, .bool false, .slice none 0 0, .slice none 0 0] (fun _ => True) (fun _ => False) rfl rfl ?aP (fun _ hk => hk.elim) (fun _ _ => trivial) ?aO ?aB ?aS ?aL ?_; (case aP => exact rfl); (case aO => exact H9.out.out); (case aB => exact Below.refl _ _); (case aS => exact H9.out.big); (case aL => have h1_ := HI2.out.2.2.2; have h2_ := HIN.out; omega); intro v1 w4 ho _ hg hat; have H10 := hid (H9.out.told ho hg); clear ho hg hat)
          have H11 : Hid (Rn w.heap.size w l (i + 1) ks2 (.slice (some ad3) n c3) v1 (rs ++ [(tn, false)]) w4) :=
            hid ⟨H10.out.1, H10.out.2.1, H10.out.2.2.1, H10.out.2.2.2.1, H10.out.2.2.2.2, HQ.out, HT.out.2.2.1, HT.out.2.2.2, by rw [List.length_append, HI2.out.2.2.2]; rfl⟩
          go_roundg k1
          case measure => omega
          case rel => exact ⟨i + 1, _, _, rfl, HIN.out, by have := HG.out; show k1 + (i + 1) = l.length; omega, H11⟩
        · have hz1 : (d == 1) = false := beq_eq_false_iff_ne.2 h1
          by_cases h2 : d = 2
          · subst h2
            go_wp2_with fail
            refine (peek_any w.heap.size kk.b kk.v kk.xs W HO.out HXL.out.2).mono ?_
            rintro e W8 ⟨rfl, nd, rfl⟩
            have H8 := hid (H2.out.drewN nd)
            clear H2 k1_ k2_ HS6 HO
            have HT : Hid (stepS (ks.map (·.xs)) (o, 2, key, val) = ks.map (·.xs) ∧ tellS (ks.map (·.xs)) (o, 2, key, val) = (StackPure.top kk.xs, false) ∧ (ks ≠ [] ∧ ks.length ≤ i + 1 + 1) ∧ ∀ (j : Nat) (k : Sk), ks[j]? = some k → k.xs.length ≤ i + 1) := by
              refine hid ⟨?_, ?_, ⟨HI2.out.2.1.1, Nat.le_succ_of_le HI2.out.2.1.2⟩, fun j k hk => Nat.le_succ_of_le (HI2.out.2.2.1 j k hk)⟩
              · simp [stepS]
              · simp only [tellS]
                rw [HON.out.1, HON.out.2]
                rfl
            generalize W.drewN nd = W8 at H8 ⊢
            have HTOP : Hid (Stack.top kk.xs = StackPure.top kk.xs) := hid rfl
            generalize StackPure.top kk.xs = tn at HT HTOP
            rw [HTOP.out]
            have f8 : W8.frozen? ⟨s + 1, 0, none⟩ = false := H8.out.x8.free 0
            have p8 : W8.cell? ⟨s + 1, 0, none⟩ = some (.int .i64 0) := H8.out.x8.cell 0
            have H9 := hid (H8.out.set8 tn)
            clear H8
            go_upto_region 19 with fail
            clear f8 p8
            generalize W8.setCell ⟨s + 1, 0, none⟩ (.int .i64 tn) = W9 at H9 ⊢
            have p0 : W9.cell? ⟨s + 1, 0, none⟩ = some (.int .i64 tn) := H9.out.x8.cell 0
            have p1 : W9.cell? ⟨s + 1, 1, none⟩ = some (.bool false) := H9.out.x8.cell 1
            have p2 : W9.cell? ⟨s + 1, 2, none⟩ = some (.slice none 0 0) := H9.out.x8.cell 2
            have p3 : W9.cell? ⟨s + 1, 3, none⟩ = some (.slice none 0 0) := H9.out.x8.cell 3
            have HQ : Hid (rs ++ [(tn, false)] ++ toldS (ks.map (·.xs)) (l.drop (i + 1)) = toldS [[]] l) := by
              have h1 := HI2.out.1
              rw [HD.out] at h1
              simp only [toldS] at h1
              rw [HT.out.1, HT.out.2.1] at h1
              rw [List.append_assoc]
              exact hid h1
            go_wp2_with ((with_reducible refine gate_builtin (b := .append) (xs := #[.tmp 55, .tmp 57]) rfl ?_); at_builtin; refine Kd.R_append (W := W9) seenN (w0 := W9) w.heap.size rfl (.tmp 55) (.tmp 57) 24 34 (.agg #[(.int .i64 0), (.bool false), (.slice none 0 0), (.slice none 0 0)]) 64 rfl undSeens infoSeen rfl (by decide) (by omega) u4 rs (tn, false) [.int .i64 tn, .bool false, .slice none 0 0, .slice none 0 0] (fun _ => True) (fun _ => False) rfl rfl ?aP (fun _ hk => hk.elim) (fun _ _ => trivial) ?aO ?aB ?aS ?aL ?_; (case aP => exact rfl); (case aO => exact H9.out.out); (case aB => exact Below.refl _ _); (case aS => exact H9.out.big); (case aL => have h1_ := HI2.out.2.2.2; have h2_ := HIN.out; omega); intro v1 w4 ho _ hg hat; have H10 := hid (H9.out.told ho hg); clear ho hg hat)
            have H11 : Hid (Rn w.heap.size w l (i + 1) ks (.slice (some ad3) n c3) v1 (rs ++ [(tn, false)]) w4) :=
              hid ⟨H10.out.1, H10.out.2.1, H10.out.2.2.1, H10.out.2.2.2.1, H10.out.2.2.2.2, HQ.out, HT.out.2.2.1, HT.out.2.2.2, by rw [List.length_append, HI2.out.2.2.2]; rfl⟩
            go_roundg k1
            case measure => omega
            case rel => exact ⟨i + 1, _, _, rfl, HIN.out, by have := HG.out; show k1 + (i + 1) = l.length; omega, H11⟩
          · have hz2 : (d == 2) = false := beq_eq_false_iff_ne.2 h2
            by_cases h3 : d = 3
            · subst h3
              go_wp2_with fail
              refine (size_any w.heap.size kk.b kk.v kk.xs W HO.out).mono ?_
              rintro e W8 ⟨rfl, rfl⟩
              have H8 := H2
              clear H2 k1_ k2_ HS6 HO
              have HT : Hid (stepS (ks.map (·.xs)) (o, 3, key, val) = ks.map (·.xs) ∧ tellS (ks.map (·.xs)) (o, 3, key, val) = ((kk.xs.length : Int), false) ∧ (ks ≠ [] ∧ ks.length ≤ i + 1 + 1) ∧ ∀ (j : Nat) (k : Sk), ks[j]? = some k → k.xs.length ≤ i + 1) := by
                refine hid ⟨?_, ?_, ⟨HI2.out.2.1.1, Nat.le_succ_of_le HI2.out.2.1.2⟩, fun j k hk => Nat.le_succ_of_le (HI2.out.2.2.1 j k hk)⟩
                · simp [stepS]
                · simp only [tellS]
                  rw [HON.out.1, HON.out.2]
                  rfl
              generalize (kk.xs.length : Int) = tn at HT ⊢
              have f8 : W8.frozen? ⟨s + 1, 0, none⟩ = false := H8.out.x8.free 0
              have p8 : W8.cell? ⟨s + 1, 0, none⟩ = some (.int .i64 0) := H8.out.x8.cell 0
              have H9 := hid (H8.out.set8 tn)
              clear H8
              go_upto_region 19 with fail
              clear f8 p8
              generalize W8.setCell ⟨s + 1, 0, none⟩ (.int .i64 tn) = W9 at H9 ⊢
              have p0 : W9.cell? ⟨s + 1, 0, none⟩ = some (.int .i64 tn) := H9.out.x8.cell 0
              have p1 : W9.cell? ⟨s + 1, 1, none⟩ = some (.bool false) := H9.out.x8.cell 1
              have p2 : W9.cell? ⟨s + 1, 2, none⟩ = some (.slice none 0 0) := H9.out.x8.cell 2
              have p3 : W9.cell? ⟨s + 1, 3, none⟩ = some (.slice none 0 0) := H9.out.x8.cell 3
              have HQ : Hid (rs ++ [(tn, false)] ++ toldS (ks.map (·.xs)) (l.drop (i + 1)) = toldS [[]] l) := by
                have h1 := HI2.out.1
                rw [HD.out] at h1
                simp only [toldS] at h1
                rw [HT.out.1, HT.out.2.1] at h1
                rw [List.append_assoc]
                exact hid h1
              go_wp2_with ((with_reducible refine gate_builtin (b := .append) (xs := #[.tmp 55, .tmp 57]) rfl ?_); at_builtin; refine Kd.R_append (W := W9) seenN (w0 := W9) w.heap.size rfl (.tmp 55) (.tmp 57) 24 34 (.agg #[(.int .i64 0), (.bool false), (.slice none 0 0), (.slice none 0 0)]) 64 rfl undSeens infoSeen rfl (by decide) (by omega) u4 rs (tn, false) [.int .i64 tn, .bool false, .slice none 0 0, .slice none 0 0] (fun _ => True) (fun _ => False) rfl rfl ?aP (fun _ hk => hk.elim) (fun _ _ => trivial) ?aO ?aB ?aS ?aL ?_; (case aP => exact rfl); (case aO => exact H9.out.out); (case aB => exact Below.refl _ _); (case aS => exact H9.out.big); (case aL => have h1_ := HI2.out.2.2.2; have h2_ := HIN.out; omega); intro v1 w4 ho _ hg hat; have H10 := hid (H9.out.told ho hg); clear ho hg hat)
              have H11 : Hid (Rn w.heap.size w l (i + 1) ks (.slice (some ad3) n c3) v1 (rs ++ [(tn, false)]) w4) :=
                hid ⟨H10.out.1, H10.out.2.1, H10.out.2.2.1, H10.out.2.2.2.1, H10.out.2.2.2.2, HQ.out, HT.out.2.2.1, HT.out.2.2.2, by rw [List.length_append, HI2.out.2.2.2]; rfl⟩
              go_roundg k1
              case measure => omega
              case rel => exact ⟨i + 1, _, _, rfl, HIN.out, by have := HG.out; show k1 + (i + 1) = l.length; omega, H11⟩
            · have hz3 : (d == 3) = false := beq_eq_false_iff_ne.2 h3
              by_cases h4 : d = 4
              · subst h4
                go_wp2_with fail
                refine (copy_any w.heap.size kk.b kk.v kk.xs W HO.out HXL.out.2).mono ?_
                rintro e W8 ⟨b', v', rfl, hO, hB⟩
                have HC := hid (And.intro hO hB)
                clear hO hB
                have HT : Hid (stepS (ks.map (·.xs)) (o, 4, key, val) = (ks ++ [Sk.mk b' v' kk.xs]).map (·.xs) ∧ tellS (ks.map (·.xs)) (o, 4, key, val) = (0, false) ∧ ((ks ++ [Sk.mk b' v' kk.xs]) ≠ [] ∧ (ks ++ [Sk.mk b' v' kk.xs]).length ≤ i + 1 + 1) ∧ ∀ (j' : Nat) (k : Sk), (ks ++ [Sk.mk b' v' kk.xs])[j']? = some k → k.xs.length ≤ i + 1) := by
                  refine hid ⟨?_, rfl, ⟨by simp, by rw [List.length_append, List.length_singleton]; have := HI2.out.2.1.2; omega⟩, add_each HI2.out.2.2.1 (by show kk.xs.length ≤ _; have := HXL.out.1; omega)⟩
                  simp only [stepS]
                  rw [HON.out.1, HON.out.2, List.map_append]
                  rfl
                go_upto_region 19 with ((with_reducible refine gate_builtin (b := .append) (xs := #[.tmp 50, .tmp 53]) rfl ?_); at_builtin; refine Kd.R_append (W := W8) ptrK (w0 := W8) w.heap.size rfl (.tmp 50) (.tmp 53) 55 53 (.pointer none) 8 rfl undPtrs infoPtr rfl (by decide) (by omega) (.slice (some ad3) n c3) (ks.map (·.b)) b' [ptrV b'] (fun _ => True) (fun _ => False) rfl rfl ?aP (fun _ hk => hk.elim) (fun _ _ => trivial) ?aO ?aB ?aS ?aL ?_; (case aP => exact rfl); (case aO => exact Kd.R_below H2.out.all HC.out.2); (case aB => exact Below.refl _ _); (case aS => exact Nat.le_trans H2.out.big HC.out.2.size); (case aL => have h1_ := HLEN.out.2.1; have h2_ := HN.out; rw [List.length_map]; omega); intro va2 W9 ho _ hg hat; have H9 := hid (H2.out.copied HC.out.1 HC.out.2 ho hg); clear ho hg hat H2)
                generalize ks ++ [Sk.mk b' v' kk.xs] = ks2 at H9 HT
                clear HC
                have p0 : W9.cell? ⟨s + 1, 0, none⟩ = some (.int .i64 0) := H9.out.x8.cell 0
                have p1 : W9.cell? ⟨s + 1, 1, none⟩ = some (.bool false) := H9.out.x8.cell 1
                have p2 : W9.cell? ⟨s + 1, 2, none⟩ = some (.slice none 0 0) := H9.out.x8.cell 2
                have p3 : W9.cell? ⟨s + 1, 3, none⟩ = some (.slice none 0 0) := H9.out.x8.cell 3
                have HQ : Hid (rs ++ [(0, false)] ++ toldS (ks2.map (·.xs)) (l.drop (i + 1)) = toldS [[]] l) := by
                  have h1 := HI2.out.1
                  rw [HD.out] at h1
                  simp only [toldS] at h1
                  rw [HT.out.1, HT.out.2.1] at h1
                  rw [List.append_assoc]
                  exact hid h1
                clear k1_ k2_ HS6 HO
                go_wp2_with ((with_reducible refine gate_builtin (b := .append) (xs := #[.tmp 55, .tmp 57]) rfl ?_); at_builtin; refine Kd.R_append (W := W9) seenN (w0 := W9) w.heap.size rfl (.tmp 55) (.tmp 57) 24 34 (.agg #[(.int .i64 0), (.bool false), (.slice none 0 0), (.slice none 0 0)]) 64 rfl undSeens infoSeen rfl (by decide) (by omega) u4 rs (0, false) [.int .i64 0, .bool false, .slice none 0 0, .slice none 0 0] (fun _ => True) (fun _ => False) rfl rfl ?aP (fun _ hk => hk.elim) (fun _ _ => trivial) ?aO ?aB ?aS ?aL ?_; (case aP => exact rfl); (case aO => exact H9.out.out); (case aB => exact Below.refl _ _); (case aS => exact H9.out.big); (case aL => have h1_ := HI2.out.2.2.2; have h2_ := HIN.out; omega); intro v1 w4 ho _ hg hat; have H10 := hid (H9.out.told ho hg); clear ho hg hat)
                have H11 : Hid (Rn w.heap.size w l (i + 1) ks2 (va2) v1 (rs ++ [(0, false)]) w4) :=
                  hid ⟨H10.out.1, H10.out.2.1, H10.out.2.2.1, H10.out.2.2.2.1, H10.out.2.2.2.2, HQ.out, HT.out.2.2.1, HT.out.2.2.2, by rw [List.length_append, HI2.out.2.2.2]; rfl⟩
                go_roundg k1
                case measure => omega
                case rel => exact ⟨i + 1, _, _, rfl, HIN.out, by have := HG.out; show k1 + (i + 1) = l.length; omega, H11⟩
              · have hz4 : (d == 4) = false := beq_eq_false_iff_ne.2 h4
                have HT : Hid (stepS (ks.map (·.xs)) (o, d, key, val) = ks.map (·.xs) ∧ tellS (ks.map (·.xs)) (o, d, key, val) = (0, false) ∧ (ks ≠ [] ∧ ks.length ≤ i + 1 + 1) ∧ ∀ (j : Nat) (k : Sk), ks[j]? = some k → k.xs.length ≤ i + 1) := by
                  refine hid ⟨?_, ?_, ⟨HI2.out.2.1.1, Nat.le_succ_of_le HI2.out.2.1.2⟩, fun j k hk => Nat.le_succ_of_le (HI2.out.2.2.1 j k hk)⟩
                  · simp [stepS, h0, h1, h4]
                  · simp only [tellS]
                    rw [HON.out.1, HON.out.2]
                    simp [h1, h2, h3]
                have H9 := H2
                clear H2
                go_upto_region 19 with fail
                clear k1_ k2_ HS6 HO
                obtain ⟨W9, rfl⟩ : ∃ W9, W9 = W := ⟨_, rfl⟩
                have p0 : W9.cell? ⟨s + 1, 0, none⟩ = some (.int .i64 0) := H9.out.x8.cell 0
                have p1 : W9.cell? ⟨s + 1, 1, none⟩ = some (.bool false) := H9.out.x8.cell 1
                have p2 : W9.cell? ⟨s + 1, 2, none⟩ = some (.slice none 0 0) := H9.out.x8.cell 2
                have p3 : W9.cell? ⟨s + 1, 3, none⟩ = some (.slice none 0 0) := H9.out.x8.cell 3
                have HQ : Hid (rs ++ [(0, false)] ++ toldS (ks.map (·.xs)) (l.drop (i + 1)) = toldS [[]] l) := by
                  have h1 := HI2.out.1
                  rw [HD.out] at h1
                  simp only [toldS] at h1
                  rw [HT.out.1, HT.out.2.1] at h1
                  rw [List.append_assoc]
                  exact hid h1
                go_wp2_with ((with_reducible refine gate_builtin (b := .append) (xs := #[.tmp 55, .tmp 57]) rfl ?_); at_builtin; refine Kd.R_append (W := W9) seenN (w0 := W9) w.heap.size rfl (.tmp 55) (.tmp 57) 24 34 (.agg #[(.int .i64 0), (.bool false), (.slice none 0 0), (.slice none 0 0)]) 64 rfl undSeens infoSeen rfl (by decide) (by omega) u4 rs (0, false) [.int .i64 0, .bool false, .slice none 0 0, .slice none 0 0] (fun _ => True) (fun _ => False) rfl rfl ?aP (fun _ hk => hk.elim) (fun _ _ => trivial) ?aO ?aB ?aS ?aL ?_; (case aP => exact rfl); (case aO => exact H9.out.out); (case aB => exact Below.refl _ _); (case aS => exact H9.out.big); (case aL => have h1_ := HI2.out.2.2.2; have h2_ := HIN.out; omega); intro v1 w4 ho _ hg hat; have H10 := hid (H9.out.told ho hg); clear ho hg hat)
                have H11 : Hid (Rn w.heap.size w l (i + 1) ks (.slice (some ad3) n c3) v1 (rs ++ [(0, false)]) w4) :=
                  hid ⟨H10.out.1, H10.out.2.1, H10.out.2.2.1, H10.out.2.2.2.1, H10.out.2.2.2.2, HQ.out, HT.out.2.2.1, HT.out.2.2.2, by rw [List.length_append, HI2.out.2.2.2]; rfl⟩
                go_roundg k1
                case measure => omega
                case rel => exact ⟨i + 1, _, _, rfl, HIN.out, by have := HG.out; show k1 + (i + 1) = l.length; omega, H11⟩
    · have e : i = l.length := by omega
      subst e
      have HF : Hid (rs = toldS [[]] l) := by
        have h1 := HI.out.told
        rw [List.drop_length] at h1
        exact hid (by simpa [toldS] using h1)
      go_wp2_with fail
      go_ret
      exact ⟨_, rfl, by rw [← HF.out]; exact HI.out.out, HI.out.below⟩
end Go.Proofs.Ytmhnhfmkcipcpaa.Stack
