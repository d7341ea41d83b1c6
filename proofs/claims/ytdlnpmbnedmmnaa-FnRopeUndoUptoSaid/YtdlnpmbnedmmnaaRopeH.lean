/- Ropes in memory: Remove. For every rope and all its places. -/
import Derived.Test.YtdlnpmbnedmmnaaRopeG
import Derived.Deep.RegionLaw
namespace Go.Proofs.Ytdlnpmbnedmmnaa.Rope
open Go Go.RowKit Go.Deep Go.Proofs.Ytdlnpmbnedmmnaa.Hk Go.Proofs.Ytdlnpmbnedmmnaa.RopePure Go.Proofs.YtdlnpmbnedmmnaaW.PrintWords Go.Proofs.YtdlnpmbnedmmnaaW.PrintLast Go.Proofs.YtdlnpmbnedmmnaaW.PrintMore
/-- What a change of a rope leaves. -/
def Turn (t : N) (raw : T) (w : World) (e : Ending) (w' : World) : Prop :=
  e = .returned (.tuple #[]) ∧ ∃ t' : N, t'.blk = t.blk ∧ t'.raw = raw ∧ t'.In w' ∧ (∀ k o, t'.own k o → t.own k o ∨ w.heap.size ≤ k) ∧ Fz t.own w w'
/-- Numbers written into a row. -/
theorem Seg.write {w : World} {b q c : Nat} {xs : List Int} (h : Seg w (some ⟨b, q, none⟩) c xs) (p : Nat) (zs ys : List Int) (hp : p + zs.length ≤ c) (hy : ys.length ≤ c)
    (hi : ∀ i x, ys[i]? = some x → p ≤ i → i < p + zs.length → zs[i - p]? = some x) (ho : ∀ i x, ys[i]? = some x → (i < p ∨ p + zs.length ≤ i) → xs[i]? = some x) :
    Seg (w.setCells b (q + p) (zs.map (Value.int .i64))) (some ⟨b, q, none⟩) c ys := by
  refine ⟨hy, h.spot, fun h0 => ?_⟩
  obtain ⟨b', q', e, hc⟩ := h.at_ h0
  injection e with e; injection e with e1 e2
  subst e1 e2
  have hlen : (zs.map (Value.int .i64)).length = zs.length := List.length_map ..
  refine ⟨b, q, rfl, fun i hi' => ?_⟩
  obtain ⟨f, v, hv, hx⟩ := hc i hi'
  refine ⟨(World.frozen?_setCells b _ _ _ _).trans f, ?_⟩
  by_cases hr : p ≤ i ∧ i < p + zs.length
  · have hj : i - p < (zs.map (Value.int .i64)).length := by omega
    refine ⟨(zs.map (Value.int .i64))[i - p], ?_, fun x ex => ?_⟩
    · have := World.cell?_setCells_in b (zs.map (Value.int .i64)) (q + p) w (fun j hj => by
        obtain ⟨_, u, hu, _⟩ := hc (p + j) (by omega)
        rw [show q + p + j = q + (p + j) by omega, hu]
        rfl) (i - p) hj
      rwa [show q + p + (i - p) = q + i by omega] at this
    · have h1 := hi i x ex hr.1 hr.2
      have h2 : (zs.map (Value.int .i64))[i - p]? = some (Value.int .i64 x) := by rw [List.getElem?_map, h1]; rfl
      rw [List.getElem?_eq_getElem hj] at h2
      exact Option.some.inj h2
  · refine ⟨v, (World.cell?_setCells_out b _ _ _ _ (fun _ _ => ?_)).trans hv, fun x ex => hx x (ho i x ex (by omega))⟩
    show q + i < q + p ∨ q + p + (zs.map (Value.int .i64)).length ≤ q + i
    omega
/-- A leaf whose row has become another one, adjusted. -/
theorem turned {bk : Nat} {A A' : Option Addr} {c c' : Nat} {xs ys : List Int} {w W : World} (hB : Blk W bk (leafC A' c' ys.length) 60) (hS : Seg W A' c' ys)
    (hd : ∀ o, ¬ dz A' c' bk o) (ho : ∀ k o, dz A' c' k o → dz A c k o ∨ w.heap.size ≤ k) (hF : Fz (N.leaf bk A c xs).own w W) (hl : ys.length ≤ 1099511627776) :
    Calls Try.prog 27 #[.pointer (some ⟨bk, 0, none⟩)] W (Turn (.leaf bk A c xs) (T.new ys) w) := by
  refine (adj_leaf _ ys (Nat.le_refl _) hl bk A' c' W hB hS hd).mono ?_
  rintro e w' ⟨rfl, t, h1, h2, h3, h4, h5⟩
  refine ⟨rfl, t, h1, h2, h3, fun k o hk => ?_, hF.trans h5 (fun n o _ e => .inl e)⟩
  rcases h4 k o hk with e | e | e
  · exact .inl (.inl e)
  · rcases ho k o e with e | e
    · exact .inl (.inr e)
    · exact .inr e
  · exact .inr (Nat.le_trans hF.size e)
set_option maxHeartbeats 8000000 in
set_option maxRecDepth 100000 in
theorem rem_leaf (bk ba qa c : Nat) (xs : List Int) (a b : Nat) (w : World) (hin : (N.leaf bk (some ⟨ba, qa, none⟩) c xs).In w) (hab : a ≤ b) (hb : b ≤ xs.length) (hl : xs.length ≤ 1099511627776) (hbc : b < c) :
    Calls Try.prog 31 #[.pointer (some ⟨bk, 0, none⟩), .int .i64 (a : Int), .int .i64 (b : Int)] w (Turn (.leaf bk (some ⟨ba, qa, none⟩) c xs) (T.new (xs.take a ++ xs.drop b)) w) := by
  have HI := hid hin
  have hxc := hin.2.1.le
  have c0 : w.cell? ⟨bk, 0, none⟩ = some (.int .u8 0) := hin.1.cell 0
  have c1 : w.cell? ⟨bk, 1, none⟩ = some (.slice (some ⟨ba, qa, none⟩) xs.length c) := hin.1.cell 1
  have c2 : w.cell? ⟨bk, 2, none⟩ = some (.int .i64 (xs.length : Int)) := hin.1.cell 2
  have f1 : w.frozen? ⟨bk, 1, none⟩ = false := hin.1.free 1
  have hsd := hin.2.1.drop rfl hb
  obtain ⟨i, hi, hz, hsz, hby⟩ := infoInt
  obtain ⟨news, hnews⟩ : ∃ news, news = (xs.drop b).map (Value.int .i64) := ⟨_, rfl⟩
  have hnl : news.length = xs.length - b := by rw [hnews, List.length_map, List.length_drop]
  have s1 := hid hnl
  have s2 : Hid (∀ j u, news[j]? = some u → w.drew.cell? ((⟨ba, qa + b, none⟩ : Addr).add j) = some u) := hid (by rw [hnews]; exact (hsd.rd.below (Below.refl _ _).drew).news _ rfl)
  have s3 : Hid (∀ u ∈ news, u.oneCell' = true) := hid (by rw [hnews]; exact ints_one _)
  have s4 : Hid (∀ j, j < news.length → (w.drew.cell? ⟨ba, qa + a * 1 + j, none⟩).isSome = true ∧ w.drew.frozen? ⟨ba, qa + a * 1 + j, none⟩ = false) := hid (fun j hj => by
    obtain ⟨b', q', e, hcl⟩ := hin.2.1.at_ (by omega)
    injection e with e; injection e with e1 e2
    subst e1 e2
    obtain ⟨g1, v, g2, _⟩ := hcl (a + j) (by omega)
    rw [show qa + a * 1 + j = qa + (a + j) by omega]
    exact ⟨by show (w.cell? _).isSome = true; rw [g2]; rfl, g1⟩)
  have hne : bk ≠ ba := fun e => hin.2.2 qa ⟨qa, by rw [e], by omega, by omega⟩
  have e1 : (w.drew.setCells ba (qa + a) news).frozen? ⟨bk, 1, none⟩ = false := (World.frozen?_setCells ba _ _ _ _).trans f1
  have k1 : (w.drew.setCells ba (qa + a) news).cell? ⟨bk, 1, none⟩ = some (.slice (some ⟨ba, qa, none⟩) xs.length c) := (World.cell?_setCells_out ba _ _ _ _ (fun h _ => absurd h hne)).trans c1
  have k2 : (w.drew.setCells ba (qa + a) news).cell? ⟨bk, 2, none⟩ = some (.int .i64 (xs.length : Int)) := (World.cell?_setCells_out ba _ _ _ _ (fun h _ => absurd h hne)).trans c2
  have e2 : (w.drew.setCells ba (qa + a) news).frozen? ⟨bk, 2, none⟩ = false := (World.frozen?_setCells ba _ _ _ _).trans (hin.1.free 2)
  have hac : a ≤ c := by omega
  have hcb : ¬ c = b := by omega
  have hNE := hid hne
  have HN := hid hnews
  have HW : Hid (Calls Try.prog 27 #[.pointer (some ⟨bk, 0, none⟩)] (((w.drew.setCells ba (qa + a) news).setCell ⟨bk, 1, none⟩ (.slice (some ⟨ba, qa, none⟩) (a + (xs.length - b)) c)).setCell ⟨bk, 2, none⟩ (.int .i64 ((a : Int) + ((xs.length - b : Nat) : Int)))) (Turn (.leaf bk (some ⟨ba, qa, none⟩) c xs) (T.new (xs.take a ++ xs.drop b)) w)) := hid (by
    have hyl : (xs.take a ++ xs.drop b).length = a + (xs.length - b) := by rw [List.length_append, List.length_take, List.length_drop]; omega
    have F1 : Fz (N.leaf bk (some ⟨ba, qa, none⟩) c xs).own w (w.drew.setCells ba (qa + a) news) := (Fz.refl _ w).drew.trans (Fz.cells news (qa + a) w.drew) (fun n o _ e => .inr ⟨qa, by rw [e.1], by omega, by omega⟩)
    have B1 : Blk (w.drew.setCells ba (qa + a) news) bk (leafC (some ⟨ba, qa, none⟩) c xs.length) 60 := blk_fz (w := w.drew) hin.1 (Fz.cells news (qa + a) w.drew) (fun o e => hne e.1)
    have F2 : ∀ (W : World) (i : Nat) (v : Value), Fz (fun k _ => k = bk) W (W.setCell ⟨bk, i, none⟩ v) := fun W i v => Fz.one.mono (fun _ _ _ e => e.1)
    refine turned (A' := some ⟨ba, qa, none⟩) (c' := c) ?_ ?_ hin.2.2 (fun k o e => .inl e) ((F1.trans (F2 _ _ _) (fun _ _ _ e => .inl e)).trans (F2 _ _ _) (fun _ _ _ e => .inl e)) (by omega)
    · have := (B1.set 1 (.slice (some ⟨ba, qa, none⟩) (a + (xs.length - b)) c)).set 2 (.int .i64 ((a : Int) + ((xs.length - b : Nat) : Int)))
      rw [hyl]
      exact this
    · have hS : Seg (w.drew.setCells ba (qa + a) news) (some ⟨ba, qa, none⟩) c (xs.take a ++ xs.drop b) := by
        rw [hnews]
        refine Seg.write (hin.2.1.below (Below.refl _ _).drew) a (xs.drop b) _ (by rw [List.length_drop]; omega) (by omega) (fun i x e h1 h2 => ?_) (fun i x e h1 => ?_)
        · rw [List.getElem?_append_right (by rw [List.length_take]; omega), List.length_take, Nat.min_eq_left (by omega)] at e
          exact e
        · have hlt := (List.getElem?_eq_some_iff.1 e).1
          rw [hyl] at hlt
          rw [List.length_drop] at h1
          rw [List.getElem?_append_left (by rw [List.length_take]; omega), List.getElem?_take_of_lt (by omega)] at e
          exact e
      exact (hS.fz (F2 _ _ _) (fun k o hz e => hin.2.2 o (by rw [← e]; exact hz))).fz (F2 _ _ _) (fun k o hz e => hin.2.2 o (by rw [← e]; exact hz)))
  clear hin hsd hnews hnl hne hbc
  go_enter Try.func31, Try.ntmps31
  go_wp2_with fail
  go_region_law (refine step_append_room rfl (.tmp 24) (.tmp 30) 24 rfl 3 i 1 Try.underlying24 hi hsz ba qa a c (by simp [Act.eval, Act.put]) ⟨ba, qa + b, none⟩ (xs.length - b) (c - b) news (by simp [Act.eval, Act.put]) (by have := s1.out; omega) s2.out s3.out (by omega) s4.out ?_)
  all_goals go_wp2_with fail
  all_goals (refine HW.out.mono ?_; rintro e w1 ⟨rfl, hT⟩; have HT := hid hT; clear hT; go_wp2_with fail)
  all_goals (try simp only [Exit.inBlock, Exit.then])
  all_goals (refine bodyPost_end (results_none rfl _ _ _) rfl ?_; exact ⟨rfl, HT.out⟩)
set_option maxHeartbeats 8000000 in
set_option maxRecDepth 100000 in
theorem rem_leaf2 (bk ba qa c : Nat) (xs : List Int) (a b : Nat) (w : World) (hin : (N.leaf bk (some ⟨ba, qa, none⟩) c xs).In w) (hab : a ≤ b) (hb : b ≤ xs.length) (hl : xs.length ≤ 1099511627776) (hbc : b = c) (hbx : b = xs.length) :
    Calls Try.prog 31 #[.pointer (some ⟨bk, 0, none⟩), .int .i64 (a : Int), .int .i64 (b : Int)] w (Turn (.leaf bk (some ⟨ba, qa, none⟩) c xs) (T.new (xs.take a ++ xs.drop b)) w) := by
  subst hbc
  subst hbx
  have c0 : w.cell? ⟨bk, 0, none⟩ = some (.int .u8 0) := hin.1.cell 0
  have c1 : w.cell? ⟨bk, 1, none⟩ = some (.slice (some ⟨ba, qa, none⟩) xs.length xs.length) := hin.1.cell 1
  have c2 : w.cell? ⟨bk, 2, none⟩ = some (.int .i64 (xs.length : Int)) := hin.1.cell 2
  have f1 : w.frozen? ⟨bk, 1, none⟩ = false := hin.1.free 1
  obtain ⟨i, hi, hz, hsz, hby⟩ := infoInt
  have s2 : Hid (∀ j u, ([] : List Value)[j]? = some u → w.drew.cell? ((⟨ba, qa, none⟩ : Addr).add j) = some u) := hid (fun j u h => by simp at h)
  have s3 : Hid (∀ u ∈ ([] : List Value), u.oneCell' = true) := hid (fun u h => by simp at h)
  have s4 : Hid (∀ j, j < ([] : List Value).length → (w.drew.cell? ⟨ba, qa + a * 1 + j, none⟩).isSome = true ∧ w.drew.frozen? ⟨ba, qa + a * 1 + j, none⟩ = false) := hid (fun j hj => by simp at hj)
  have e1 : (w.drew.setCells ba (qa + a) []).frozen? ⟨bk, 1, none⟩ = false := f1
  have k1 : (w.drew.setCells ba (qa + a) []).cell? ⟨bk, 1, none⟩ = some (.slice (some ⟨ba, qa, none⟩) xs.length xs.length) := c1
  have k2 : (w.drew.setCells ba (qa + a) []).cell? ⟨bk, 2, none⟩ = some (.int .i64 (xs.length : Int)) := c2
  have e2 : (w.drew.setCells ba (qa + a) []).frozen? ⟨bk, 2, none⟩ = false := hin.1.free 2
  have hac : a ≤ xs.length := hab
  have HW : Hid (Calls Try.prog 27 #[.pointer (some ⟨bk, 0, none⟩)] (((w.drew.setCells ba (qa + a) []).setCell ⟨bk, 1, none⟩ (.slice (some ⟨ba, qa, none⟩) a xs.length)).setCell ⟨bk, 2, none⟩ (.int .i64 (a : Int))) (Turn (.leaf bk (some ⟨ba, qa, none⟩) xs.length xs) (T.new (xs.take a ++ xs.drop xs.length)) w)) := hid (by
    have hd : xs.drop xs.length = [] := List.drop_eq_nil_of_le (by omega)
    have hyl : (xs.take a).length = a := by rw [List.length_take]; omega
    rw [hd, List.append_nil]
    have F1 : Fz (N.leaf bk (some ⟨ba, qa, none⟩) xs.length xs).own w w.drew := (Fz.refl _ w).drew
    have F2 : ∀ (W : World) (i : Nat) (v : Value), Fz (fun k _ => k = bk) W (W.setCell ⟨bk, i, none⟩ v) := fun W i v => Fz.one.mono (fun _ _ _ e => e.1)
    refine turned (A' := some ⟨ba, qa, none⟩) (c' := xs.length) ?_ ?_ hin.2.2 (fun k o e => .inl e) ((F1.trans (F2 _ _ _) (fun _ _ _ e => .inl e)).trans (F2 _ _ _) (fun _ _ _ e => .inl e)) (by omega)
    · have := (Blk.drew hin.1).set 1 (.slice (some ⟨ba, qa, none⟩) a xs.length)
      have := this.set 2 (.int .i64 (a : Int))
      rw [hyl]
      exact this
    · have hS : Seg w.drew (some ⟨ba, qa, none⟩) xs.length (xs.take a) := (hin.2.1.below (Below.refl _ _).drew).take a
      exact (hS.fz (F2 _ _ _) (fun k o hz e => hin.2.2 o (by rw [← e]; exact hz))).fz (F2 _ _ _) (fun k o hz e => hin.2.2 o (by rw [← e]; exact hz)))
  clear hin
  go_enter Try.func31, Try.ntmps31
  go_wp2_with fail
  go_region_law (refine step_append_room rfl (.tmp 24) (.tmp 30) 24 rfl 3 i 1 Try.underlying24 hi hsz ba qa a xs.length (by simp [Act.eval, Act.put]) ⟨ba, qa, none⟩ 0 0 [] (by simp [Act.eval, Act.put]) rfl s2.out s3.out (by omega) s4.out ?_)
  all_goals go_wp2_with fail
  all_goals (refine HW.out.mono ?_; rintro e w1 ⟨rfl, hT⟩; have HT := hid hT; clear hT; go_wp2_with fail)
  all_goals (try simp only [Exit.inBlock, Exit.then])
  all_goals (refine bodyPost_end (results_none rfl _ _ _) rfl ?_; exact ⟨rfl, HT.out⟩)
set_option maxHeartbeats 8000000 in
set_option maxRecDepth 100000 in
theorem rem_leaf0 (bk : Nat) (w : World) (hin : (N.leaf bk none 0 []).In w) :
    Calls Try.prog 31 #[.pointer (some ⟨bk, 0, none⟩), .int .i64 0, .int .i64 0] w (Turn (.leaf bk none 0 []) (T.new []) w) := by
  have c0 : w.cell? ⟨bk, 0, none⟩ = some (.int .u8 0) := hin.1.cell 0
  have c1 : w.cell? ⟨bk, 1, none⟩ = some (.slice none 0 0) := hin.1.cell 1
  have c2 : w.cell? ⟨bk, 2, none⟩ = some (.int .i64 0) := hin.1.cell 2
  have f1 : w.frozen? ⟨bk, 1, none⟩ = false := hin.1.free 1
  have f2 : w.frozen? ⟨bk, 2, none⟩ = false := hin.1.free 2
  have HI := hid hin
  obtain ⟨i, hi, hz, hsz, hby⟩ := infoInt
  clear hin
  go_enter Try.func31, Try.ntmps31
  go_wp2_with fail
  have HW : Hid (∀ W, W = w.drew → Calls Try.prog 27 #[.pointer (some ⟨bk, 0, none⟩)] ((W.setCell ⟨bk, 1, none⟩ (.slice none 0 0)).setCell ⟨bk, 2, none⟩ (.int .i64 0)) (Turn (.leaf bk none 0 []) (T.new []) w)) := hid (fun W hW => by
    subst hW
    have F2 : ∀ (W : World) (i : Nat) (v : Value), Fz (fun k _ => k = bk) W (W.setCell ⟨bk, i, none⟩ v) := fun W i v => Fz.one.mono (fun _ _ _ e => e.1)
    have hd : ∀ k o, ¬ dz none 0 k o := fun k o hz => by
      obtain ⟨q, e, _⟩ := hz
      cases e
    refine turned (A' := none) (c' := 0) (((Blk.drew HI.out.1).set 1 (.slice none 0 0)).set 2 (.int .i64 0)) (Seg.empty _ _ (fun ad e => by cases e)) (hd bk) (fun k o e => .inl e) ((((Fz.refl _ w).drew).trans (F2 _ _ _) (fun _ _ _ e => .inl e)).trans (F2 _ _ _) (fun _ _ _ e => .inl e)) (by simp))
  go_region
  all_goals go_wp2_with fail
  all_goals (refine (HW.out _ rfl).mono ?_; rintro e w1 ⟨rfl, hT⟩; have HT := hid hT; clear hT; go_wp2_with fail)
  all_goals (try simp only [Exit.inBlock, Exit.then])
  all_goals (refine bodyPost_end (results_none rfl _ _ _) rfl ?_; exact ⟨rfl, HT.out⟩)
theorem rem_any_leaf (bk : Nat) (A : Option Addr) (c : Nat) (xs : List Int) (a b : Nat) (w : World) (hin : (N.leaf bk A c xs).In w) (hab : a ≤ b) (hb : b ≤ xs.length) (hl : xs.length ≤ 1099511627776) :
    Calls Try.prog 31 #[.pointer (some ⟨bk, 0, none⟩), .int .i64 (a : Int), .int .i64 (b : Int)] w (Turn (.leaf bk A c xs) (T.new (xs.take a ++ xs.drop b)) w) := by
  have hxc := hin.2.1.le
  cases A with
  | none =>
    have hx : xs = [] := hin.2.1.rd.nil_ rfl
    have hc : c = 0 := hin.2.1.rd.none_ rfl
    subst hx hc
    have hb0 : b = 0 := by simpa using hb
    have ha0 : a = 0 := by omega
    subst hb0 ha0
    exact rem_leaf0 bk w hin
  | some ad =>
    obtain ⟨ba, qa, rfl⟩ := hin.2.1.spot ad rfl
    by_cases h : b < c
    · exact rem_leaf bk ba qa c xs a b w hin hab hb hl h
    · exact rem_leaf2 bk ba qa c xs a b w hin hab hb hl (by omega) (by omega)
end Go.Proofs.Ytdlnpmbnedmmnaa.Rope
