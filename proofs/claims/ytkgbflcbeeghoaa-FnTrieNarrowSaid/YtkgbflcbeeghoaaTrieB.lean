/- Ternary search tries in memory: nodes that are no longer used go. For every trie. -/
import Derived.Test.YtkgbflcbeeghoaaTrieA
namespace Go.Proofs.Ytkgbflcbeeghoaa.Trie
open Go Go.RowKit Go.Proofs.Ytkgbflcbeeghoaa.Hk Go.Proofs.Ytkgbflcbeeghoaa.TriePure
def N.isNil : N → Bool
  | .nil => true
  | .node _ _ _ _ _ _ _ => false
theorem raw_nil : ∀ t : N, t.raw.isNil = t.isNil
  | .nil => rfl
  | .node _ _ _ _ _ _ _ => rfl
def N.minN : N → N
  | .nil => .nil
  | .node b c .nil m r v ok => .node b c .nil m r v ok
  | .node _ _ (.node b c l m r v ok) _ _ _ _ => N.minN (.node b c l m r v ok)
def N.dropMin : N → N
  | .nil => .nil
  | .node _ _ .nil _ r _ _ => r
  | .node b c (.node b' c' l' m' r' v' ok') m r v ok => .node b c (N.dropMin (.node b' c' l' m' r' v' ok')) m r v ok
theorem minN_raw : ∀ t : N, (N.minN t).raw = T.minN t.raw
  | .nil => rfl
  | .node _ _ .nil _ _ _ _ => rfl
  | .node _ _ (.node b c l m r v ok) _ _ _ _ => minN_raw (.node b c l m r v ok)
theorem dropMin_raw : ∀ t : N, (N.dropMin t).raw = T.dropMin t.raw
  | .nil => rfl
  | .node _ _ .nil _ _ _ _ => rfl
  | .node b c (.node b' c' l' m' r' v' ok') m r v ok => by
    show T.node c (N.dropMin (.node b' c' l' m' r' v' ok')).raw m.raw r.raw v ok = _
    rw [dropMin_raw]; rfl
theorem min_form : ∀ {b : Nat} {c : UInt8} {l m r : N} {v : Int} {ok : Bool}, ∃ b' c' m' r' v' ok', N.minN (.node b c l m r v ok) = .node b' c' .nil m' r' v' ok' ∧
    (N.node b c l m r v ok).ids.Perm (b' :: (m'.ids ++ (N.dropMin (.node b c l m r v ok)).ids))
  | b, c, .nil, m, r, v, ok => ⟨b, c, m, r, v, ok, rfl, List.Perm.refl _⟩
  | b, c, .node b1 c1 l1 m1 r1 v1 ok1, m, r, v, ok => by
    obtain ⟨b', c', m', r', v', ok', e, hp⟩ := min_form (b := b1) (c := c1) (l := l1) (m := m1) (r := r1) (v := v1) (ok := ok1)
    refine ⟨b', c', m', r', v', ok', e, ?_⟩
    show (b :: ((N.node b1 c1 l1 m1 r1 v1 ok1).ids ++ (m.ids ++ r.ids))).Perm (b' :: (m'.ids ++ (b :: ((N.dropMin (.node b1 c1 l1 m1 r1 v1 ok1)).ids ++ (m.ids ++ r.ids)))))
    refine List.perm_iff_count.2 (fun a => ?_)
    have h := List.perm_iff_count.1 hp a
    simp only [List.count_cons, List.count_append] at h ⊢
    omega
theorem min_in {w : World} : ∀ {t : N}, t.In w → (N.minN t).In w
  | .nil, _ => trivial
  | .node _ _ .nil _ _ _ _, h => h
  | .node _ _ (.node b c l m r v ok) _ _ _ _, h => min_in (t := .node b c l m r v ok) h.2.1
def N.llen : N → Nat
  | .nil => 0
  | .node _ _ l _ _ _ _ => N.llen l + 1

theorem isUnused_any (b : Nat) (c : UInt8) (l m r : N) (v : Int) (ok : Bool) (w : World) (hin : (N.node b c l m r v ok).In w) :
    Calls Try.prog 73 #[.pointer (some ⟨b, 0, none⟩)] w fun e w' => e = .returned (.bool (!ok && m.isNil)) ∧ w' = w := by
  have c5 : w.cell? ⟨b, 5, none⟩ = some (.bool ok) := hin.1.cell 5
  have c2 : w.cell? ⟨b, 2, none⟩ = some m.ptr := hin.1.cell 2
  clear hin
  cases ok with
  | true =>
    clear c2
    go_enter Try.func73, Try.ntmps73
    go_wp2_with fail
    go_ret
    exact ⟨rfl, rfl⟩
  | false =>
    cases m with
    | nil =>
      have c2' : w.cell? ⟨b, 2, none⟩ = some (.pointer none) := c2
      clear c2
      go_enter Try.func73, Try.ntmps73
      go_wp2_with fail
      go_ret
      exact ⟨rfl, rfl⟩
    | node b2 c2_ l2 m2 r2 v2 ok2 =>
      have c2' : w.cell? ⟨b, 2, none⟩ = some (.pointer (some ⟨b2, 0, none⟩)) := c2
      clear c2
      go_enter Try.func73, Try.ntmps73
      go_wp2_with fail
      go_ret
      exact ⟨rfl, rfl⟩

set_option maxHeartbeats 4000000 in
set_option maxRecDepth 100000 in
theorem minChild_any (b : Nat) (c : UInt8) (l m r : N) (v : Int) (ok : Bool) (w : World) (hin : (N.node b c l m r v ok).In w) :
    Calls Try.prog 78 #[.pointer (some ⟨b, 0, none⟩)] w fun e w' => e = .returned (N.minN (.node b c l m r v ok)).ptr ∧ w' = w := by
  have HI := hid hin
  clear hin
  go_enter Try.func78, Try.ntmps78
  go_wp2_with fail
  go_loopg [0] (N.llen l + 1) (fun gk v0 wr => ∃ (b1 : Nat) (c1 : UInt8) (l1 m1 r1 : N) (v1 : Int) (ok1 : Bool), v0 = .pointer (some ⟨b1, 0, none⟩) ∧ Hid (wr = w) ∧ Hid ((N.node b1 c1 l1 m1 r1 v1 ok1).In w) ∧ Hid (N.minN (.node b1 c1 l1 m1 r1 v1 ok1) = N.minN (.node b c l m r v ok)) ∧ Hid (gk = N.llen l1 + 1))
  case atStart => exact ⟨b, c, l, m, r, v, ok, rfl, hid rfl, HI, hid rfl, hid rfl⟩
  case round =>
    obtain ⟨b1, c1, l1, m1, r1, v1, ok1, rfl, hw, HI1, HE, HG⟩ := hrel
    obtain rfl := hw.out
    clear hw
    have c1' : wr.cell? ⟨b1, 1, none⟩ = some l1.ptr := HI1.out.1.cell 1
    cases l1 with
    | nil =>
      have c1'' : wr.cell? ⟨b1, 1, none⟩ = some (.pointer none) := c1'
      clear c1'
      go_wp2_with fail
      go_ret
      exact ⟨by rw [← HE.out]; rfl, rfl⟩
    | node b2 c2 l2 m2 r2 v2 ok2 =>
      have c1'' : wr.cell? ⟨b1, 1, none⟩ = some (.pointer (some ⟨b2, 0, none⟩)) := c1'
      clear c1'
      obtain ⟨kg, rfl⟩ : ∃ kg, gk = kg + 1 := ⟨gk - 1, by have := HG.out; omega⟩
      go_wp2_with fail
      go_roundg kg
      case measure => omega
      case rel => exact ⟨b2, c2, l2, m2, r2, v2, ok2, rfl, hid rfl, hid HI1.out.2.1, hid HE.out, hid (show kg = N.llen (.node b2 c2 l2 m2 r2 v2 ok2) by exact Nat.succ.inj HG.out)⟩

theorem drop_ids {t : N} : ∀ x ∈ (N.dropMin t).ids, x ∈ t.ids := by
  cases t with
  | nil => exact fun _ h => h
  | node b c l m r v ok =>
    obtain ⟨b', c', m', r', v', ok', e, hp⟩ := min_form (b := b) (c := c) (l := l) (m := m) (r := r) (v := v) (ok := ok)
    exact fun x hx => hp.mem_iff.2 (by simp [hx])
set_option maxHeartbeats 4000000 in
set_option maxRecDepth 100000 in
theorem deleteMin_any : ∀ (t : N) (w : World), t.In w → t.ids.Nodup → t ≠ .nil →
    Calls Try.prog 79 #[t.ptr] w fun e w' => e = .returned (N.dropMin t).ptr ∧ (N.dropMin t).In w' ∧ Fr (· ∈ (N.dropMin t).ids) w w'
  | .nil, _, _, _, h => absurd rfl h
  | .node b c .nil m r v ok, w, hin, _, _ => by
    have HI := hid hin
    have c1 : w.cell? ⟨b, 1, none⟩ = some (.pointer none) := hin.1.cell 1
    have c3 : w.cell? ⟨b, 3, none⟩ = some r.ptr := hin.1.cell 3
    clear hin
    show Calls Try.prog 79 #[.pointer (some ⟨b, 0, none⟩)] w _
    go_enter Try.func79, Try.ntmps79
    go_wp2_with fail
    go_ret
    exact ⟨rfl, HI.out.2.2.2, Fr.refl _ _⟩
  | .node b c (.node b1 c1 l1 m1 r1 v1 ok1) m r v ok, w, hin, hnd, _ => by
    have HI := hid hin
    have HA := hid (apart_iff.1 hnd)
    have c1' : w.cell? ⟨b, 1, none⟩ = some (.pointer (some ⟨b1, 0, none⟩)) := hin.1.cell 1
    clear hin hnd
    show Calls Try.prog 79 #[.pointer (some ⟨b, 0, none⟩)] w _
    go_enter Try.func79, Try.ntmps79
    go_wp2_with fail
    refine (deleteMin_any (.node b1 c1 l1 m1 r1 v1 ok1) w HI.out.2.1 HA.out.nl (fun e => by cases e)).mono ?_
    rintro e w1 ⟨rfl, hd, hF⟩
    have hbd : b ∉ (N.dropMin (.node b1 c1 l1 m1 r1 v1 ok1)).ids := fun h => HA.out.bl (drop_ids _ h)
    have hbk : Blk w1 b (cells c (.pointer (some ⟨b1, 0, none⟩)) m.ptr r.ptr v ok) 115 := HI.out.1.fr hF hbd
    have H1 := hid (And.intro hd (And.intro hF (And.intro hbd hbk)))
    have d1 : w1.cell? ⟨b, 1, none⟩ = some (.pointer (some ⟨b1, 0, none⟩)) := hbk.cell 1
    have f1 : w1.frozen? ⟨b, 1, none⟩ = false := hbk.free 1
    obtain ⟨u, hu⟩ := (N.dropMin (.node b1 c1 l1 m1 r1 v1 ok1)).ptr_some
    have HU := hid hu
    rw [hu]
    clear hd hF hbd hbk hu c1'
    go_wp2_with fail
    go_ret
    obtain ⟨h1, h2, h3, h4⟩ := H1.out
    have F2 : Fr (· = b) w1 (w1.setCell ⟨b, 1, none⟩ (.pointer u)) := Fr.one
    have k4 := h4.set 1 (.pointer u)
    rw [← HU.out] at k4
    refine ⟨rfl, ⟨by rw [← HU.out]; exact k4, h1.fr F2 (fun x hx e => h3 (e ▸ hx)), (HI.out.2.2.1.fr h2 (fun x hx hy => HA.out.lm x (drop_ids x hy) hx)).fr F2 (fun x hx e => HA.out.bm (e ▸ hx)), (HI.out.2.2.2.fr h2 (fun x hx hy => HA.out.lr x (drop_ids x hy) hx)).fr F2 (fun x hx e => HA.out.br (e ▸ hx))⟩, ?_⟩
    exact (h2.mono (fun x _ hx => by simp [N.dropMin, N.ids, hx])).trans (F2.mono (fun x _ e => by rw [e]; simp [N.dropMin, N.ids])) (fun _ _ e => e)
/-- A node whose own place is no longer used: what stands there then. -/
def N.del : N → N
  | .nil => .nil
  | .node _ _ l _ r _ _ => if r.isNil then l else if l.isNil then r else match N.minN r with
    | .nil => .nil
    | .node b' c' _ m' _ v' ok' => .node b' c' l m' (N.dropMin r) v' ok'
theorem del_raw : ∀ t : N, (N.del t).raw = T.del t.raw
  | .nil => rfl
  | .node _ _ l _ r _ _ => by
    simp only [N.del, N.raw, T.del, raw_nil]
    split
    · rfl
    · split
      · rfl
      · rw [← minN_raw]
        cases hm : N.minN r with
        | nil => rfl
        | node b' c' l' m' r' v' ok' => simp only [N.raw, dropMin_raw]
set_option maxHeartbeats 4000000 in
set_option maxRecDepth 100000 in
theorem delete_any (b : Nat) (c : UInt8) (l m r : N) (v : Int) (ok : Bool) (base : Nat) (w : World) (g : Good base w (.node b c l m r v ok)) :
    Calls Try.prog 74 #[.pointer (some ⟨b, 0, none⟩)] w fun e w' => e = .returned (N.del (.node b c l m r v ok)).ptr ∧ Put (.node b c l m r v ok) (N.del (.node b c l m r v ok)) w w' := by
  have HG := hid g
  have HA := hid (apart_iff.1 g.nodup)
  have c1 : w.cell? ⟨b, 1, none⟩ = some l.ptr := g.mem.1.cell 1
  have c3 : w.cell? ⟨b, 3, none⟩ = some r.ptr := g.mem.1.cell 3
  clear g
  cases r with
  | nil =>
    have c3' : w.cell? ⟨b, 3, none⟩ = some (.pointer none) := c3
    clear c3
    go_enter Try.func74, Try.ntmps74
    go_wp2_with fail
    go_ret
    exact ⟨rfl, HG.out.mem.2.1, HA.out.nl, fun x hx => .inl (by simp only [N.ids, List.mem_cons, List.mem_append]; exact .inr (.inl hx)), Fr.refl _ _⟩
  | node b1 c1_ l1 m1 r1 v1 ok1 =>
    have c3' : w.cell? ⟨b, 3, none⟩ = some (.pointer (some ⟨b1, 0, none⟩)) := c3
    clear c3
    cases l with
    | nil =>
      have c1' : w.cell? ⟨b, 1, none⟩ = some (.pointer none) := c1
      clear c1
      go_enter Try.func74, Try.ntmps74
      go_wp2_with fail
      go_ret
      exact ⟨rfl, HG.out.mem.2.2.2, HA.out.nr, fun x hx => .inl (List.mem_cons_of_mem _ (List.mem_append_right _ (List.mem_append_right _ hx))), Fr.refl _ _⟩
    | node b2 c2_ l2 m2 r2 v2 ok2 =>
      have c1' : w.cell? ⟨b, 1, none⟩ = some (.pointer (some ⟨b2, 0, none⟩)) := c1
      clear c1
      obtain ⟨b', c', m', r', v', ok', e0, hp⟩ := min_form (b := b1) (c := c1_) (l := l1) (m := m1) (r := r1) (v := v1) (ok := ok1)
      have HE := hid e0
      have HP := hid hp
      have hmin := min_in HG.out.mem.2.2.2
      rw [e0] at hmin
      have HM := hid hmin
      clear e0 hp hmin
      go_enter Try.func74, Try.ntmps74
      go_wp2_with fail
      refine (minChild_any b1 c1_ l1 m1 r1 v1 ok1 w HG.out.mem.2.2.2).mono ?_
      rintro e w1 ⟨rfl, rfl⟩
      obtain ⟨w, rfl⟩ : ∃ w, w = w1 := ⟨_, rfl⟩
      rw [HE.out]
      rw [show (N.node b' c' .nil m' r' v' ok').ptr = .pointer (some ⟨b', 0, none⟩) from rfl]
      go_wp2_with fail
      refine (deleteMin_any (.node b1 c1_ l1 m1 r1 v1 ok1) w HG.out.mem.2.2.2 HA.out.nr (fun e => by cases e)).mono ?_
      rintro e w1 ⟨rfl, hd, hF⟩
      have hnd : (b' :: (m'.ids ++ (N.dropMin (.node b1 c1_ l1 m1 r1 v1 ok1)).ids)).Nodup := HP.out.nodup_iff.1 HA.out.nr
      obtain ⟨n1, n2⟩ := List.nodup_cons.1 hnd
      obtain ⟨n3, n4, n5⟩ := List.nodup_append.1 n2
      have n1d : b' ∉ (N.dropMin (.node b1 c1_ l1 m1 r1 v1 ok1)).ids := fun h => n1 (by simp [h])
      have n1m : b' ∉ m'.ids := fun h => n1 (by simp [h])
      have hb'r : b' ∈ (N.node b1 c1_ l1 m1 r1 v1 ok1).ids := HP.out.mem_iff.2 (by simp)
      have hm'r : ∀ x ∈ m'.ids, x ∈ (N.node b1 c1_ l1 m1 r1 v1 ok1).ids := fun x hx => HP.out.mem_iff.2 (by simp [hx])
      have hdr : ∀ x ∈ (N.dropMin (.node b1 c1_ l1 m1 r1 v1 ok1)).ids, x ∈ (N.node b1 c1_ l1 m1 r1 v1 ok1).ids := fun x hx => drop_ids x hx
      have hbk : Blk w1 b' (cells c' (.pointer none) m'.ptr r'.ptr v' ok') 115 := HM.out.1.fr hF n1d
      have hb : Blk w1 b (cells c (.pointer (some ⟨b2, 0, none⟩)) m.ptr (.pointer (some ⟨b1, 0, none⟩)) v ok) 115 := HG.out.mem.1.fr hF (fun h => HA.out.br (hdr _ h))
      have hne : b ≠ b' := fun e => HA.out.br (e ▸ hb'r)
      have H1 := hid (And.intro hd (And.intro hF (And.intro hbk hb)))
      have HN := hid (And.intro n1d (And.intro n1m (And.intro n3 (And.intro n4 (And.intro n5 (And.intro hb'r (And.intro hm'r (And.intro hdr hne))))))))
      obtain ⟨u, hu⟩ := (N.dropMin (.node b1 c1_ l1 m1 r1 v1 ok1)).ptr_some
      have HU := hid hu
      rw [hu]
      have d3 : w1.cell? ⟨b', 3, none⟩ = some r'.ptr := hbk.cell 3
      have d1 : w1.cell? ⟨b', 1, none⟩ = some (.pointer none) := hbk.cell 1
      have f3 : w1.frozen? ⟨b', 3, none⟩ = false := hbk.free 3
      have f1 : w1.frozen? ⟨b', 1, none⟩ = false := hbk.free 1
      have x1 : w1.cell? ⟨b, 1, none⟩ = some (.pointer (some ⟨b2, 0, none⟩)) := hb.cell 1
      clear hd hF hnd n1 n2 n3 n4 n5 n1d n1m hb'r hm'r hdr hbk hb hu c1' c3'
      go_wp2_with fail
      go_ret
      obtain ⟨n1d, n1m, n3, n4, n5, hb'r, hm'r, hdr, hne⟩ := HN.out
      obtain ⟨hd, hF, hbk, hb⟩ := H1.out
      have F2 : Fr (· = b') w1 ((w1.setCell ⟨b', 3, none⟩ (.pointer u)).setCell ⟨b', 1, none⟩ (.pointer (some ⟨b2, 0, none⟩))) := Fr.one.then Fr.one
      have k4 := (hbk.set 3 (.pointer u)).set 1 (.pointer (some ⟨b2, 0, none⟩))
      have hdel : N.del (.node b c (.node b2 c2_ l2 m2 r2 v2 ok2) m (.node b1 c1_ l1 m1 r1 v1 ok1) v ok) = .node b' c' (.node b2 c2_ l2 m2 r2 v2 ok2) m' (N.dropMin (.node b1 c1_ l1 m1 r1 v1 ok1)) v' ok' := by
        simp only [N.del, N.isNil, HE.out]
        rfl
      have sepL : ∀ x ∈ (N.node b2 c2_ l2 m2 r2 v2 ok2).ids, x ∉ (N.node b1 c1_ l1 m1 r1 v1 ok1).ids := HA.out.lr
      have hbl : b' ∉ (N.node b2 c2_ l2 m2 r2 v2 ok2).ids := fun h => sepL b' h hb'r
      rw [hdel]
      refine ⟨rfl, ⟨⟨by rw [HU.out]; exact k4, (HG.out.mem.2.1.fr hF (fun x hx hy => sepL x hx (hdr x hy))).fr F2 (fun x hx e => hbl (e ▸ hx)), (HM.out.2.2.1.fr hF (fun x hx hy => n5 x hx x hy rfl)).fr F2 (fun x hx e => n1m (e ▸ hx)), hd.fr F2 (fun x hx e => n1d (e ▸ hx))⟩, apart_iff.2 ⟨hbl, n1m, n1d, HA.out.nl, n3, n4, fun x hx hy => sepL x hx (hm'r x hy), fun x hx hy => sepL x hx (hdr x hy), fun x hx hy => n5 x hx x hy rfl⟩, fun x hx => .inl ?_, ?_⟩⟩
      · rcases List.mem_cons.1 hx with e | e
        · rw [e]; exact List.mem_cons_of_mem _ (List.mem_append_right _ (List.mem_append_right _ hb'r))
        · rcases List.mem_append.1 e with e | e
          · exact List.mem_cons_of_mem _ (List.mem_append_left _ e)
          · rcases List.mem_append.1 e with e | e
            · exact List.mem_cons_of_mem _ (List.mem_append_right _ (List.mem_append_right _ (hm'r x e)))
            · exact List.mem_cons_of_mem _ (List.mem_append_right _ (List.mem_append_right _ (hdr x e)))
      · exact (hF.mono (fun x _ hx => List.mem_cons_of_mem _ (List.mem_append_right _ (List.mem_append_right _ (hdr x hx))))).trans (F2.mono (fun x _ e => by rw [e]; exact List.mem_cons_of_mem _ (List.mem_append_right _ (List.mem_append_right _ hb'r)))) (fun _ _ e => e)
end Go.Proofs.Ytkgbflcbeeghoaa.Trie
