/- What the law's row stands on, part 1: contracts of functions, for the arguments and worlds that each one names. -/
import Derived.Test.YtkgbflcbeeghoaaCkFnTrieUndo0
import Derived.ArgAppend
import Derived.Lib.ConvBytes
import Derived.Deep.AppendLies
namespace Go.Proofs.Ytkgbflcbeeghoaa.Trie
open Go Go.RowKit Go.Proofs.Ytkgbflcbeeghoaa.Hk Go.Proofs.Ytkgbflcbeeghoaa.TriePure
def N.isNil : N → Bool
  | .nil => true
  | .node _ _ _ _ _ _ _ => false
theorem raw_nil : ∀ t : N, t.raw.isNil = t.isNil
  | .nil => rfl
  | .node _ _ _ _ _ _ _ => rfl
def N.minN : N → N
  | .nil => .nil
  | .node b c .nil m r v ok => .node b c .nil m r v ok
  | .node _ _ (.node b c l m r v ok) _ _ _ _ => N.minN (.node b c l m r v ok)
def N.dropMin : N → N
  | .nil => .nil
  | .node _ _ .nil _ r _ _ => r
  | .node b c (.node b' c' l' m' r' v' ok') m r v ok => .node b c (N.dropMin (.node b' c' l' m' r' v' ok')) m r v ok
theorem minN_raw : ∀ t : N, (N.minN t).raw = T.minN t.raw
  | .nil => rfl
  | .node _ _ .nil _ _ _ _ => rfl
  | .node _ _ (.node b c l m r v ok) _ _ _ _ => minN_raw (.node b c l m r v ok)
theorem dropMin_raw : ∀ t : N, (N.dropMin t).raw = T.dropMin t.raw
  | .nil => rfl
  | .node _ _ .nil _ _ _ _ => rfl
  | .node b c (.node b' c' l' m' r' v' ok') m r v ok => by
    show T.node c (N.dropMin (.node b' c' l' m' r' v' ok')).raw m.raw r.raw v ok = _
    rw [dropMin_raw]; rfl
theorem min_form : ∀ {b : Nat} {c : UInt8} {l m r : N} {v : Int} {ok : Bool}, ∃ b' c' m' r' v' ok', N.minN (.node b c l m r v ok) = .node b' c' .nil m' r' v' ok' ∧
    (N.node b c l m r v ok).ids.Perm (b' :: (m'.ids ++ (N.dropMin (.node b c l m r v ok)).ids))
  | b, c, .nil, m, r, v, ok => ⟨b, c, m, r, v, ok, rfl, List.Perm.refl _⟩
  | b, c, .node b1 c1 l1 m1 r1 v1 ok1, m, r, v, ok => by
    obtain ⟨b', c', m', r', v', ok', e, hp⟩ := min_form (b := b1) (c := c1) (l := l1) (m := m1) (r := r1) (v := v1) (ok := ok1)
    refine ⟨b', c', m', r', v', ok', e, ?_⟩
    show (b :: ((N.node b1 c1 l1 m1 r1 v1 ok1).ids ++ (m.ids ++ r.ids))).Perm (b' :: (m'.ids ++ (b :: ((N.dropMin (.node b1 c1 l1 m1 r1 v1 ok1)).ids ++ (m.ids ++ r.ids)))))
    refine List.perm_iff_count.2 (fun a => ?_)
    have h := List.perm_iff_count.1 hp a
    simp only [List.count_cons, List.count_append] at h ⊢
    omega
theorem min_in {w : World} : ∀ {t : N}, t.In w → (N.minN t).In w
  | .nil, _ => trivial
  | .node _ _ .nil _ _ _ _, h => h
  | .node _ _ (.node b c l m r v ok) _ _ _ _, h => min_in (t := .node b c l m r v ok) h.2.1
def N.llen : N → Nat
  | .nil => 0
  | .node _ _ l _ _ _ _ => N.llen l + 1
theorem isUnused_any (b : Nat) (c : UInt8) (l m r : N) (v : Int) (ok : Bool) (w : World) (hin : (N.node b c l m r v ok).In w) :
    Calls Try.prog 73 #[.pointer (some ⟨b, 0, none⟩)] w fun e w' => e = .returned (.bool (!ok && m.isNil)) ∧ w' = w := by
  have c5 : w.cell? ⟨b, 5, none⟩ = some (.bool ok) := hin.1.cell 5
  have c2 : w.cell? ⟨b, 2, none⟩ = some m.ptr := hin.1.cell 2
  clear hin
  cases ok with
  | true =>
    clear c2
    go_enter Try.func73, Try.ntmps73
    go_wp2_with fail
    go_ret
    exact ⟨rfl, rfl⟩
  | false =>
    cases m with
    | nil =>
      have c2' : w.cell? ⟨b, 2, none⟩ = some (.pointer none) := c2
      clear c2
      go_enter Try.func73, Try.ntmps73
      go_wp2_with fail
      go_ret
      exact ⟨rfl, rfl⟩
    | node b2 c2_ l2 m2 r2 v2 ok2 =>
      have c2' : w.cell? ⟨b, 2, none⟩ = some (.pointer (some ⟨b2, 0, none⟩)) := c2
      clear c2
      go_enter Try.func73, Try.ntmps73
      go_wp2_with fail
      go_ret
      exact ⟨rfl, rfl⟩
set_option maxHeartbeats 4000000 in
set_option maxRecDepth 100000 in
theorem minChild_any (b : Nat) (c : UInt8) (l m r : N) (v : Int) (ok : Bool) (w : World) (hin : (N.node b c l m r v ok).In w) :
    Calls Try.prog 78 #[.pointer (some ⟨b, 0, none⟩)] w fun e w' => e = .returned (N.minN (.node b c l m r v ok)).ptr ∧ w' = w := by
  have HI := hid hin
  clear hin
  go_enter Try.func78, Try.ntmps78
  go_wp2_with fail
  go_loopg [0] (N.llen l + 1) (fun gk v0 wr => ∃ (b1 : Nat) (c1 : UInt8) (l1 m1 r1 : N) (v1 : Int) (ok1 : Bool), v0 = .pointer (some ⟨b1, 0, none⟩) ∧ Hid (wr = w) ∧ Hid ((N.node b1 c1 l1 m1 r1 v1 ok1).In w) ∧ Hid (N.minN (.node b1 c1 l1 m1 r1 v1 ok1) = N.minN (.node b c l m r v ok)) ∧ Hid (gk = N.llen l1 + 1))
  case atStart => exact ⟨b, c, l, m, r, v, ok, rfl, hid rfl, HI, hid rfl, hid rfl⟩
  case round =>
    obtain ⟨b1, c1, l1, m1, r1, v1, ok1, rfl, hw, HI1, HE, HG⟩ := hrel
    obtain rfl := hw.out
    clear hw
    have c1' : wr.cell? ⟨b1, 1, none⟩ = some l1.ptr := HI1.out.1.cell 1
    cases l1 with
    | nil =>
      have c1'' : wr.cell? ⟨b1, 1, none⟩ = some (.pointer none) := c1'
      clear c1'
      go_wp2_with fail
      go_ret
      exact ⟨by rw [← HE.out]; rfl, rfl⟩
    | node b2 c2 l2 m2 r2 v2 ok2 =>
      have c1'' : wr.cell? ⟨b1, 1, none⟩ = some (.pointer (some ⟨b2, 0, none⟩)) := c1'
      clear c1'
      obtain ⟨kg, rfl⟩ : ∃ kg, gk = kg + 1 := ⟨gk - 1, by have := HG.out; omega⟩
      go_wp2_with fail
      go_roundg kg
      case measure => omega
      case rel => exact ⟨b2, c2, l2, m2, r2, v2, ok2, rfl, hid rfl, hid HI1.out.2.1, hid HE.out, hid (show kg = N.llen (.node b2 c2 l2 m2 r2 v2 ok2) by exact Nat.succ.inj HG.out)⟩
theorem drop_ids {t : N} : ∀ x ∈ (N.dropMin t).ids, x ∈ t.ids := by
  cases t with
  | nil => exact fun _ h => h
  | node b c l m r v ok =>
    obtain ⟨b', c', m', r', v', ok', e, hp⟩ := min_form (b := b) (c := c) (l := l) (m := m) (r := r) (v := v) (ok := ok)
    exact fun x hx => hp.mem_iff.2 (by simp [hx])
set_option maxHeartbeats 4000000 in
set_option maxRecDepth 100000 in
theorem deleteMin_any : ∀ (t : N) (w : World), t.In w → t.ids.Nodup → t ≠ .nil →
    Calls Try.prog 79 #[t.ptr] w fun e w' => e = .returned (N.dropMin t).ptr ∧ (N.dropMin t).In w' ∧ Fr (· ∈ (N.dropMin t).ids) w w'
  | .nil, _, _, _, h => absurd rfl h
  | .node b c .nil m r v ok, w, hin, _, _ => by
    have HI := hid hin
    have c1 : w.cell? ⟨b, 1, none⟩ = some (.pointer none) := hin.1.cell 1
    have c3 : w.cell? ⟨b, 3, none⟩ = some r.ptr := hin.1.cell 3
    clear hin
    show Calls Try.prog 79 #[.pointer (some ⟨b, 0, none⟩)] w _
    go_enter Try.func79, Try.ntmps79
    go_wp2_with fail
    go_ret
    exact ⟨rfl, HI.out.2.2.2, Fr.refl _ _⟩
  | .node b c (.node b1 c1 l1 m1 r1 v1 ok1) m r v ok, w, hin, hnd, _ => by
    have HI := hid hin
    have HA := hid (apart_iff.1 hnd)
    have c1' : w.cell? ⟨b, 1, none⟩ = some (.pointer (some ⟨b1, 0, none⟩)) := hin.1.cell 1
    clear hin hnd
    show Calls Try.prog 79 #[.pointer (some ⟨b, 0, none⟩)] w _
    go_enter Try.func79, Try.ntmps79
    go_wp2_with fail
    refine (deleteMin_any (.node b1 c1 l1 m1 r1 v1 ok1) w HI.out.2.1 HA.out.nl (fun e => by cases e)).mono ?_
    rintro e w1 ⟨rfl, hd, hF⟩
    have hbd : b ∉ (N.dropMin (.node b1 c1 l1 m1 r1 v1 ok1)).ids := fun h => HA.out.bl (drop_ids _ h)
    have hbk : Blk w1 b (cells c (.pointer (some ⟨b1, 0, none⟩)) m.ptr r.ptr v ok) 115 := HI.out.1.fr hF hbd
    have H1 := hid (And.intro hd (And.intro hF (And.intro hbd hbk)))
    have d1 : w1.cell? ⟨b, 1, none⟩ = some (.pointer (some ⟨b1, 0, none⟩)) := hbk.cell 1
    have f1 : w1.frozen? ⟨b, 1, none⟩ = false := hbk.free 1
    obtain ⟨u, hu⟩ := (N.dropMin (.node b1 c1 l1 m1 r1 v1 ok1)).ptr_some
    have HU := hid hu
    rw [hu]
    clear hd hF hbd hbk hu c1'
    go_wp2_with fail
    go_ret
    obtain ⟨h1, h2, h3, h4⟩ := H1.out
    have F2 : Fr (· = b) w1 (w1.setCell ⟨b, 1, none⟩ (.pointer u)) := Fr.one
    have k4 := h4.set 1 (.pointer u)
    rw [← HU.out] at k4
    refine ⟨rfl, ⟨by rw [← HU.out]; exact k4, h1.fr F2 (fun x hx e => h3 (e ▸ hx)), (HI.out.2.2.1.fr h2 (fun x hx hy => HA.out.lm x (drop_ids x hy) hx)).fr F2 (fun x hx e => HA.out.bm (e ▸ hx)), (HI.out.2.2.2.fr h2 (fun x hx hy => HA.out.lr x (drop_ids x hy) hx)).fr F2 (fun x hx e => HA.out.br (e ▸ hx))⟩, ?_⟩
    exact (h2.mono (fun x _ hx => by simp [N.dropMin, N.ids, hx])).trans (F2.mono (fun x _ e => by rw [e]; simp [N.dropMin, N.ids])) (fun _ _ e => e)
/-- A node whose own place is no longer used: what stands there then. -/
def N.del : N → N
  | .nil => .nil
  | .node _ _ l _ r _ _ => if r.isNil then l else if l.isNil then r else match N.minN r with
    | .nil => .nil
    | .node b' c' _ m' _ v' ok' => .node b' c' l m' (N.dropMin r) v' ok'
theorem del_raw : ∀ t : N, (N.del t).raw = T.del t.raw
  | .nil => rfl
  | .node _ _ l _ r _ _ => by
    simp only [N.del, N.raw, T.del, raw_nil]
    split
    · rfl
    · split
      · rfl
      · rw [← minN_raw]
        cases hm : N.minN r with
        | nil => rfl
        | node b' c' l' m' r' v' ok' => simp only [N.raw, dropMin_raw]
set_option maxHeartbeats 4000000 in
set_option maxRecDepth 100000 in
theorem delete_any (b : Nat) (c : UInt8) (l m r : N) (v : Int) (ok : Bool) (base : Nat) (w : World) (g : Good base w (.node b c l m r v ok)) :
    Calls Try.prog 74 #[.pointer (some ⟨b, 0, none⟩)] w fun e w' => e = .returned (N.del (.node b c l m r v ok)).ptr ∧ Put (.node b c l m r v ok) (N.del (.node b c l m r v ok)) w w' := by
  have HG := hid g
  have HA := hid (apart_iff.1 g.nodup)
  have c1 : w.cell? ⟨b, 1, none⟩ = some l.ptr := g.mem.1.cell 1
  have c3 : w.cell? ⟨b, 3, none⟩ = some r.ptr := g.mem.1.cell 3
  clear g
  cases r with
  | nil =>
    have c3' : w.cell? ⟨b, 3, none⟩ = some (.pointer none) := c3
    clear c3
    go_enter Try.func74, Try.ntmps74
    go_wp2_with fail
    go_ret
    exact ⟨rfl, HG.out.mem.2.1, HA.out.nl, fun x hx => .inl (by simp only [N.ids, List.mem_cons, List.mem_append]; exact .inr (.inl hx)), Fr.refl _ _⟩
  | node b1 c1_ l1 m1 r1 v1 ok1 =>
    have c3' : w.cell? ⟨b, 3, none⟩ = some (.pointer (some ⟨b1, 0, none⟩)) := c3
    clear c3
    cases l with
    | nil =>
      have c1' : w.cell? ⟨b, 1, none⟩ = some (.pointer none) := c1
      clear c1
      go_enter Try.func74, Try.ntmps74
      go_wp2_with fail
      go_ret
      exact ⟨rfl, HG.out.mem.2.2.2, HA.out.nr, fun x hx => .inl (List.mem_cons_of_mem _ (List.mem_append_right _ (List.mem_append_right _ hx))), Fr.refl _ _⟩
    | node b2 c2_ l2 m2 r2 v2 ok2 =>
      have c1' : w.cell? ⟨b, 1, none⟩ = some (.pointer (some ⟨b2, 0, none⟩)) := c1
      clear c1
      obtain ⟨b', c', m', r', v', ok', e0, hp⟩ := min_form (b := b1) (c := c1_) (l := l1) (m := m1) (r := r1) (v := v1) (ok := ok1)
      have HE := hid e0
      have HP := hid hp
      have hmin := min_in HG.out.mem.2.2.2
      rw [e0] at hmin
      have HM := hid hmin
      clear e0 hp hmin
      go_enter Try.func74, Try.ntmps74
      go_wp2_with fail
      refine (minChild_any b1 c1_ l1 m1 r1 v1 ok1 w HG.out.mem.2.2.2).mono ?_
      rintro e w1 ⟨rfl, rfl⟩
      obtain ⟨w, rfl⟩ : ∃ w, w = w1 := ⟨_, rfl⟩
      rw [HE.out]
      rw [show (N.node b' c' .nil m' r' v' ok').ptr = .pointer (some ⟨b', 0, none⟩) from rfl]
      go_wp2_with fail
      refine (deleteMin_any (.node b1 c1_ l1 m1 r1 v1 ok1) w HG.out.mem.2.2.2 HA.out.nr (fun e => by cases e)).mono ?_
      rintro e w1 ⟨rfl, hd, hF⟩
      have hnd : (b' :: (m'.ids ++ (N.dropMin (.node b1 c1_ l1 m1 r1 v1 ok1)).ids)).Nodup := HP.out.nodup_iff.1 HA.out.nr
      obtain ⟨n1, n2⟩ := List.nodup_cons.1 hnd
      obtain ⟨n3, n4, n5⟩ := List.nodup_append.1 n2
      have n1d : b' ∉ (N.dropMin (.node b1 c1_ l1 m1 r1 v1 ok1)).ids := fun h => n1 (by simp [h])
      have n1m : b' ∉ m'.ids := fun h => n1 (by simp [h])
      have hb'r : b' ∈ (N.node b1 c1_ l1 m1 r1 v1 ok1).ids := HP.out.mem_iff.2 (by simp)
      have hm'r : ∀ x ∈ m'.ids, x ∈ (N.node b1 c1_ l1 m1 r1 v1 ok1).ids := fun x hx => HP.out.mem_iff.2 (by simp [hx])
      have hdr : ∀ x ∈ (N.dropMin (.node b1 c1_ l1 m1 r1 v1 ok1)).ids, x ∈ (N.node b1 c1_ l1 m1 r1 v1 ok1).ids := fun x hx => drop_ids x hx
      have hbk : Blk w1 b' (cells c' (.pointer none) m'.ptr r'.ptr v' ok') 115 := HM.out.1.fr hF n1d
      have hb : Blk w1 b (cells c (.pointer (some ⟨b2, 0, none⟩)) m.ptr (.pointer (some ⟨b1, 0, none⟩)) v ok) 115 := HG.out.mem.1.fr hF (fun h => HA.out.br (hdr _ h))
      have hne : b ≠ b' := fun e => HA.out.br (e ▸ hb'r)
      have H1 := hid (And.intro hd (And.intro hF (And.intro hbk hb)))
      have HN := hid (And.intro n1d (And.intro n1m (And.intro n3 (And.intro n4 (And.intro n5 (And.intro hb'r (And.intro hm'r (And.intro hdr hne))))))))
      obtain ⟨u, hu⟩ := (N.dropMin (.node b1 c1_ l1 m1 r1 v1 ok1)).ptr_some
      have HU := hid hu
      rw [hu]
      have d3 : w1.cell? ⟨b', 3, none⟩ = some r'.ptr := hbk.cell 3
      have d1 : w1.cell? ⟨b', 1, none⟩ = some (.pointer none) := hbk.cell 1
      have f3 : w1.frozen? ⟨b', 3, none⟩ = false := hbk.free 3
      have f1 : w1.frozen? ⟨b', 1, none⟩ = false := hbk.free 1
      have x1 : w1.cell? ⟨b, 1, none⟩ = some (.pointer (some ⟨b2, 0, none⟩)) := hb.cell 1
      clear hd hF hnd n1 n2 n3 n4 n5 n1d n1m hb'r hm'r hdr hbk hb hu c1' c3'
      go_wp2_with fail
      go_ret
      obtain ⟨n1d, n1m, n3, n4, n5, hb'r, hm'r, hdr, hne⟩ := HN.out
      obtain ⟨hd, hF, hbk, hb⟩ := H1.out
      have F2 : Fr (· = b') w1 ((w1.setCell ⟨b', 3, none⟩ (.pointer u)).setCell ⟨b', 1, none⟩ (.pointer (some ⟨b2, 0, none⟩))) := Fr.one.then Fr.one
      have k4 := (hbk.set 3 (.pointer u)).set 1 (.pointer (some ⟨b2, 0, none⟩))
      have hdel : N.del (.node b c (.node b2 c2_ l2 m2 r2 v2 ok2) m (.node b1 c1_ l1 m1 r1 v1 ok1) v ok) = .node b' c' (.node b2 c2_ l2 m2 r2 v2 ok2) m' (N.dropMin (.node b1 c1_ l1 m1 r1 v1 ok1)) v' ok' := by
        simp only [N.del, N.isNil, HE.out]
        rfl
      have sepL : ∀ x ∈ (N.node b2 c2_ l2 m2 r2 v2 ok2).ids, x ∉ (N.node b1 c1_ l1 m1 r1 v1 ok1).ids := HA.out.lr
      have hbl : b' ∉ (N.node b2 c2_ l2 m2 r2 v2 ok2).ids := fun h => sepL b' h hb'r
      rw [hdel]
      refine ⟨rfl, ⟨⟨by rw [HU.out]; exact k4, (HG.out.mem.2.1.fr hF (fun x hx hy => sepL x hx (hdr x hy))).fr F2 (fun x hx e => hbl (e ▸ hx)), (HM.out.2.2.1.fr hF (fun x hx hy => n5 x hx x hy rfl)).fr F2 (fun x hx e => n1m (e ▸ hx)), hd.fr F2 (fun x hx e => n1d (e ▸ hx))⟩, apart_iff.2 ⟨hbl, n1m, n1d, HA.out.nl, n3, n4, fun x hx hy => sepL x hx (hm'r x hy), fun x hx hy => sepL x hx (hdr x hy), fun x hx hy => n5 x hx x hy rfl⟩, fun x hx => .inl ?_, ?_⟩⟩
      · rcases List.mem_cons.1 hx with e | e
        · rw [e]; exact List.mem_cons_of_mem _ (List.mem_append_right _ (List.mem_append_right _ hb'r))
        · rcases List.mem_append.1 e with e | e
          · exact List.mem_cons_of_mem _ (List.mem_append_left _ e)
          · rcases List.mem_append.1 e with e | e
            · exact List.mem_cons_of_mem _ (List.mem_append_right _ (List.mem_append_right _ (hm'r x e)))
            · exact List.mem_cons_of_mem _ (List.mem_append_right _ (List.mem_append_right _ (hdr x e)))
      · exact (hF.mono (fun x _ hx => List.mem_cons_of_mem _ (List.mem_append_right _ (List.mem_append_right _ (hdr x hx))))).trans (F2.mono (fun x _ e => by rw [e]; exact List.mem_cons_of_mem _ (List.mem_append_right _ (List.mem_append_right _ hb'r)))) (fun _ _ e => e)
end Go.Proofs.Ytkgbflcbeeghoaa.Trie

namespace Go.Proofs.Ytkgbflcbeeghoaa.Trie
open Go Go.RowKit Go.Proofs.Ytkgbflcbeeghoaa.Hk Go.Proofs.Ytkgbflcbeeghoaa.TriePure
theorem put_eq {val : Int} {c : UInt8} {l m r : T} {v : Int} {ok : Bool} {k : UInt8} {ks : W} : T.put val (.node c l m r v ok) (k :: ks) =
    if k < c then .node c (T.put val l (k :: ks)) m r v ok else if c < k then .node c l m (T.put val r (k :: ks)) v ok else match ks with
      | [] => .node c l m r val true
      | k2 :: ks2 => .node c l (T.put val m (k2 :: ks2)) r v ok := by cases ks <;> rfl
/-- What put leaves. -/
def Putted (val : Int) (t : N) (ks : W) (w : World) (e : Ending) (w' : World) : Prop := ∃ t' : N, e = .returned t'.ptr ∧ t'.raw = T.put val t.raw ks ∧ Put t t' w w'
def PutC (base : Nat) (s : ByteArray) (val : Int) (Tb : Option Addr) (d : Nat) (t : N) : Prop :=
  ∀ w, Good base w t → base ≤ w.heap.size → Calls Try.prog 61 #[.pointer Tb, t.ptr, .string s, .int .i64 val, .int .i64 (d : Int)] w (Putted val t (suf s d) w)
set_option maxHeartbeats 8000000 in
set_option maxRecDepth 100000 in
theorem put_nil (base : Nat) (s : ByteArray) (val : Int) (Tb : Option Addr) (d : Nat) (hd : d < s.size) (hs : s.size ≤ 1099511627776) (hm : d + 1 < s.size → PutC base s val Tb (d + 1) .nil) : PutC base s val Tb d .nil := by
  intro w _ hb
  have HX := hid (suf_cons s d hd)
  have HB := hid hb
  show Calls Try.prog 61 #[.pointer Tb, .pointer none, .string s, .int .i64 val, .int .i64 (d : Int)] w _
  go_enter Try.func61, Try.ntmps61
  go_upto_region 4 with fail
  have H0 : Hid (Put .nil (.node w.heap.size s[d] .nil .nil .nil 0 false) w (w.alloc (.cells (cells s[d] (.pointer none) (.pointer none) (.pointer none) 0 false) 115))) :=
    hid ⟨⟨Blk.new _ _ _, trivial, trivial, trivial⟩, by simp [N.ids], fun x hx => .inr (by simp [N.ids] at hx; omega), (Fr.refl _ _).alloc _⟩
  have HG : Hid (Good base (w.alloc (.cells (cells s[d] (.pointer none) (.pointer none) (.pointer none) 0 false) 115)) (.node w.heap.size s[d] .nil .nil .nil 0 false) ∧ base ≤ (w.alloc (.cells (cells s[d] (.pointer none) (.pointer none) (.pointer none) 0 false) 115)).heap.size) :=
    hid ⟨⟨H0.out.mem, H0.out.nodup, fun x hx => by simp [N.ids] at hx; omega⟩, by rw [Hk.alloc_size]; omega⟩
  change Code.wp _ _ _ _ (w.alloc (.cells (cells s[d] (.pointer none) (.pointer none) (.pointer none) 0 false) 115))
  generalize w.alloc (.cells (cells s[d] (.pointer none) (.pointer none) (.pointer none) 0 false) 115) = W0 at H0 HG ⊢
  generalize w.heap.size = q at H0 HG ⊢
  have HGB := hid HG.out.2
  replace HG := hid HG.out.1
  have c0 : W0.cell? ⟨q, 0, none⟩ = some (.int .u8 (s[d].toNat : Int)) := HG.out.mem.1.cell 0
  have c2 : W0.cell? ⟨q, 2, none⟩ = some (.pointer none) := HG.out.mem.1.cell 2
  by_cases h3 : d + 1 < s.size
  · have h3i : decide ((d : Int) < (s.size : Int) - 1) = true := decide_eq_true (by omega)
    have h3' : (d : Int) < (s.size : Int) - 1 := by omega
    have HRX : Hid (T.put val N.nil.raw (suf s d) = .node (s[d]) T.nil (T.put val T.nil (suf s (d + 1))) T.nil 0 false) := by
      rw [HX.out, suf_cons s (d + 1) h3]
      exact hid rfl
    have H3 := hid (hm h3)
    clear h3
    go_wp2_with fail
    refine (H3.out W0 HG.out.part_m HGB.out).mono ?_
    rintro e w1 ⟨m', rfl, hraw, hput⟩
    obtain ⟨hk, hset⟩ := Put.set_m HG.out hput
    have HP := hid hset
    have HR := hid hraw
    have d1 : w1.cell? ⟨q, 2, none⟩ = some (.pointer none) := hk.cell 2
    have f1 : w1.frozen? ⟨q, 2, none⟩ = false := hk.free 2
    obtain ⟨u, hu⟩ := m'.ptr_some
    rw [hu] at HP ⊢
    clear hk hset hput hraw hu
    go_wp2_with fail
    go_ret
    exact ⟨.node q (s[d]) .nil m' .nil 0 false, rfl, by rw [HRX.out]; exact congrArg (fun x => T.node _ _ x _ _ _) HR.out, (H0.out.then HP.out)⟩
  · have h3i : decide ((d : Int) < (s.size : Int) - 1) = false := decide_eq_false (by omega)
    have h3' : ¬ (d : Int) < (s.size : Int) - 1 := by omega
    have HRX : Hid (T.put val N.nil.raw (suf s d) = .node (s[d]) T.nil T.nil T.nil val true) := by
      rw [HX.out, suf_nil s (d + 1) (by omega)]
      exact hid rfl
    clear h3
    have H4 : Hid (Put (.node q (s[d]) .nil .nil .nil 0 false) (.node q (s[d]) .nil .nil .nil val false) W0 (W0.setCell ⟨q, 4, none⟩ (.int .i64 val))) := hid (Put.cell HG.out rfl)
    have HG4 := hid (H4.out.good HG.out HGB.out)
    have H5 : Hid (Put (.node q (s[d]) .nil .nil .nil val false) (.node q (s[d]) .nil .nil .nil val true) (W0.setCell ⟨q, 4, none⟩ (.int .i64 val)) ((W0.setCell ⟨q, 4, none⟩ (.int .i64 val)).setCell ⟨q, 5, none⟩ (.bool true))) := hid (Put.cell HG4.out rfl)
    have d4 : W0.cell? ⟨q, 4, none⟩ = some (.int .i64 0) := HG.out.mem.1.cell 4
    have d5 : W0.cell? ⟨q, 5, none⟩ = some (.bool false) := HG.out.mem.1.cell 5
    have f4 : W0.frozen? ⟨q, 4, none⟩ = false := HG.out.mem.1.free 4
    have f5 : W0.frozen? ⟨q, 5, none⟩ = false := HG.out.mem.1.free 5
    go_wp2_with fail
    go_ret
    exact ⟨.node q (s[d]) .nil .nil .nil val true, rfl, by rw [HRX.out]; rfl, (H0.out.then (H4.out.then H5.out))⟩
set_option maxHeartbeats 8000000 in
set_option maxRecDepth 100000 in
theorem put_node (base : Nat) (s : ByteArray) (val : Int) (Tb : Option Addr) (d : Nat) (b : Nat) (c : UInt8) (l m r : N) (v : Int) (ok : Bool) (hd : d < s.size) (hs : s.size ≤ 1099511627776) (hl : PutC base s val Tb d l) (hr : PutC base s val Tb d r) (hm : d + 1 < s.size → PutC base s val Tb (d + 1) m) :
    PutC base s val Tb d (.node b c l m r v ok) := by
  intro w g hb
  have HG := hid g
  have HX := hid (suf_cons s d hd)
  have HB := hid hb
  have HL := hid hl
  have HRR := hid hr
  have c0 : w.cell? ⟨b, 0, none⟩ = some (.int .u8 (c.toNat : Int)) := g.mem.1.cell 0
  have c1 : w.cell? ⟨b, 1, none⟩ = some l.ptr := g.mem.1.cell 1
  have c2 : w.cell? ⟨b, 2, none⟩ = some m.ptr := g.mem.1.cell 2
  have c3 : w.cell? ⟨b, 3, none⟩ = some r.ptr := g.mem.1.cell 3
  clear g hb hl hr
  show Calls Try.prog 61 #[.pointer Tb, .pointer (some ⟨b, 0, none⟩), .string s, .int .i64 val, .int .i64 (d : Int)] w _
  by_cases h1 : s[d] < c
  · have h1' : (s[d]).toNat < (c).toNat := u_lt.1 h1
    have h1i : decide (((s[d]).toNat : Int) < ((c).toNat : Int)) = true := decide_eq_true (by omega)
    have h1n : decide ((s[d]).toNat < (c).toNat) = true := decide_eq_true h1'
    have HRX : Hid (T.put val (N.node b c l m r v ok).raw (suf s d) = .node c (T.put val l.raw (suf s d)) m.raw r.raw v ok) := by
      rw [HX.out]; exact hid (put_eq.trans (if_pos h1))
    clear h1
    go_enter Try.func61, Try.ntmps61
    go_wp2_with fail
    refine (HL.out w HG.out.part_l HB.out).mono ?_
    rintro e w1 ⟨l', rfl, hraw, hput⟩
    obtain ⟨hk, hset⟩ := Put.set_l HG.out hput
    have HP := hid hset
    have HR := hid hraw
    have d1 : w1.cell? ⟨b, 1, none⟩ = some l.ptr := hk.cell 1
    have f1 : w1.frozen? ⟨b, 1, none⟩ = false := hk.free 1
    obtain ⟨u, hu⟩ := l'.ptr_some
    rw [hu] at HP ⊢
    have HU := hid hu
    clear hk hset hput hraw hu
    go_wp2_with fail
    go_ret
    exact ⟨.node b c l' m r v ok, rfl, by rw [HRX.out, ← HR.out]; rfl, HP.out⟩
  by_cases h2 : c < s[d]
  · have h2' : (c).toNat < (s[d]).toNat := u_lt.1 h2
    have h1' : ¬ (s[d]).toNat < (c).toNat := by omega
    have h1i : decide (((s[d]).toNat : Int) < ((c).toNat : Int)) = false := decide_eq_false (by omega)
    have h1n : decide ((s[d]).toNat < (c).toNat) = false := decide_eq_false h1'
    have h2i : decide (((c).toNat : Int) < ((s[d]).toNat : Int)) = true := decide_eq_true (by omega)
    have h2n : decide ((c).toNat < (s[d]).toNat) = true := decide_eq_true h2'
    have HRX : Hid (T.put val (N.node b c l m r v ok).raw (suf s d) = .node c l.raw m.raw (T.put val r.raw (suf s d)) v ok) := by
      rw [HX.out]; exact hid (put_eq.trans ((if_neg h1).trans (if_pos h2)))
    clear h1 h2
    go_enter Try.func61, Try.ntmps61
    go_wp2_with fail
    refine (HRR.out w HG.out.part_r HB.out).mono ?_
    rintro e w1 ⟨r', rfl, hraw, hput⟩
    obtain ⟨hk, hset⟩ := Put.set_r HG.out hput
    have HP := hid hset
    have HR := hid hraw
    have d1 : w1.cell? ⟨b, 3, none⟩ = some r.ptr := hk.cell 3
    have f1 : w1.frozen? ⟨b, 3, none⟩ = false := hk.free 3
    obtain ⟨u, hu⟩ := r'.ptr_some
    rw [hu] at HP ⊢
    have HU := hid hu
    clear hk hset hput hraw hu
    go_wp2_with fail
    go_ret
    exact ⟨.node b c l m r' v ok, rfl, by rw [HRX.out, ← HR.out]; rfl, HP.out⟩
  have h1' : ¬ (s[d]).toNat < (c).toNat := fun e => h1 (u_lt.2 e)
  have h2' : ¬ (c).toNat < (s[d]).toNat := fun e => h2 (u_lt.2 e)
  have h1i : decide (((s[d]).toNat : Int) < ((c).toNat : Int)) = false := decide_eq_false (by omega)
  have h1n : decide ((s[d]).toNat < (c).toNat) = false := decide_eq_false h1'
  have h2i : decide (((c).toNat : Int) < ((s[d]).toNat : Int)) = false := decide_eq_false (by omega)
  have h2n : decide ((c).toNat < (s[d]).toNat) = false := decide_eq_false h2'
  by_cases h3 : d + 1 < s.size
  · have h3i : decide ((d : Int) < (s.size : Int) - 1) = true := decide_eq_true (by omega)
    have h3' : (d : Int) < (s.size : Int) - 1 := by omega
    have HRX : Hid (T.put val (N.node b c l m r v ok).raw (suf s d) = .node (c) (l).raw (T.put val (m).raw (suf s (d + 1))) (r).raw v ok) := by
      rw [HX.out, suf_cons s (d + 1) h3]
      exact hid (put_eq.trans ((if_neg h1).trans (if_neg h2)))
    have H3 := hid (hm h3)
    clear h3 h1 h2
    go_enter Try.func61, Try.ntmps61
    go_wp2_with fail
    refine (H3.out w HG.out.part_m HB.out).mono ?_
    rintro e w1 ⟨m', rfl, hraw, hput⟩
    obtain ⟨hk, hset⟩ := Put.set_m HG.out hput
    have HP := hid hset
    have HR := hid hraw
    have d1 : w1.cell? ⟨b, 2, none⟩ = some (N.ptr (m)) := hk.cell 2
    have f1 : w1.frozen? ⟨b, 2, none⟩ = false := hk.free 2
    obtain ⟨u, hu⟩ := m'.ptr_some
    rw [hu] at HP ⊢
    clear hk hset hput hraw hu
    go_wp2_with fail
    go_ret
    exact ⟨.node b (c) l m' r v ok, rfl, by rw [HRX.out]; exact congrArg (fun x => T.node _ _ x _ _ _) HR.out, HP.out⟩
  · have h3i : decide ((d : Int) < (s.size : Int) - 1) = false := decide_eq_false (by omega)
    have h3' : ¬ (d : Int) < (s.size : Int) - 1 := by omega
    have HRX : Hid (T.put val (N.node b c l m r v ok).raw (suf s d) = .node (c) (l).raw (m).raw (r).raw val true) := by
      rw [HX.out, suf_nil s (d + 1) (by omega)]
      exact hid (put_eq.trans ((if_neg h1).trans (if_neg h2)))
    clear h3 h1 h2
    have H4 : Hid (Put (.node b (c) l m r v ok) (.node b (c) l m r val ok) w (w.setCell ⟨b, 4, none⟩ (.int .i64 val))) := hid (Put.cell HG.out rfl)
    have HG4 := hid (H4.out.good HG.out HB.out)
    have H5 : Hid (Put (.node b (c) l m r val ok) (.node b (c) l m r val true) (w.setCell ⟨b, 4, none⟩ (.int .i64 val)) ((w.setCell ⟨b, 4, none⟩ (.int .i64 val)).setCell ⟨b, 5, none⟩ (.bool true))) := hid (Put.cell HG4.out rfl)
    have d4 : w.cell? ⟨b, 4, none⟩ = some (.int .i64 v) := HG.out.mem.1.cell 4
    have d5 : w.cell? ⟨b, 5, none⟩ = some (.bool ok) := HG.out.mem.1.cell 5
    have f4 : w.frozen? ⟨b, 4, none⟩ = false := HG.out.mem.1.free 4
    have f5 : w.frozen? ⟨b, 5, none⟩ = false := HG.out.mem.1.free 5
    go_enter Try.func61, Try.ntmps61
    go_wp2_with fail
    go_ret
    exact ⟨.node b (c) l m r val true, rfl, by rw [HRX.out]; rfl, (H4.out.then H5.out)⟩
theorem put_any (base : Nat) (s : ByteArray) (val : Int) (Tb : Option Addr) (hs : s.size ≤ 1099511627776) : ∀ (n d : Nat), s.size = d + 1 + n → ∀ t : N, PutC base s val Tb d t := by
  intro n
  induction n with
  | zero =>
    intro d hd t
    induction t with
    | nil => exact put_nil base s val Tb d (by omega) hs (fun h => by omega)
    | node b c l m r v ok ihl _ ihr => exact put_node base s val Tb d b c l m r v ok (by omega) hs ihl ihr (fun h => by omega)
  | succ n ih =>
    intro d hd t
    induction t with
    | nil => exact put_nil base s val Tb d (by omega) hs (fun _ => ih (d + 1) (by omega) .nil)
    | node b c l m r v ok ihl _ ihr => exact put_node base s val Tb d b c l m r v ok (by omega) hs ihl ihr (fun _ => ih (d + 1) (by omega) m)
end Go.Proofs.Ytkgbflcbeeghoaa.Trie

namespace Go.Proofs.Ytkgbflcbeeghoaa.Trie
open Go Go.RowKit Go.Proofs.Ytkgbflcbeeghoaa.Hk Go.Proofs.Ytkgbflcbeeghoaa.TriePure
theorem rem_eq {c : UInt8} {l m r : T} {v : Int} {ok : Bool} {k : UInt8} {ks : W} : T.rem (.node c l m r v ok) (k :: ks) =
    if k < c then T.trim (.node c (T.rem l (k :: ks)) m r v ok) else if c < k then T.trim (.node c l m (T.rem r (k :: ks)) v ok) else match ks with
      | [] => T.trim (.node c l m r 0 false)
      | k2 :: ks2 => T.trim (.node c l (T.rem m (k2 :: ks2)) r v ok) := by cases ks <;> rfl
def Removed (t : N) (ks : W) (w : World) (e : Ending) (w' : World) : Prop := ∃ t' : N, e = .returned t'.ptr ∧ t'.raw = T.rem t.raw ks ∧ Put t t' w w'
def RemC (base : Nat) (s : ByteArray) (Tb : Option Addr) (d : Nat) (t : N) : Prop :=
  ∀ w, Good base w t → base ≤ w.heap.size → Calls Try.prog 62 #[.pointer Tb, t.ptr, .string s, .int .i64 (d : Int)] w (Removed t (suf s d) w)
theorem unused_raw (b : Nat) (c : UInt8) (l m r : N) (v : Int) (ok : Bool) : (N.node b c l m r v ok).raw.unused = (!ok && m.isNil) := by
  show (!ok && m.raw.isNil) = _
  rw [raw_nil]
theorem rem_nil (base : Nat) (s : ByteArray) (Tb : Option Addr) (d : Nat) : RemC base s Tb d .nil := by
  intro w _ _
  show Calls Try.prog 62 #[.pointer Tb, .pointer none, .string s, .int .i64 (d : Int)] w _
  go_enter Try.func62, Try.ntmps62
  go_wp2_with fail
  go_ret
  exact ⟨.nil, rfl, rfl, trivial, List.nodup_nil, fun x hx => by simp [N.ids] at hx, Fr.refl _ _⟩
set_option maxHeartbeats 8000000 in
set_option maxRecDepth 100000 in
theorem rem_node (base : Nat) (s : ByteArray) (Tb : Option Addr) (d : Nat) (b : Nat) (c : UInt8) (l m r : N) (v : Int) (ok : Bool) (hd : d < s.size) (hs : s.size ≤ 1099511627776) (hl : RemC base s Tb d l) (hr : RemC base s Tb d r) (hm : d + 1 < s.size → RemC base s Tb (d + 1) m) :
    RemC base s Tb d (.node b c l m r v ok) := by
  intro w g hb
  have HG := hid g
  have HX := hid (suf_cons s d hd)
  have HB := hid hb
  have HL := hid hl
  have HRR := hid hr
  have c0 : w.cell? ⟨b, 0, none⟩ = some (.int .u8 (c.toNat : Int)) := g.mem.1.cell 0
  have c1 : w.cell? ⟨b, 1, none⟩ = some l.ptr := g.mem.1.cell 1
  have c2 : w.cell? ⟨b, 2, none⟩ = some m.ptr := g.mem.1.cell 2
  have c3 : w.cell? ⟨b, 3, none⟩ = some r.ptr := g.mem.1.cell 3
  clear g hb hl hr
  show Calls Try.prog 62 #[.pointer Tb, .pointer (some ⟨b, 0, none⟩), .string s, .int .i64 (d : Int)] w _
  by_cases h1 : s[d] < c
  · have h1' : (s[d]).toNat < (c).toNat := u_lt.1 h1
    have h1i : decide (((s[d]).toNat : Int) < ((c).toNat : Int)) = true := decide_eq_true (by omega)
    have h1n : decide ((s[d]).toNat < (c).toNat) = true := decide_eq_true h1'
    have HRX : Hid (T.rem (N.node b c l m r v ok).raw (suf s d) = T.trim (T.node c (T.rem l.raw (suf s d)) m.raw r.raw v ok)) := by
      rw [HX.out]; exact hid (rem_eq.trans (if_pos h1))
    clear h1
    go_enter Try.func62, Try.ntmps62
    go_wp2_with fail
    refine (HL.out w HG.out.part_l HB.out).mono ?_
    rintro e w1 ⟨l', rfl, hraw, hput⟩
    obtain ⟨hk, hset⟩ := Put.set_l HG.out hput
    have HP := hid hset
    have HR := hid hraw
    have d1 : w1.cell? ⟨b, 1, none⟩ = some l.ptr := hk.cell 1
    have f1 : w1.frozen? ⟨b, 1, none⟩ = false := hk.free 1
    obtain ⟨u, hu⟩ := l'.ptr_some
    rw [hu] at HP ⊢
    have HU := hid hu
    clear hk hset hput hraw hu
    have HN : Hid ((N.node b c l' m r v ok).raw = T.node c (T.rem l.raw (suf s d)) m.raw r.raw v ok) := by rw [← HR.out]; exact hid rfl
    go_wp2_with fail
    refine (isUnused_any b c l' m r v ok _ HP.out.mem).mono ?_
    rintro e w3 ⟨rfl, rfl⟩
    have HG3 := hid (HP.out.good HG.out HB.out)
    obtain ⟨q, hq⟩ : ∃ q, (!ok && m.isNil) = q := ⟨_, rfl⟩
    have HQ := hid hq
    rw [hq]
    clear hq
    cases q with
    | true =>
      go_wp2_with fail
      refine (delete_any b c l' m r v ok base _ HG3.out).mono ?_
      rintro e w4 ⟨rfl, hdel⟩
      have HD := hid hdel
      clear hdel
      go_wp2_with fail
      go_ret
      exact ⟨_, rfl, by rw [HRX.out, del_raw, HN.out]; exact (if_pos (by rw [← HN.out, unused_raw]; exact HQ.out)).symm, HP.out.then HD.out⟩
    | false =>
      go_wp2_with fail
      go_ret
      exact ⟨.node b c l' m r v ok, rfl, by rw [HRX.out, HN.out]; exact (if_neg (by rw [← HN.out, unused_raw, HQ.out]; simp)).symm, HP.out⟩
  by_cases h2 : c < s[d]
  · have h2' : (c).toNat < (s[d]).toNat := u_lt.1 h2
    have h1' : ¬ (s[d]).toNat < (c).toNat := by omega
    have h1i : decide (((s[d]).toNat : Int) < ((c).toNat : Int)) = false := decide_eq_false (by omega)
    have h1n : decide ((s[d]).toNat < (c).toNat) = false := decide_eq_false h1'
    have h2i : decide (((c).toNat : Int) < ((s[d]).toNat : Int)) = true := decide_eq_true (by omega)
    have h2n : decide ((c).toNat < (s[d]).toNat) = true := decide_eq_true h2'
    have HRX : Hid (T.rem (N.node b c l m r v ok).raw (suf s d) = T.trim (T.node c l.raw m.raw (T.rem r.raw (suf s d)) v ok)) := by
      rw [HX.out]; exact hid (rem_eq.trans ((if_neg h1).trans (if_pos h2)))
    clear h1 h2
    go_enter Try.func62, Try.ntmps62
    go_wp2_with fail
    refine (HRR.out w HG.out.part_r HB.out).mono ?_
    rintro e w1 ⟨r', rfl, hraw, hput⟩
    obtain ⟨hk, hset⟩ := Put.set_r HG.out hput
    have HP := hid hset
    have HR := hid hraw
    have d1 : w1.cell? ⟨b, 3, none⟩ = some r.ptr := hk.cell 3
    have f1 : w1.frozen? ⟨b, 3, none⟩ = false := hk.free 3
    obtain ⟨u, hu⟩ := r'.ptr_some
    rw [hu] at HP ⊢
    have HU := hid hu
    clear hk hset hput hraw hu
    have HN : Hid ((N.node b c l m r' v ok).raw = T.node c l.raw m.raw (T.rem r.raw (suf s d)) v ok) := by rw [← HR.out]; exact hid rfl
    go_wp2_with fail
    refine (isUnused_any b c l m r' v ok _ HP.out.mem).mono ?_
    rintro e w3 ⟨rfl, rfl⟩
    have HG3 := hid (HP.out.good HG.out HB.out)
    obtain ⟨q, hq⟩ : ∃ q, (!ok && m.isNil) = q := ⟨_, rfl⟩
    have HQ := hid hq
    rw [hq]
    clear hq
    cases q with
    | true =>
      go_wp2_with fail
      refine (delete_any b c l m r' v ok base _ HG3.out).mono ?_
      rintro e w4 ⟨rfl, hdel⟩
      have HD := hid hdel
      clear hdel
      go_wp2_with fail
      go_ret
      exact ⟨_, rfl, by rw [HRX.out, del_raw, HN.out]; exact (if_pos (by rw [← HN.out, unused_raw]; exact HQ.out)).symm, HP.out.then HD.out⟩
    | false =>
      go_wp2_with fail
      go_ret
      exact ⟨.node b c l m r' v ok, rfl, by rw [HRX.out, HN.out]; exact (if_neg (by rw [← HN.out, unused_raw, HQ.out]; simp)).symm, HP.out⟩
  have h1' : ¬ (s[d]).toNat < (c).toNat := fun e => h1 (u_lt.2 e)
  have h2' : ¬ (c).toNat < (s[d]).toNat := fun e => h2 (u_lt.2 e)
  have h1i : decide (((s[d]).toNat : Int) < ((c).toNat : Int)) = false := decide_eq_false (by omega)
  have h1n : decide ((s[d]).toNat < (c).toNat) = false := decide_eq_false h1'
  have h2i : decide (((c).toNat : Int) < ((s[d]).toNat : Int)) = false := decide_eq_false (by omega)
  have h2n : decide ((c).toNat < (s[d]).toNat) = false := decide_eq_false h2'
  by_cases h3 : d + 1 < s.size
  · have h3i : decide ((d : Int) < (s.size : Int) - 1) = true := decide_eq_true (by omega)
    have h3' : (d : Int) < (s.size : Int) - 1 := by omega
    have H3 := hid (hm h3)
    have HRX : Hid (T.rem (N.node b c l m r v ok).raw (suf s d) = T.trim (T.node c l.raw (T.rem m.raw (suf s (d + 1))) r.raw v ok)) := by
      rw [HX.out, suf_cons s (d + 1) h3]; exact hid (rem_eq.trans ((if_neg h1).trans (if_neg h2)))
    clear h1 h2 h3
    go_enter Try.func62, Try.ntmps62
    go_wp2_with fail
    refine (H3.out w HG.out.part_m HB.out).mono ?_
    rintro e w1 ⟨m', rfl, hraw, hput⟩
    obtain ⟨hk, hset⟩ := Put.set_m HG.out hput
    have HP := hid hset
    have HR := hid hraw
    have d1 : w1.cell? ⟨b, 2, none⟩ = some m.ptr := hk.cell 2
    have f1 : w1.frozen? ⟨b, 2, none⟩ = false := hk.free 2
    obtain ⟨u, hu⟩ := m'.ptr_some
    rw [hu] at HP ⊢
    have HU := hid hu
    clear hk hset hput hraw hu
    have HN : Hid ((N.node b c l m' r v ok).raw = T.node c l.raw (T.rem m.raw (suf s (d + 1))) r.raw v ok) := by rw [← HR.out]; exact hid rfl
    go_wp2_with fail
    refine (isUnused_any b c l m' r v ok _ HP.out.mem).mono ?_
    rintro e w3 ⟨rfl, rfl⟩
    have HG3 := hid (HP.out.good HG.out HB.out)
    obtain ⟨q, hq⟩ : ∃ q, (!ok && m'.isNil) = q := ⟨_, rfl⟩
    have HQ := hid hq
    rw [hq]
    clear hq
    cases q with
    | true =>
      go_wp2_with fail
      refine (delete_any b c l m' r v ok base _ HG3.out).mono ?_
      rintro e w4 ⟨rfl, hdel⟩
      have HD := hid hdel
      clear hdel
      go_wp2_with fail
      go_ret
      exact ⟨_, rfl, by rw [HRX.out, del_raw, HN.out]; exact (if_pos (by rw [← HN.out, unused_raw]; exact HQ.out)).symm, HP.out.then HD.out⟩
    | false =>
      go_wp2_with fail
      go_ret
      exact ⟨.node b c l m' r v ok, rfl, by rw [HRX.out, HN.out]; exact (if_neg (by rw [← HN.out, unused_raw, HQ.out]; simp)).symm, HP.out⟩
  · have h3i : decide ((d : Int) < (s.size : Int) - 1) = false := decide_eq_false (by omega)
    have h3' : ¬ (d : Int) < (s.size : Int) - 1 := by omega
    have HRX : Hid (T.rem (N.node b c l m r v ok).raw (suf s d) = T.trim (T.node c l.raw m.raw r.raw 0 false)) := by
      rw [HX.out, suf_nil s (d + 1) (by omega)]; exact hid (rem_eq.trans ((if_neg h1).trans (if_neg h2)))
    clear h1 h2 h3
    have H4 : Hid (Put (.node b c l m r v ok) (.node b c l m r 0 ok) w (w.setCell ⟨b, 4, none⟩ (.int .i64 0))) := hid (Put.cell HG.out rfl)
    have HG4 := hid (H4.out.good HG.out HB.out)
    have H5 : Hid (Put (.node b c l m r 0 ok) (.node b c l m r 0 false) (w.setCell ⟨b, 4, none⟩ (.int .i64 0)) ((w.setCell ⟨b, 4, none⟩ (.int .i64 0)).setCell ⟨b, 5, none⟩ (.bool false))) := hid (Put.cell HG4.out rfl)
    have HP := hid (H4.out.then H5.out)
    have d4 : w.cell? ⟨b, 4, none⟩ = some (.int .i64 v) := HG.out.mem.1.cell 4
    have d5 : w.cell? ⟨b, 5, none⟩ = some (.bool ok) := HG.out.mem.1.cell 5
    have f4 : w.frozen? ⟨b, 4, none⟩ = false := HG.out.mem.1.free 4
    have f5 : w.frozen? ⟨b, 5, none⟩ = false := HG.out.mem.1.free 5
    have HN : Hid ((N.node b c l m r 0 false).raw = T.node c l.raw m.raw r.raw 0 false) := hid rfl
    go_enter Try.func62, Try.ntmps62
    go_wp2_with fail
    refine (isUnused_any b c l m r 0 false _ HP.out.mem).mono ?_
    rintro e w3 ⟨rfl, rfl⟩
    have HG3 := hid (HP.out.good HG.out HB.out)
    obtain ⟨q, hq⟩ : ∃ q, (!false && m.isNil) = q := ⟨_, rfl⟩
    have HQ := hid hq
    rw [hq]
    clear hq
    cases q with
    | true =>
      go_wp2_with fail
      refine (delete_any b c l m r 0 false base _ HG3.out).mono ?_
      rintro e w4 ⟨rfl, hdel⟩
      have HD := hid hdel
      clear hdel
      go_wp2_with fail
      go_ret
      exact ⟨_, rfl, by rw [HRX.out, del_raw, HN.out]; exact (if_pos (by rw [← HN.out, unused_raw]; exact HQ.out)).symm, HP.out.then HD.out⟩
    | false =>
      go_wp2_with fail
      go_ret
      exact ⟨.node b c l m r 0 false, rfl, by rw [HRX.out, HN.out]; exact (if_neg (by rw [← HN.out, unused_raw, HQ.out]; simp)).symm, HP.out⟩
theorem rem_any (base : Nat) (s : ByteArray) (Tb : Option Addr) (hs : s.size ≤ 1099511627776) : ∀ (n d : Nat), s.size = d + 1 + n → ∀ t : N, RemC base s Tb d t := by
  intro n
  induction n with
  | zero =>
    intro d hd t
    induction t with
    | nil => exact rem_nil base s Tb d
    | node b c l m r v ok ihl _ ihr => exact rem_node base s Tb d b c l m r v ok (by omega) hs ihl ihr (fun h => by omega)
  | succ n ih =>
    intro d hd t
    induction t with
    | nil => exact rem_nil base s Tb d
    | node b c l m r v ok ihl _ ihr => exact rem_node base s Tb d b c l m r v ok (by omega) hs ihl ihr (fun _ => ih (d + 1) (by omega) m)
end Go.Proofs.Ytkgbflcbeeghoaa.Trie

namespace Go.Proofs.Ytkgbflcbeeghoaa.Trie
open Go Go.RowKit Go.Proofs.Ytkgbflcbeeghoaa.Hk Go.Proofs.Ytkgbflcbeeghoaa.TriePure
/-- A trie: how many words it says to have, and its nodes. -/
structure Tr (base Tb : Nat) (n : Int) (t : N) (w : World) : Prop where
  blk : Blk w Tb #[.int .i64 n, t.ptr] 95
  good : Good base w t
  tb : Tb ∉ t.ids
  ge : base ≤ Tb
/-- The blocks that a trie may turn, by their types. -/
def Zt (base : Nat) (w : World) (k : Nat) : Prop := base ≤ k ∧ ∃ cs t, w.heap[k]? = some (.cells cs t (0, 0)) ∧ (t = 95 ∨ t = 115)
theorem zt_trans {base : Nat} {a b c : World} (h : Fr (Zt base a) a b) (k : Fr (Zt base b) b c) : Fr (Zt base a) a c :=
  h.trans k (fun n hn hz => by
    by_cases h0 : Zt base a n
    · exact h0
    · have := h.block n hn h0
      obtain ⟨h1, h2⟩ := hz
      rw [this] at h2
      exact ⟨h1, h2⟩)
section
variable {base Tb : Nat} {n : Int} {t t' : N} {w w1 : World}
theorem in_typed : ∀ {t : N}, t.In w → ∀ b ∈ t.ids, ∃ cs, w.heap[b]? = some (.cells cs 115 (0, 0))
  | .nil, _, b, h => by simp [N.ids] at h
  | .node _ _ _ _ _ _ _, ⟨h1, h2, h3, h4⟩, b, h => by
    rcases List.mem_cons.1 h with e | h
    · rw [e]; exact ⟨_, h1⟩
    · rcases List.mem_append.1 h with h | h
      · exact in_typed h2 b h
      · rcases List.mem_append.1 h with h | h
        · exact in_typed h3 b h
        · exact in_typed h4 b h
theorem Tr.below (h : Tr base Tb n t w) (hB : Below w.heap.size w w1) : Tr base Tb n t w1 := ⟨h.blk.below hB h.blk.lt, h.good.below hB, h.tb, h.ge⟩
theorem Tr.zt (h : Tr base Tb n t w) : ∀ k, (k = Tb ∨ k ∈ t.ids) → Zt base w k := fun k hk => by
  rcases hk with rfl | hk
  · exact ⟨h.ge, _, _, h.blk, .inl rfl⟩
  · obtain ⟨cs, hc⟩ := in_typed h.good.mem k hk
    exact ⟨h.good.above k hk, cs, _, hc, .inr rfl⟩
theorem Tr.big (h : Tr base Tb n t w) : base ≤ w.heap.size := Nat.le_trans h.ge (Nat.le_of_lt h.blk.lt)
/-- The root turned, and set. -/
theorem Tr.root (h : Tr base Tb n t w) (hp : Put t t' w w1) : Blk w1 Tb #[.int .i64 n, t.ptr] 95 ∧ Tr base Tb n t' (w1.setCell ⟨Tb, 1, none⟩ t'.ptr) ∧ Fr (Zt base w) w (w1.setCell ⟨Tb, 1, none⟩ t'.ptr) := by
  have hk := h.blk.fr hp.fr h.tb
  have hbig := h.big
  have hlt := h.blk.lt
  have hg := hp.good h.good hbig
  have F2 : Fr (· = Tb) w1 (w1.setCell ⟨Tb, 1, none⟩ t'.ptr) := Fr.one
  have htb : Tb ∉ t'.ids := fun e => by
    rcases hp.ids _ e with q | q
    · exact h.tb q
    · omega
  exact ⟨hk, ⟨hk.set 1 _, ⟨hg.mem.fr F2 (fun x hx e => htb (e ▸ hx)), hg.nodup, hg.above⟩, htb, h.ge⟩, (hp.fr.mono (fun x _ hx => h.zt x (.inr hx))).trans F2 (fun x _ e => h.zt x (.inl e))⟩
theorem Tr.count (h : Tr base Tb n t w) (m : Int) : Tr base Tb m t (w.setCell ⟨Tb, 0, none⟩ (.int .i64 m)) ∧ Fr (Zt base w) w (w.setCell ⟨Tb, 0, none⟩ (.int .i64 m)) := by
  have F2 : Fr (· = Tb) w (w.setCell ⟨Tb, 0, none⟩ (.int .i64 m)) := Fr.one
  exact ⟨⟨h.blk.set 0 _, ⟨h.good.mem.fr F2 (fun x hx e => h.tb (e ▸ hx)), h.good.nodup, h.good.above⟩, h.tb, h.ge⟩, F2.mono (fun x _ e => h.zt x (.inl e))⟩
end
abbrev wd (s : ByteArray) : W := s.data.toList
theorem suf0 (s : ByteArray) : suf s 0 = wd s := rfl
/-- What Get tells. -/
def got (t : T) (w : W) : Int × Bool := match T.find t w with
  | none => (0, false)
  | some v => (v, true)
theorem find_nil (t : T) : T.find t [] = none := by cases t <;> rfl
theorem wd_nil {s : ByteArray} (h : s.size = 0) : wd s = [] := List.length_eq_zero_iff.1 (by simpa using h)
theorem New_any (w : World) : Calls Try.prog 28 #[] w fun e w' => ∃ Tb, e = .returned (.pointer (some ⟨Tb, 0, none⟩)) ∧ Tr w.heap.size Tb 0 .nil w' ∧ Below w.heap.size w w' := by
  go_enter Try.func28, Try.ntmps28
  go_wp2_with fail
  go_ret
  exact ⟨w.heap.size, rfl, ⟨Blk.new w _ _, ⟨trivial, List.nodup_nil, fun b hb => by simp [N.ids] at hb⟩, by simp [N.ids], Nat.le_refl _⟩, (Below.refl _ _).alloc (Nat.le_refl _) _⟩
set_option maxHeartbeats 8000000 in
set_option maxRecDepth 100000 in
theorem Get_any (base Tb : Nat) (n : Int) (t : N) (s : ByteArray) (w : World) (hT : Tr base Tb n t w) (hs : s.size ≤ 1099511627776) :
    Calls Try.prog 42 #[.pointer (some ⟨Tb, 0, none⟩), .string s] w fun e w' => e = .returned (.tuple #[.int .i64 (got t.raw (wd s)).1, .bool (got t.raw (wd s)).2]) ∧ w' = w := by
  have HT := hid hT
  have HS := hid hs
  by_cases h0 : s.size = 0
  · have HG : Hid (got t.raw (wd s) = (0, false)) := by unfold got; rw [wd_nil h0, find_nil]; exact hid rfl
    have z1 : (s.size == 0) = true := by simp [h0]
    have z2 : ((s.size : Int) == 0) = true := by simp [h0]
    clear h0 hT
    go_enter Try.func42, Try.ntmps42
    go_wp2_with fail
    go_ret2
    exact ⟨by rw [HG.out]; rfl, rfl⟩
  · have HD : Hid (0 < s.size) := hid (by omega)
    have z1 : (s.size == 0) = false := beq_eq_false_iff_ne.2 h0
    have z2 : ((s.size : Int) == 0) = false := beq_eq_false_iff_ne.2 (by omega)
    have c1 : w.cell? ⟨Tb, 1, none⟩ = some t.ptr := hT.blk.cell 1
    obtain ⟨u, hu⟩ := t.ptr_some
    have HU := hid hu
    rw [hu] at c1
    clear h0 hT hu
    go_enter Try.func42, Try.ntmps42
    go_wp2_with fail
    rw [← HU.out]
    refine (get_any s (some ⟨Tb, 0, none⟩) HS.out t 0 w HT.out.good.mem HD.out).mono ?_
    rintro e w1 ⟨rfl, rfl⟩
    obtain ⟨w, rfl⟩ : ∃ w_, w_ = w1 := ⟨_, rfl⟩
    have HR := hid (sub_raw t (suf s 0))
    have HI := hid (sub_in t (suf s 0) HT.out.good.mem)
    generalize t.sub (suf s 0) = x at HR HI ⊢
    cases x with
    | nil =>
      have HG : Hid (got t.raw (wd s) = (0, false)) := by
        unfold got T.find
        rw [← suf0, ← HR.out]
        exact hid rfl
      rw [show N.nil.ptr = .pointer none from rfl]
      go_wp2_with fail
      go_ret2
      exact ⟨by rw [HG.out]; rfl, rfl⟩
    | node b c l m r v ok =>
      have k5 : w.cell? ⟨b, 5, none⟩ = some (.bool ok) := HI.out.1.cell 5
      have k4 : w.cell? ⟨b, 4, none⟩ = some (.int .i64 v) := HI.out.1.cell 4
      rw [show (N.node b c l m r v ok).ptr = .pointer (some ⟨b, 0, none⟩) from rfl]
      cases ok with
      | true =>
        have HG : Hid (got t.raw (wd s) = (v, true)) := by
          unfold got T.find
          rw [← suf0, ← HR.out]
          exact hid rfl
        go_wp2_with fail
        go_ret2
        exact ⟨by rw [HG.out]; rfl, rfl⟩
      | false =>
        have HG : Hid (got t.raw (wd s) = (0, false)) := by
          unfold got T.find
          rw [← suf0, ← HR.out]
          exact hid rfl
        go_wp2_with fail
        go_ret2
        exact ⟨by rw [HG.out]; rfl, rfl⟩
set_option maxHeartbeats 8000000 in
set_option maxRecDepth 100000 in
theorem Contains_any (base Tb : Nat) (n : Int) (t : N) (s : ByteArray) (w : World) (hT : Tr base Tb n t w) (hs : s.size ≤ 1099511627776) :
    Calls Try.prog 43 #[.pointer (some ⟨Tb, 0, none⟩), .string s] w fun e w' => e = .returned (.bool (got t.raw (wd s)).2) ∧ w' = w := by
  have HT := hid hT
  have HS := hid hs
  by_cases h0 : s.size = 0
  · have HG : Hid (got t.raw (wd s) = (0, false)) := by unfold got; rw [wd_nil h0, find_nil]; exact hid rfl
    have z1 : (s.size == 0) = true := by simp [h0]
    have z2 : ((s.size : Int) == 0) = true := by simp [h0]
    clear h0 hT
    go_enter Try.func43, Try.ntmps43
    go_wp2_with fail
    go_ret
    exact ⟨by rw [HG.out]; rfl, rfl⟩
  · have z1 : (s.size == 0) = false := beq_eq_false_iff_ne.2 h0
    have z2 : ((s.size : Int) == 0) = false := beq_eq_false_iff_ne.2 (by omega)
    clear h0 hT
    go_enter Try.func43, Try.ntmps43
    go_wp2_with fail
    refine (Get_any base Tb n t s w HT.out HS.out).mono ?_
    rintro e w1 ⟨rfl, rfl⟩
    go_wp2_with fail
    go_ret
    exact ⟨rfl, rfl⟩
/-- What Put and Remove make of it. -/
def putT (s : ByteArray) (val : Int) (p : Int × T) : Int × T := if s.size = 0 then p else ((if (got p.2 (wd s)).2 = true then p.1 else p.1 + 1), T.put val p.2 (wd s))
def remT (s : ByteArray) (p : Int × T) : Int × T := if s.size = 0 then p else (p.1 - 1, T.rem p.2 (wd s))
set_option maxHeartbeats 8000000 in
set_option maxRecDepth 100000 in
theorem Put_any (base Tb : Nat) (n : Int) (t : N) (s : ByteArray) (val : Int) (w : World) (hT : Tr base Tb n t w) (hs : s.size ≤ 1099511627776) (hn : -4611686018427387904 ≤ n ∧ n ≤ 4611686018427387904) :
    Calls Try.prog 40 #[.pointer (some ⟨Tb, 0, none⟩), .string s, .int .i64 val] w fun e w' => e = .returned (.tuple #[]) ∧ ∃ t' : N, t'.raw = (putT s val (n, t.raw)).2 ∧ Tr base Tb (putT s val (n, t.raw)).1 t' w' ∧ Fr (Zt base w) w w' := by
  have HT := hid hT
  have HS := hid hs
  by_cases h0 : s.size = 0
  · have HG : Hid (putT s val (n, t.raw) = (n, t.raw)) := hid (if_pos h0)
    have z1 : (s.size == 0) = true := by simp [h0]
    have z2 : ((s.size : Int) == 0) = true := by simp [h0]
    clear h0 hT
    go_enter Try.func40, Try.ntmps40
    go_wp2_with fail
    (try simp only [Exit.inBlock, Exit.then]); refine bodyPost_ret (results_none rfl _ _ _) rfl ?_
    exact ⟨rfl, t, by rw [HG.out], by rw [HG.out]; exact HT.out, Fr.refl _ _⟩
  · have HD : Hid (0 < s.size) := hid (by omega)
    have HG : Hid (putT s val (n, t.raw) = ((if (got t.raw (wd s)).2 = true then n else n + 1), T.put val t.raw (wd s))) := hid (if_neg h0)
    have z1 : (s.size == 0) = false := beq_eq_false_iff_ne.2 h0
    have z2 : ((s.size : Int) == 0) = false := beq_eq_false_iff_ne.2 (by omega)
    obtain ⟨q, hq⟩ : ∃ q, (got t.raw (wd s)).2 = q := ⟨_, rfl⟩
    rw [hq] at HG
    have HQ := hid hq
    clear h0 hT hq
    go_enter Try.func40, Try.ntmps40
    go_wp2_with fail
    refine (Contains_any base Tb n t s w HT.out HS.out).mono ?_
    rintro e w1 ⟨rfl, rfl⟩
    obtain ⟨w, rfl⟩ : ∃ w_, w_ = w1 := ⟨_, rfl⟩
    rw [HQ.out]
    have H1 : Hid (∃ W, W = (if q = true then w else w.setCell ⟨Tb, 0, none⟩ (.int .i64 (n + 1))) ∧ Tr base Tb (if q = true then n else n + 1) t W ∧ Fr (Zt base w) w W) := by
      cases q with
      | true => exact hid ⟨w, rfl, HT.out, Fr.refl _ _⟩
      | false => exact hid ⟨_, rfl, HT.out.count (n + 1)⟩
    cases q with
    | true =>
      have c1 : w.cell? ⟨Tb, 1, none⟩ = some t.ptr := HT.out.blk.cell 1
      obtain ⟨u, hu⟩ := t.ptr_some
      have HU := hid hu
      rw [hu] at c1
      clear hu
      have HPC := hid (put_any base s val (some ⟨Tb, 0, none⟩) HS.out (s.size - 1) 0 (by have := HD.out; omega) t)
      go_wp2_with fail
      rw [← HU.out]
      refine (HPC.out w HT.out.good HT.out.big).mono ?_
      rintro e w1 ⟨t', rfl, hraw, hput⟩
      obtain ⟨hk, hr1, hr2⟩ := HT.out.root hput
      have H2 := hid (And.intro hraw (And.intro hr1 hr2))
      have d1 : w1.cell? ⟨Tb, 1, none⟩ = some t.ptr := hk.cell 1
      have f1 : w1.frozen? ⟨Tb, 1, none⟩ = false := hk.free 1
      obtain ⟨u', hu'⟩ := t'.ptr_some
      rw [hu'] at H2 ⊢
      clear hraw hput hk hr1 hr2 hu'
      go_wp2_with fail
      go_end0
      exact ⟨rfl, t', by rw [HG.out]; exact H2.out.1, by rw [HG.out]; exact H2.out.2.1, H2.out.2.2⟩
    | false =>
      have c1 : w.cell? ⟨Tb, 1, none⟩ = some t.ptr := HT.out.blk.cell 1
      have c0 : w.cell? ⟨Tb, 0, none⟩ = some (.int .i64 n) := HT.out.blk.cell 0
      have f0 : w.frozen? ⟨Tb, 0, none⟩ = false := HT.out.blk.free 0
      obtain ⟨u, hu⟩ := t.ptr_some
      have HU := hid hu
      rw [hu] at c1
      clear hu
      have HPC := hid (put_any base s val (some ⟨Tb, 0, none⟩) HS.out (s.size - 1) 0 (by have := HD.out; omega) t)
      have HC := hid (HT.out.count (n + 1))
      go_wp2_with fail
      rw [← HU.out]
      refine (HPC.out (w.setCell ⟨Tb, 0, none⟩ (.int .i64 (n + 1))) HC.out.1.good HC.out.1.big).mono ?_
      rintro e w1 ⟨t', rfl, hraw, hput⟩
      obtain ⟨hk, hr1, hr2⟩ := HC.out.1.root hput
      have H2 := hid (And.intro hraw (And.intro hr1 (zt_trans HC.out.2 hr2)))
      have d1 : w1.cell? ⟨Tb, 1, none⟩ = some t.ptr := hk.cell 1
      have f1 : w1.frozen? ⟨Tb, 1, none⟩ = false := hk.free 1
      obtain ⟨u', hu'⟩ := t'.ptr_some
      rw [hu'] at H2 ⊢
      clear hraw hput hk hr1 hr2 hu'
      go_wp2_with fail
      go_end0
      exact ⟨rfl, t', by rw [HG.out]; exact H2.out.1, by rw [HG.out]; exact H2.out.2.1, H2.out.2.2⟩
set_option maxHeartbeats 8000000 in
set_option maxRecDepth 100000 in
theorem Remove_any (base Tb : Nat) (n : Int) (t : N) (s : ByteArray) (w : World) (hT : Tr base Tb n t w) (hs : s.size ≤ 1099511627776) (hn : -4611686018427387904 ≤ n ∧ n ≤ 4611686018427387904) :
    Calls Try.prog 41 #[.pointer (some ⟨Tb, 0, none⟩), .string s] w fun e w' => e = .returned (.tuple #[]) ∧ ∃ t' : N, t'.raw = (remT s (n, t.raw)).2 ∧ Tr base Tb (remT s (n, t.raw)).1 t' w' ∧ Fr (Zt base w) w w' := by
  have HT := hid hT
  have HS := hid hs
  by_cases h0 : s.size = 0
  · have HG : Hid (remT s (n, t.raw) = (n, t.raw)) := hid (if_pos h0)
    have z1 : (s.size == 0) = true := by simp [h0]
    have z2 : ((s.size : Int) == 0) = true := by simp [h0]
    clear h0 hT
    go_enter Try.func41, Try.ntmps41
    go_wp2_with fail
    (try simp only [Exit.inBlock, Exit.then]); refine bodyPost_ret (results_none rfl _ _ _) rfl ?_
    exact ⟨rfl, t, by rw [HG.out], by rw [HG.out]; exact HT.out, Fr.refl _ _⟩
  · have HD : Hid (0 < s.size) := hid (by omega)
    have HG : Hid (remT s (n, t.raw) = (n - 1, T.rem t.raw (wd s))) := hid (if_neg h0)
    have z1 : (s.size == 0) = false := beq_eq_false_iff_ne.2 h0
    have z2 : ((s.size : Int) == 0) = false := beq_eq_false_iff_ne.2 (by omega)
    have c1 : w.cell? ⟨Tb, 1, none⟩ = some t.ptr := hT.blk.cell 1
    obtain ⟨u, hu⟩ := t.ptr_some
    have HU := hid hu
    rw [hu] at c1
    clear h0 hT hu
    have HPC := hid (rem_any base s (some ⟨Tb, 0, none⟩) HS.out (s.size - 1) 0 (by have := HD.out; omega) t)
    go_enter Try.func41, Try.ntmps41
    go_wp2_with fail
    rw [← HU.out]
    refine (HPC.out w HT.out.good HT.out.big).mono ?_
    rintro e w1 ⟨t', rfl, hraw, hput⟩
    obtain ⟨hk, hr1, hr2⟩ := HT.out.root hput
    obtain ⟨hr3, hr4⟩ := hr1.count (n - 1)
    have H2 := hid (And.intro hraw (And.intro hr3 (zt_trans hr2 hr4)))
    have d1 : w1.cell? ⟨Tb, 1, none⟩ = some t.ptr := hk.cell 1
    have f1 : w1.frozen? ⟨Tb, 1, none⟩ = false := hk.free 1
    have d0 : w1.cell? ⟨Tb, 0, none⟩ = some (.int .i64 n) := hk.cell 0
    have f0 : w1.frozen? ⟨Tb, 0, none⟩ = false := hk.free 0
    obtain ⟨u', hu'⟩ := t'.ptr_some
    rw [hu'] at H2 ⊢
    clear hraw hput hk hr1 hr2 hr3 hr4 hu'
    go_wp2_with fail
    go_end0
    exact ⟨rfl, t', by rw [HG.out]; exact H2.out.1, by rw [HG.out]; exact H2.out.2.1, H2.out.2.2⟩
theorem Size_any (base Tb : Nat) (n : Int) (t : N) (w : World) (hT : Tr base Tb n t w) :
    Calls Try.prog 47 #[.pointer (some ⟨Tb, 0, none⟩)] w fun e w' => e = .returned (.int .i64 n) ∧ w' = w := by
  have c0 : w.cell? ⟨Tb, 0, none⟩ = some (.int .i64 n) := hT.blk.cell 0
  clear hT
  go_enter Try.func47, Try.ntmps47
  go_wp2_with fail
  go_ret
  exact ⟨rfl, rfl⟩
def N.cnt : N → Nat
  | .nil => 0
  | .node _ _ l m r _ _ => l.cnt + m.cnt + r.cnt + 1
/-- What LongestPrefix tells. -/
def longS (t : T) (s : ByteArray) : ByteArray := s.extract 0 (T.long t (wd s) 0 0)
theorem long_le : ∀ (t : T) (q : W) (i best : Nat), best ≤ i → T.long t q i best ≤ i + q.length
  | .nil, _, _, _, h => by simp only [T.long]; omega
  | .node _ _ _ _ _ _, [], _, _, h => by simp only [T.long]; omega
  | .node c l m r _ ok, k :: ks, i, best, h => by
    simp only [T.long]
    split
    · exact long_le l _ i best h
    · split
      · exact long_le r _ i best h
      · have := long_le m ks (i + 1) (if ok = true then i + 1 else best) (by split <;> omega)
        simp only [List.length_cons]
        omega
set_option maxHeartbeats 8000000 in
set_option maxRecDepth 100000 in
theorem Longest_any (base Tb : Nat) (n : Int) (t : N) (s : ByteArray) (w : World) (hT : Tr base Tb n t w) (hs : s.size ≤ 1099511627776) :
    Calls Try.prog 46 #[.pointer (some ⟨Tb, 0, none⟩), .string s] w fun e w' => e = .returned (.string (longS t.raw s)) ∧ w' = w := by
  have HT := hid hT
  have HS := hid hs
  by_cases h0 : s.size = 0
  · have HG : Hid (longS t.raw s = ⟨#[]⟩) := by
      have e : s = ⟨#[]⟩ := by
        apply ByteArray.ext
        exact Array.eq_empty_of_size_eq_zero h0
      subst e
      unfold longS
      exact hid (by apply ByteArray.ext; simp)
    have z1 : (s.size == 0) = true := by simp [h0]
    have z2 : ((s.size : Int) == 0) = true := by simp [h0]
    clear h0 hT
    go_enter Try.func46, Try.ntmps46
    go_wp2_with fail
    go_ret
    exact ⟨by rw [HG.out]; rfl, rfl⟩
  · have z1 : (s.size == 0) = false := beq_eq_false_iff_ne.2 h0
    have z2 : ((s.size : Int) == 0) = false := beq_eq_false_iff_ne.2 (by omega)
    have c1 : w.cell? ⟨Tb, 1, none⟩ = some t.ptr := hT.blk.cell 1
    obtain ⟨u0, hu0⟩ := t.ptr_some
    have HU0 := hid hu0
    rw [hu0] at c1
    obtain ⟨L, hL⟩ : ∃ L, T.long t.raw (wd s) 0 0 = L := ⟨_, rfl⟩
    have HL0 := hid hL
    have HLS : Hid (L ≤ s.size) := by
      have h_ := long_le t.raw (wd s) 0 0 (Nat.le_refl _)
      rw [hL] at h_
      have h2_ : (wd s).length = s.size := by simp
      exact hid (by omega)
    clear h0 hT hu0 hL
    go_enter Try.func46, Try.ntmps46
    go_wp2_with fail
    go_loopg [5, 6, 7] t.cnt (fun gk v5 v6 v7 wr => ∃ (x : N) (i len : Nat), v5 = .int .i64 (len : Int) ∧ v6 = x.ptr ∧ v7 = .int .i64 (i : Int) ∧ Hid (wr = w) ∧ Hid (x.In w) ∧ Hid (len ≤ i ∧ i ≤ s.size) ∧ Hid (T.long x.raw (suf s i) i len = L) ∧ Hid (x.cnt ≤ gk))
    case atStart => exact ⟨t, 0, 0, rfl, by rw [HU0.out], rfl, hid rfl, hid HT.out.good.mem, hid ⟨Nat.le_refl _, Nat.zero_le _⟩, HL0, hid (Nat.le_refl _)⟩
    case round =>
      obtain ⟨x, i, len, rfl, rfl, rfl, hw, HI, HLE, HL, HG⟩ := hrel
      obtain rfl := hw.out
      clear hw c1
      have hle1 : len ≤ s.size := by have := HLE.out; omega
      have hle2 : i ≤ s.size := HLE.out.2
      cases x with
      | nil =>
        have HE : Hid (len = L) := hid HL.out
        rw [show N.nil.ptr = .pointer none from rfl]
        go_wp2_with fail
        go_ret
        exact ⟨by unfold longS; rw [HL0.out, ← HE.out]; rfl, rfl⟩
      | node b c l m r v ok =>
        rw [show (N.node b c l m r v ok).ptr = .pointer (some ⟨b, 0, none⟩) from rfl]
        by_cases hin : i < s.size
        · obtain ⟨kg, rfl⟩ : ∃ kg, gk = kg + 1 := ⟨gk - 1, by have h_ := HG.out; simp only [N.cnt] at h_; omega⟩
          have HX := hid (suf_cons s i hin)
          have HLT := hid hin
          have hin1 : (i : Int) < (s.size : Int) := by omega
          have hin2 : decide ((i : Int) < (s.size : Int)) = true := decide_eq_true hin1
          have hin3 : decide (i < s.size) = true := decide_eq_true hin
          have k0 : wr.cell? ⟨b, 0, none⟩ = some (.int .u8 (c.toNat : Int)) := HI.out.1.cell 0
          have k5 : wr.cell? ⟨b, 5, none⟩ = some (.bool ok) := HI.out.1.cell 5
          by_cases h1 : s[i] < c
          · have h1' : (s[i]).toNat < (c).toNat := u_lt.1 h1
            have h1i : decide (((s[i]).toNat : Int) < ((c).toNat : Int)) = true := decide_eq_true (by omega)
            have h1n : decide ((s[i]).toNat < (c).toNat) = true := decide_eq_true h1'
            have HE : Hid (T.long l.raw (suf s i) i len = L) := by
              have h_ := HL.out
              rw [HX.out] at h_ ⊢
              exact hid ((if_pos h1 : T.long (.node c l.raw m.raw r.raw v ok) (s[i] :: suf s (i + 1)) i len = T.long l.raw (s[i] :: suf s (i + 1)) i len).symm.trans h_)
            clear h1
            obtain ⟨u, hu⟩ := l.ptr_some
            have kp : wr.cell? ⟨b, 1, none⟩ = some (.pointer u) := by rw [← hu]; exact HI.out.1.cell 1
            have HU := hid hu
            clear hu
            go_wp2_with fail
            go_roundg kg
            case measure => omega
            case rel => exact ⟨l, i, len, rfl, by rw [HU.out], rfl, hid rfl, hid HI.out.2.1, HLE, HE, hid (by have h_ := HG.out; simp only [N.cnt] at h_; omega)⟩
          by_cases h2 : c < s[i]
          · have h2' : (c).toNat < (s[i]).toNat := u_lt.1 h2
            have h1' : ¬ (s[i]).toNat < (c).toNat := by omega
            have h1i : decide (((s[i]).toNat : Int) < ((c).toNat : Int)) = false := decide_eq_false (by omega)
            have h1n : decide ((s[i]).toNat < (c).toNat) = false := decide_eq_false h1'
            have h2i : decide (((c).toNat : Int) < ((s[i]).toNat : Int)) = true := decide_eq_true (by omega)
            have h2n : decide ((c).toNat < (s[i]).toNat) = true := decide_eq_true h2'
            have HE : Hid (T.long r.raw (suf s i) i len = L) := by
              have h_ := HL.out
              rw [HX.out] at h_ ⊢
              exact hid (((if_neg h1).trans (if_pos h2) : T.long (.node c l.raw m.raw r.raw v ok) (s[i] :: suf s (i + 1)) i len = T.long r.raw (s[i] :: suf s (i + 1)) i len).symm.trans h_)
            clear h1 h2
            obtain ⟨u, hu⟩ := r.ptr_some
            have kp : wr.cell? ⟨b, 3, none⟩ = some (.pointer u) := by rw [← hu]; exact HI.out.1.cell 3
            have HU := hid hu
            clear hu
            go_wp2_with fail
            go_roundg kg
            case measure => omega
            case rel => exact ⟨r, i, len, rfl, by rw [HU.out], rfl, hid rfl, hid HI.out.2.2.2, HLE, HE, hid (by have h_ := HG.out; simp only [N.cnt] at h_; omega)⟩
          have h1' : ¬ (s[i]).toNat < (c).toNat := fun e => h1 (u_lt.2 e)
          have h2' : ¬ (c).toNat < (s[i]).toNat := fun e => h2 (u_lt.2 e)
          have h1i : decide (((s[i]).toNat : Int) < ((c).toNat : Int)) = false := decide_eq_false (by omega)
          have h1n : decide ((s[i]).toNat < (c).toNat) = false := decide_eq_false h1'
          have h2i : decide (((c).toNat : Int) < ((s[i]).toNat : Int)) = false := decide_eq_false (by omega)
          have h2n : decide ((c).toNat < (s[i]).toNat) = false := decide_eq_false h2'
          obtain ⟨u, hu⟩ := m.ptr_some
          have kp : wr.cell? ⟨b, 2, none⟩ = some (.pointer u) := by rw [← hu]; exact HI.out.1.cell 2
          have HU := hid hu
          clear hu
          cases ok with
          | true =>
            have HE : Hid (T.long m.raw (suf s (i + 1)) (i + 1) (i + 1) = L) := by
              have h_ := HL.out
              rw [HX.out] at h_
              exact hid (((if_neg h1).trans (if_neg h2) : T.long (.node c l.raw m.raw r.raw v true) (s[i] :: suf s (i + 1)) i len = T.long m.raw (suf s (i + 1)) (i + 1) (i + 1)).symm.trans h_)
            clear h1 h2
            go_wp2_with fail
            go_roundg kg
            case measure => omega
            case rel => exact ⟨m, i + 1, (i + 1), by go_num, by rw [HU.out], by go_num, hid rfl, hid HI.out.2.2.1, hid (by have h_ := HLE.out; have h2_ := HLT.out; omega), HE, hid (by have h_ := HG.out; simp only [N.cnt] at h_; omega)⟩
          | false =>
            have HE : Hid (T.long m.raw (suf s (i + 1)) (i + 1) len = L) := by
              have h_ := HL.out
              rw [HX.out] at h_
              exact hid (((if_neg h1).trans (if_neg h2) : T.long (.node c l.raw m.raw r.raw v false) (s[i] :: suf s (i + 1)) i len = T.long m.raw (suf s (i + 1)) (i + 1) len).symm.trans h_)
            clear h1 h2
            go_wp2_with fail
            go_roundg kg
            case measure => omega
            case rel => exact ⟨m, i + 1, len, rfl, by rw [HU.out], by go_num, hid rfl, hid HI.out.2.2.1, hid (by have h_ := HLE.out; have h2_ := HLT.out; omega), HE, hid (by have h_ := HG.out; simp only [N.cnt] at h_; omega)⟩
        · have hin1 : ¬ (i : Int) < (s.size : Int) := by omega
          have hin2 : decide ((i : Int) < (s.size : Int)) = false := decide_eq_false hin1
          have hin3 : decide (i < s.size) = false := decide_eq_false hin
          have HE : Hid (len = L) := by
            have h_ := HL.out
            rw [suf_nil s i (by omega)] at h_
            exact hid h_
          go_wp2_with fail
          go_ret
          exact ⟨by unfold longS; rw [HL0.out, ← HE.out]; rfl, rfl⟩
end Go.Proofs.Ytkgbflcbeeghoaa.Trie

namespace Go.Proofs.Ytkgbflcbeeghoaa.Pre
open Go Go.RowKit Go.Proofs.Ytkgbflcbeeghoaa.Hk Go.Proofs.YtkgbflcbeeghoaaW.PrintWords Go.Proofs.YtkgbflcbeeghoaaW.PrintLast Go.Proofs.YtkgbflcbeeghoaaW.PrintMore
abbrev bv (b : UInt8) : Value := .int .u8 (b.toNat : Int)
/-- Bytes at the head of a block of bytes, with room behind that may be written. -/
def Lay (E : TypeId) (w : World) (base g n c : Nat) (ps : List UInt8) : Prop :=
  base ≤ g ∧ n = ps.length ∧ n ≤ c ∧ ∃ cur m, w.heap[g]? = some (.cells cur E m) ∧ c ≤ cur.size ∧ (∀ j, j < n → cur[j]? = (ps[j]?).map bv) ∧ ∀ j, j < c → w.frozen? ⟨g, j, none⟩ = false
def Pre (E : TypeId) (w : World) (base : Nat) (v : Value) (ps : List UInt8) : Prop :=
  (v = .slice none 0 0 ∧ ps = []) ∨ ∃ g n c, v = .slice (some ⟨g, 0, none⟩) n c ∧ Lay E w base g n c ps
section
variable {E : TypeId} {w w1 : World} {base g n c : Nat} {v : Value} {ps : List UInt8}
theorem Lay.lt (h : Lay E w base g n c ps) : g < w.heap.size := by
  obtain ⟨_, _, _, cur, m, hb, _⟩ := h
  exact lt_of_block hb
theorem Lay.same (h : Lay E w base g n c ps) (hs : w1.heap[g]? = w.heap[g]?) : Lay E w1 base g n c ps := by
  obtain ⟨h1, h2, h3, cur, m, hb, h4, h5, h6⟩ := h
  exact ⟨h1, h2, h3, cur, m, hs.trans hb, h4, h5, fun j hj => by rw [World.frozen?_of_block (w := w) hs]; exact h6 j hj⟩
theorem Pre.below (h : Pre E w base v ps) (hB : Below w.heap.size w w1) : Pre E w1 base v ps := by
  rcases h with h | ⟨g, n, c, e, h⟩
  · exact .inl h
  · exact .inr ⟨g, n, c, e, h.same (hB.block g h.lt)⟩
theorem Pre.step {row : Option Nat} (h : Pre E w base v ps) (hg : w.grownBy w1 row) (hn : ∀ k, v.ownBlock = some k → some k ≠ row) : Pre E w1 base v ps := by
  rcases h with h | ⟨g, n, c, e, h⟩
  · exact .inl h
  · exact .inr ⟨g, n, c, e, h.same (hg.block g h.lt (hn g (by rw [e]; rfl)))⟩
theorem Pre.typed (h : Pre E w base v ps) : ∀ k, v.ownBlock = some k → base ≤ k ∧ k < w.heap.size ∧ ∃ cs m, w.heap[k]? = some (.cells cs E m) := fun k hk => by
  rcases h with ⟨e, _⟩ | ⟨g, n, c, e, h⟩
  · rw [e] at hk; cases hk
  · rw [e] at hk
    injection hk with hk
    have hk' : g = k := hk
    subst hk'
    refine ⟨h.1, h.lt, ?_⟩
    obtain ⟨_, _, _, cur, m, hb, _⟩ := h
    exact ⟨cur, m, hb⟩
theorem Pre.slice (h : Pre E w base v ps) : ∃ A c, v = .slice A ps.length c := by
  rcases h with ⟨e, e2⟩ | ⟨g, n, c, e, h⟩
  · exact ⟨none, 0, by rw [e, e2]; rfl⟩
  · exact ⟨_, c, by rw [e, h.2.1]⟩
theorem set_block {cur : Array Value} {t : TypeId} {m : Nat × Nat} (hb : w.heap[g]? = some (.cells cur t m)) (i : Nat) (u : Value) : (w.setCell ⟨g, i, none⟩ u).heap[g]? = some (.cells (cur.setIfInBounds i u) t m) := by
  have hlt := lt_of_block hb
  have h' : w.heap[g] = .cells cur t m := by simpa [Array.getElem?_eq_getElem hlt] using hb
  show (w.heap.modify g _)[g]? = _
  rw [Array.getElem?_eq_getElem (by simpa using hlt), Array.getElem_modify_self, h']
  rfl
theorem Lay.cells (h : Lay E w base g n c ps) (j : Nat) (hj : j < n) : w.cell? ⟨g, j, none⟩ = (ps[j]?).map bv := by
  obtain ⟨_, _, _, cur, m, hb, _, h5, _⟩ := h
  simp only [World.cell?, hb]
  exact h5 j hj
theorem Pre.of_own (h : w.ownsRow base E 1 v ps.length (ps.map bv)) : Pre E w base v ps := by
  obtain ⟨hl, h⟩ := h
  rcases h with ⟨e, h0⟩ | ⟨g, cap, cur, e, hb, hh, hc, _, hs, ht⟩
  · exact .inl ⟨e, List.length_eq_zero_iff.1 h0⟩
  · refine .inr ⟨g, ps.length, cap, e, hb, rfl, hc, cur, (0, 0), hh, by omega, fun j hj => ?_, fun j _ => by simp [World.frozen?, hh]⟩
    have e1 : (cur.toList.take (ps.length * 1))[j]? = (ps.map bv)[j]? := by rw [ht]
    rw [List.getElem?_take, if_pos (by omega), List.getElem?_map] at e1
    simpa using e1
end
/-- A row put to: in its place with room, or made anew. -/
def After (w : World) (v v1 : Value) : Prop := (∃ g n c, v = .slice (some ⟨g, 0, none⟩) n c ∧ v1 = .slice (some ⟨g, 0, none⟩) (n + 1) c) ∨ ∃ b, v1.ownBlock = some b ∧ w.heap.size ≤ b
theorem After.at_ {w : World} {v v1 : Value} (h : After w v v1) : v1.ownBlock = v.ownBlock ∨ ∃ b, v1.ownBlock = some b ∧ w.heap.size ≤ b := by
  rcases h with ⟨g, n, c, e, e1⟩ | h
  · exact .inl (by rw [e, e1]; rfl)
  · exact .inr h
/-- What the longer row shows of the elder. -/
theorem After.back {E : TypeId} {w w1 w2 : World} {base : Nat} {v v1 : Value} {ps : List UInt8} {x : UInt8} (h : After w v v1) (h0 : Pre E w base v ps) (hp : Pre E w1 base v ps) (h1 : Pre E w2 base v1 (ps ++ [x])) (hs : ∀ k, k < w1.heap.size → some k = v.ownBlock → some k ≠ v1.ownBlock → w2.heap[k]? = w1.heap[k]?) : Pre E w2 base v ps := by
  rcases h with ⟨g, n, c, e, e1⟩ | ⟨b, hb, hle⟩
  · rcases h1 with ⟨e2, _⟩ | ⟨g2, n2, c2, e2, h2⟩
    · rw [e1] at e2; injection e2 with e2; cases e2
    · rw [e1] at e2
      injection e2 with e3 e4 e5
      injection e3 with e3
      injection e3 with e3
      subst e3 e4 e5
      obtain ⟨k1, k2, k3, cur, m, hb, h4, h5, h6⟩ := h2
      rw [List.length_append, List.length_singleton] at k2
      refine .inr ⟨g, n, c, e, k1, by omega, by omega, cur, m, hb, h4, fun j hj => ?_, h6⟩
      rw [h5 j (by omega), List.getElem?_append_left (by omega)]
  · rcases hp with hp | ⟨g, n, c, e, hp⟩
    · exact .inl hp
    · refine .inr ⟨g, n, c, e, hp.same (hs g hp.lt (by rw [e]; rfl) (fun q => ?_))⟩
      rw [hb] at q
      injection q with q
      rcases h0 with ⟨e0, _⟩ | ⟨g0, n0, c0, e0, h0⟩
      · rw [e] at e0; injection e0 with e0; cases e0
      · rw [e] at e0
        injection e0 with e3 e4 e5
        injection e3 with e3
        injection e3 with e3
        have := h0.lt
        omega
/-- Such bytes as_ a text. -/
theorem Pre.text {E : TypeId} {w : World} {base : Nat} {v : Value} {ps : List UInt8} (h : Pre E w base v ps) (hl : ps.length ≤ 140737488355328) : ∃ A c, v = .slice A ps.length c ∧ (Kd.int .u8).C w A ps.length (ps.map (fun b => (b.toNat : Int))) := by
  rcases h with ⟨e, e2⟩ | ⟨g, n, c, e, h⟩
  · subst e2
    exact ⟨none, 0, e, Kd.C_of_reads (enc := Value.int .u8) (d := (0 : Int)) (h1 := fun _ => rfl) ⟨rfl, by simp, fun h => absurd h (by simp)⟩⟩
  · have hn := h.2.1
    subst hn
    refine ⟨_, c, e, Kd.C_of_reads (enc := Value.int .u8) (d := (0 : Int)) (h1 := fun _ => rfl) ⟨by simp, by omega, fun _ => ⟨_, rfl, fun j hj => ?_⟩⟩⟩
    rw [Addr.add_lit]
    simp only [Nat.zero_add]
    rw [h.cells j hj]
    simp [hj, List.getD_eq_getElem?_getD]
theorem text_nums (ps : List UInt8) : strOfNums (ps.map (fun b => (b.toNat : Int))) = ⟨ps.toArray⟩ := by
  simp [strOfNums, Function.comp_def]
variable {P : Program}
/-- append of one byte: the new bytes, and the old ones as_ they were. -/
theorem run_keep {E t ty : TypeId} {w : World} {base : Nat} {v : Value} {ps : List UInt8} (ht : P.underlying t = some (.slice E)) (hinfo : (P.info? E).map (fun i => (i.zero, i.size, i.bytes)) = some (some (.int .u8 0), 1, 1))
    (h : Pre E w base v ps) (hbase : base ≤ w.heap.size) (q : Nat) (x : UInt8) (hx : w.cell? ⟨q, 0, none⟩ = some (bv x)) (hl : ps.length + 1 ≤ 140737488355328) :
    ∃ v1 w1, (Builtin.append_ #[t, t] ty #[v, .slice (some ⟨q, 0, none⟩) 1 1]).run P w = .ok v1 w1 ∧ Pre E w1 base v1 (ps ++ [x]) ∧ Pre E w1 base v ps ∧ w.grownBy w1 v.ownBlock ∧ After w v v1 := by
  obtain ⟨i, hi, hzz⟩ := Option.map_eq_some_iff.1 hinfo
  simp only [Prod.mk.injEq] at hzz
  obtain ⟨hz, hsz, hby⟩ := hzz
  have hmax : ps.length + 1 ≤ maxLen := by unfold maxLen; omega
  have hnews : ∀ j u, [bv x][j]? = some u → w.cell? ((⟨q, 0, none⟩ : Addr).add j) = some u := by
    intro j u hj
    match j, hj with
    | 0, hj =>
      simp only [List.getElem?_cons_zero, Option.some.injEq] at hj
      rw [Addr.add_zero', hx, hj]
  have own : ∀ v' w', w'.ownsRow w.heap.size E 1 v' (ps.length + 1) (ps.map bv ++ [bv x]) → Pre E w' base v' (ps ++ [x]) := by
    intro v' w' ho
    have e1 : ps.map bv ++ [bv x] = (ps ++ [x]).map bv := by simp
    have e2 : ps.length + 1 = (ps ++ [x]).length := by simp
    rw [e1, e2] at ho
    rcases Pre.of_own ho with k | ⟨g, n, c, e, k⟩
    · exact .inl k
    · exact .inr ⟨g, n, c, e, Nat.le_trans hbase k.1, k.2⟩
  have new : ∀ (v' : Value) (w' : World) (m : Nat) (cs : List Value), w'.ownsRow w.heap.size E 1 v' (m + 1) cs → ∃ b, v'.ownBlock = some b ∧ w.heap.size ≤ b := by
    intro v' w' m cs ho
    rcases ho.2 with ⟨_, h0⟩ | ⟨b, cap, cur, e, hb, _⟩
    · omega
    · exact ⟨b, by rw [e]; rfl, hb⟩
  rcases h with ⟨rfl, rfl⟩ | ⟨g, n, c, rfl, hL⟩
  · obtain ⟨v1, w1, hrun, ho, hg, _⟩ := run_append_own (P := P) w w.heap.size t ty E i (.int .u8 0) 1 1 ht hi hz hsz hby rfl (by decide) (.slice none 0 0) 0 [] (World.ownsRow_nil w _ E 1) ⟨q, 0, none⟩ 1 1 [bv x] rfl hnews (by simp [bv, Value.oneCell']) (by unfold maxLen; omega) (by omega) (Nat.le_refl _)
    exact ⟨v1, w1, hrun, own v1 w1 (by simpa using ho), .inl ⟨rfl, rfl⟩, hg, .inr (new v1 w1 0 _ (by simpa using ho))⟩
  · have hL' := hL
    obtain ⟨h1, h2, h3, cur, m, hb, h4, h5, h6⟩ := hL
    subst h2
    by_cases hr : ps.length + 1 ≤ c
    · have hcell : (w.cell? ⟨g, ps.length, none⟩).isSome = true := by
        simp only [World.cell?, hb]
        rw [Array.getElem?_eq_getElem (by omega)]
        rfl
      have hrun := run_append_room_cells (P := P) w t ty E i ht hi g 0 ps.length c ⟨q, 0, none⟩ 1 1 [bv x] (by rw [hsz]; rfl) hnews (by simp [bv, Value.oneCell']) hr
        (fun j hj => by have : j = 0 := by simpa using hj
                        subst this; rw [hsz]; simpa using hcell)
        (fun j hj => by have : j = 0 := by simpa using hj
                        subst this; rw [hsz]; simpa using h6 ps.length (by omega))
      rw [hsz, show 0 + ps.length * 1 = ps.length by omega] at hrun
      have hset : w.setCells g ps.length [bv x] = w.setCell ⟨g, ps.length, none⟩ (bv x) := by simp [World.setCells]
      rw [hset] at hrun
      have hb1 := set_block hb ps.length (bv x)
      have hf : ∀ j, j < c → (w.setCell ⟨g, ps.length, none⟩ (bv x)).frozen? ⟨g, j, none⟩ = false := fun j hj => by
        have := h6 j hj
        simp only [World.frozen?, hb] at this
        simp only [World.frozen?, hb1]
        exact this
      have hlow : ∀ j, j < ps.length → (cur.setIfInBounds ps.length (bv x))[j]? = (ps[j]?).map bv := fun j hj => by
        rw [Array.getElem?_setIfInBounds_ne (by omega)]
        exact h5 j hj
      refine ⟨_, _, hrun, .inr ⟨g, ps.length + 1, c, rfl, h1, by simp, hr, _, m, hb1, by simpa using h4, fun j hj => ?_, hf⟩, .inr ⟨g, ps.length, c, rfl, h1, rfl, h3, _, m, hb1, by simpa using h4, hlow, hf⟩, ?_⟩
      · by_cases hj2 : j < ps.length
        · rw [hlow j hj2, List.getElem?_append_left hj2]
        · have e : j = ps.length := by omega
          subst e
          rw [Array.getElem?_setIfInBounds_self_of_lt (by omega), List.getElem?_append_right (Nat.le_refl _)]
          simp
      · exact ⟨⟨rfl, rfl, rfl, by simp [World.setCell], fun k hk hn => Below.heap_setCell _ _ _ _ (fun e => hn (by rw [e]; rfl))⟩, .inl ⟨g, ps.length, c, rfl, rfl⟩⟩
    · obtain ⟨v1, w1, hrun, ho, hg⟩ := run_append_arg_grows (P := P) w t ty E i (.int .u8 0) 1 1 ht hi hz hsz hby rfl (by decide) ⟨g, 0, none⟩ ps.length c (ps.map bv) (by simp) (fun j u hj => by
          have hj2 : j < ps.length := by
            have := (List.getElem?_eq_some_iff.1 hj).1
            simpa using this
          rw [Addr.add_lit]
          simp only [Nat.zero_add]
          rw [hL'.cells j hj2, ← List.getElem?_map, hj]) ⟨q, 0, none⟩ 1 1 [bv x] rfl hnews (by omega) hmax (by omega)
      exact ⟨v1, w1, hrun, own v1 w1 ho, .inr ⟨g, ps.length, c, rfl, hL'.same (hg.block g hL'.lt (by simp))⟩, ⟨hg.os, hg.tape, hg.output, hg.size, fun k hk _ => hg.block k hk (by simp)⟩, .inr (new v1 w1 _ _ ho)⟩
section
variable {ops : Array Oper} {rest : List Oper} {o : Oper} {a : Act} {Q : Exit → Act → World → Prop} {K : Act → World → Prop} {E t : TypeId} {w : World} {base : Nat} {v : Value} {ps : List UInt8}
theorem append_keep (hg : o.guard = none) (s x : Operand) (ho : o.op = .call { callee := .builtin .append, args := #[s, x], argTypes := #[t, t] })
    (ht : P.underlying t = some (.slice E)) (hinfo : (P.info? E).map (fun i => (i.zero, i.size, i.bytes)) = some (some (.int .u8 0), 1, 1)) (hs : a.eval s = v) (q : Nat) (y : UInt8) (hx : a.eval x = .slice (some ⟨q, 0, none⟩) 1 1)
    (h : Pre E w base v ps) (hbase : base ≤ w.heap.size) (hc : w.cell? ⟨q, 0, none⟩ = some (bv y)) (hl : ps.length + 1 ≤ 140737488355328)
    (hK : ∀ v1 w1, Pre E w1 base v1 (ps ++ [y]) → Pre E w1 base v ps → w.grownBy w1 v.ownBlock → After w v v1 → wpList P ops Q rest (a.put o.dst v1) w1) : wpList P ops Q (o :: rest) a w := by
  obtain ⟨v1, w1, hrun, h1, h2, h3, h4⟩ := run_keep (P := P) (t := t) (ty := o.type) ht hinfo h hbase q y hc hl
  refine wpList_plain hg fun K hK' => ?_
  unfold Oper.wp
  simp [execOp, ho, resolve, invoke, builtin, hs, hx, hrun, Result.andThen]
  exact hK' _ _ (hK v1 w1 h1 h2 h3 h4)
theorem append_keep_step (hw : Region.wanted o (yielded ops a.tmps) = true) (s x : Operand) (ho : o.op = .call { callee := .builtin .append, args := #[s, x], argTypes := #[t, t] })
    (ht : P.underlying t = some (.slice E)) (hinfo : (P.info? E).map (fun i => (i.zero, i.size, i.bytes)) = some (some (.int .u8 0), 1, 1)) (hs : a.eval s = v) (q : Nat) (y : UInt8) (hx : a.eval x = .slice (some ⟨q, 0, none⟩) 1 1)
    (h : Pre E w base v ps) (hbase : base ≤ w.heap.size) (hc : w.cell? ⟨q, 0, none⟩ = some (bv y)) (hl : ps.length + 1 ≤ 140737488355328) {Z : Prop}
    (hK : ∀ v1 w1, Pre E w1 base v1 (ps ++ [y]) → Pre E w1 base v ps → w.grownBy w1 v.ownBlock → After w v v1 → K (a.put o.dst v1) w1) : if Region.wanted o (yielded ops a.tmps) = true then Oper.wp P o a w K Q else Z := by
  obtain ⟨v1, w1, hrun, h1, h2, h3, h4⟩ := run_keep (P := P) (t := t) (ty := o.type) ht hinfo h hbase q y hc hl
  rw [if_pos hw]
  unfold Oper.wp
  simp [execOp, ho, resolve, invoke, builtin, hs, hx, hrun, Result.andThen]
  exact hK v1 w1 h1 h2 h3 h4
end
/-- A text's bytes, made anew. -/
theorem Pre.bytes {E : TypeId} (w : World) (s : ByteArray) : Pre E (Lib.bytesWorld w E s) w.heap.size (.slice (some ⟨w.heap.size, 0, none⟩) s.size (grownCap w s.size 0 E)) s.data.toList := by
  have hge := grownCap_ge w s.size 0 E
  have hsz : (Lib.bytesCells w E s).size = grownCap w s.size 0 E := by
    have : s.data.size = s.size := rfl
    simp only [Lib.bytesCells, Array.size_append, Array.size_map, Array.size_replicate]
    omega
  refine .inr ⟨w.heap.size, s.size, _, rfl, Nat.le_refl _, by simp, hge, _, _, Lib.bytesWorld_at_new w E s, by omega, fun j hj => ?_, fun j hj => ?_⟩
  · have hj2 : j < s.data.size := hj
    simp only [Lib.bytesCells]
    rw [Array.getElem?_append_left (by simpa using hj2)]
    simp
  · simp only [World.frozen?, Lib.bytesWorld_at_new]
    rw [hsz]
    simp only [Bool.and_eq_false_imp, decide_eq_true_eq, decide_eq_false_iff_not]
    omega
end Go.Proofs.Ytkgbflcbeeghoaa.Pre

namespace Go.Proofs.Ytkgbflcbeeghoaa.Trie
open Go Go.RowKit Go.Deep Go.Proofs.Ytkgbflcbeeghoaa.Hk Go.Proofs.Ytkgbflcbeeghoaa.TriePure Go.Proofs.Ytkgbflcbeeghoaa.Pre Go.Proofs.YtkgbflcbeeghoaaW.PrintWords Go.Proofs.YtkgbflcbeeghoaaW.PrintLast Go.Proofs.YtkgbflcbeeghoaaW.PrintMore
def col6.T : Bool × List (List Nat × List Nat) := (true, [([], []), ([], []), ([1], [1]), ([2], [2]), ([3], [3]), ([], []), ([], []), ([6], [6]), ([7], [7]), ([8], [8]), ([9], [9]), ([5, 10], [5, 10]), ([], []), ([0, 4, 11, 12, 11], [0, 4, 11, 12]), ([13, 13, 0, 1, 2, 3, 4, 5, 6, 7, 8, 9, 10, 11, 12, 13], [12, 13])])
def col6.B : List Nat := [0, 0, 2, 6, 14, 0, 0, 64, 192, 448, 960, 2016, 0, 8191, 16383]
theorem col6.tab : rtab .any (opsOf Try.f64 6) = col6.T := by kernel_rfl
theorem col6.bits : waitsOk col6.T.2 col6.B = true := by kernel_rfl
def st (l : W) : ByteArray := ⟨l.toArray⟩
def texts (ps : W) (l : TriePure.R) : List ByteArray := l.map (fun p => st (ps ++ p.1))
theorem texts_app (ps : W) (a b : TriePure.R) : texts ps (a ++ b) = texts ps a ++ texts ps b := List.map_append ..
theorem texts_under (ps : W) (c : UInt8) (l : TriePure.R) : texts ps (under c l) = texts (ps ++ [c]) l := by
  simp [texts, under, Function.comp_def]
theorem texts_len (ps : W) (l : TriePure.R) : (texts ps l).length = l.length := List.length_map ..
abbrev Strs (w : World) (base : Nat) (q : Value) (ws : List ByteArray) : Prop := Kd.string.R 9 w base (fun _ => True) q ws
/-- What collect leaves: more words in the row, the bytes as_ they were, no other block turned. -/
structure Col (base : Nat) (w w1 : World) (v q q1 : Value) (ps : W) (ws : List ByteArray) : Prop where
  row : Strs w1 base q1 ws
  pre : Pre 5 w1 base v ps
  fr : Fr (fun k => some k = v.ownBlock ∨ some k = q.ownBlock) w w1
  at_ : q1.ownBlock = q.ownBlock ∨ ∃ b, q1.ownBlock = some b ∧ w.heap.size ≤ b
section
variable {base : Nat} {w w1 w2 : World} {v v1 q q1 q2 : Value} {ps ps1 : W} {ws ws1 : List ByteArray}
theorem Col.below (h : Col base w w1 v q q1 ps ws) (hb : base ≤ w.heap.size) (hv : Pre 5 w base v ps) (hq : Strs w base q ws1) : Below base w w1 := h.fr.below hb (fun k hk => by
  rcases hk with e | e
  · exact (hv.typed k e.symm).1
  · exact Kd.R_base hq k e.symm)
theorem apart (hv : Pre 5 w base v ps) (hq : Strs w base q ws) : ∀ k, v.ownBlock = some k → some k ≠ q.ownBlock := fun k hk e => by
  obtain ⟨_, _, cs, m, h1⟩ := hv.typed k hk
  obtain ⟨cs2, h2⟩ := Kd.R_typed hq k e.symm
  rw [h1] at h2
  injection h2 with h2
  injection h2 with _ h2 _
  cases h2
/-- One behind the other, with the same bytes. -/
theorem Col.then (h : Col base w w1 v q q1 ps ws) (k : Col base w1 w2 v q1 q2 ps ws1) : Col base w w2 v q q2 ps ws1 := ⟨k.row, k.pre, h.fr.trans k.fr (fun n hn e => by
  rcases e with e | e
  · exact .inl e
  · rcases h.at_ with a | ⟨b, a, hb⟩
    · exact .inr (e.trans a)
    · rw [a] at e; injection e with e; omega), by
  rcases k.at_ with a | ⟨b, a, hb⟩
  · rcases h.at_ with a1 | ⟨b1, a1, hb1⟩
    · exact .inl (a.trans a1)
    · exact .inr ⟨b1, a.trans a1, hb1⟩
  · exact .inr ⟨b, a, Nat.le_trans h.fr.size hb⟩⟩
/-- With one byte more, and back. -/
theorem Col.back {x : UInt8} (h0 : Pre 5 w base v ps) (hg : w.grownBy w1 v.ownBlock) (ha : After w v v1) (hp : Pre 5 w1 base v ps) (h : Col base w1 w2 v1 q q1 (ps ++ [x]) ws1) (hs : w.heap.size ≤ w1.heap.size) (hq : ∀ k, v.ownBlock = some k → some k ≠ q.ownBlock) : Col base w w2 v q q1 ps ws1 := by
  have f1 : Fr (fun k => some k = v.ownBlock ∨ some k = q.ownBlock) w w1 := (Fr.of_grown hg).mono (fun k _ e => .inl e)
  refine ⟨h.row, ha.back h0 hp h.pre (fun k hk e hne => h.fr.block k hk (fun z => z.elim hne (hq k e.symm))), f1.trans h.fr (fun n hn e => ?_), ?_⟩
  · rcases e with e | e
    · rcases ha.at_ with a | ⟨b, a, hb⟩
      · exact .inl (e.trans a)
      · rw [a] at e; injection e with e; omega
    · exact .inr e
  · rcases h.at_ with a | ⟨b, a, hb⟩
    · exact .inl a
    · exact .inr ⟨b, a, Nat.le_trans hs hb⟩
theorem Col.later (h : Col base w w1 v q q1 ps ws) (hb : Below w1.heap.size w1 w2) : Col base w w2 v q q1 ps ws :=
  ⟨Kd.R_below h.row hb, h.pre.below hb, h.fr.trans (S' := fun _ => False) (Fr.new hb) (fun _ _ e => e.elim), h.at_⟩
theorem Col.refl (hv : Pre 5 w base v ps) (hq : Strs w base q ws) : Col base w w v q q ps ws := ⟨hq, hv, Fr.refl _ _, .inl rfl⟩
/-- A word more in the row. -/
theorem Col.word (h : Col base w w1 v q q1 ps ws) (hv : ∀ k, v.ownBlock = some k → some k ≠ q1.ownBlock) (hg : w1.grownBy w2 q1.ownBlock) (hR : Strs w2 base q2 ws1) (hat : q2.ownBlock = q1.ownBlock ∨ ∃ b, q2.ownBlock = some b ∧ w1.heap.size ≤ b) : Col base w w2 v q q2 ps ws1 :=
  h.then ⟨hR, h.pre.step hg hv, (Fr.of_grown hg).mono (fun _ _ e => .inr e), hat⟩
theorem in_keep {t : N} (h : t.In w) (hlt : ∀ b ∈ t.ids, b < base) (hb : Below base w w1) : t.In w1 := h.fr (Fr.of_below hb) (fun b hb' e => by have := hlt b hb'; omega)
end
theorem used_some : ∀ {t : T}, T.Used t → t.isNil = false → ∃ p, p ∈ T.words t
  | .nil, _, h => by cases h
  | .node c l m r v ok, ⟨h, _, hm, _⟩, _ => by
    rcases h with h | h
    · subst h
      exact ⟨([c], v), by simp [T.words, T.own]⟩
    · obtain ⟨p, hp⟩ := used_some hm h
      exact ⟨(c :: p.1, p.2), by simp only [T.words, T.own, List.mem_append]; exact .inr (.inl (.inr (List.mem_map.2 ⟨p, hp, rfl⟩)))⟩
abbrev B32 : Nat := 2199023255552
theorem room {c : UInt8} {l m r : T} {v : Int} {ok : Bool} {ps : W} {n : Nat} (hU : T.Used (.node c l m r v ok)) (h1 : ∀ p ∈ T.words (.node c l m r v ok), ps.length + p.1.length ≤ B32) (h2 : n + (T.words (.node c l m r v ok)).length ≤ B32) :
    (∀ p ∈ T.words l, ps.length + p.1.length ≤ B32) ∧ (∀ p ∈ T.words m, (ps ++ [c]).length + p.1.length ≤ B32) ∧ (∀ p ∈ T.words r, ps.length + p.1.length ≤ B32) ∧ ps.length + 1 ≤ B32 ∧
    n + (T.words l).length + (if ok then 1 else 0) + (T.words m).length + (T.words r).length ≤ B32 := by
  simp only [T.words, T.own, under, List.mem_append, List.length_append, List.length_map] at h1 h2
  refine ⟨fun p hp => h1 p (.inl hp), fun p hp => ?_, fun p hp => h1 p (.inr (.inr hp)), ?_, ?_⟩
  · have := h1 (c :: p.1, p.2) (.inr (.inl (.inr (List.mem_map.2 ⟨p, hp, rfl⟩))))
    simp only [List.length_cons, List.length_append, List.length_nil] at this ⊢
    omega
  · rcases hU.1 with h | h
    · subst h
      have := h1 ([c], v) (.inr (.inl (.inl (by simp))))
      simpa using this
    · obtain ⟨p, hp⟩ := used_some hU.2.2.1 h
      have := h1 (c :: p.1, p.2) (.inr (.inl (.inr (List.mem_map.2 ⟨p, hp, rfl⟩))))
      simp only [List.length_cons] at this
      omega
  · cases ok <;> simp only [if_true, if_false, List.length_nil, List.length_singleton, Bool.false_eq_true] at h2 ⊢ <;> omega
theorem info5 : (Try.prog.info? 5).map (fun i => (i.zero, i.size, i.bytes)) = some (some (.int .u8 0), 1, 1) := by kernel_rfl
theorem info9 : (Try.prog.info? 9).map (fun i => (i.zero, i.size, i.bytes)) = some (some (.string ByteArray.empty), 1, 16) := by kernel_rfl
set_option maxHeartbeats 8000000 in
set_option maxRecDepth 100000 in
theorem collect_any (tp : Option Addr) (base : Nat) : ∀ (t : N) (ps : W) (v q : Value) (ws : List ByteArray) (w : World), t.In w → (∀ b ∈ t.ids, b < base) → base ≤ w.heap.size → Pre 5 w base v ps → Strs w base q ws → T.Used t.raw →
    (∀ p ∈ T.words t.raw, ps.length + p.1.length ≤ B32) → ws.length + (T.words t.raw).length ≤ B32 →
    Calls Try.prog 64 #[.pointer tp, t.ptr, v, q] w fun e w' => ∃ q1, e = .returned q1 ∧ Col base w w' v q q1 ps (ws ++ texts ps (T.words t.raw)) := by
  intro t
  induction t with
  | nil =>
    intro ps v q ws w _ _ _ hv hq _ _ _
    have HC := hid (Col.refl hv hq)
    clear hv hq
    rw [show N.nil.ptr = .pointer none from rfl]
    go_enter Try.func64, Try.ntmps64
    go_wp2_with fail
    go_ret
    exact ⟨_, rfl, by rw [show ws ++ texts ps (T.words N.nil.raw) = ws from List.append_nil _]; exact HC.out⟩
  | node b c l m r vv ok ihl ihm ihr =>
    intro ps v q ws w hin hlt hb hv hq hU h1 h2
    cases ok with
    | false =>
      have HI : Hid ((N.node b c l m r vv false).In w) := hid hin
      have HD0 : Hid (∀ x ∈ (N.node b c l m r vv false).ids, x < base) := hid hlt
      have HZ := hid (room (n := ws.length) hU h1 h2)
      have HB := hid hb
      have HV := hid hv
      have HQ := hid hq
      have HL := hid (fun ps v q ws w h1 h2 h3 h4 h5 h6 => ihl ps v q ws w h1 (fun x hx => hlt x (by simp [N.ids, hx])) h2 h3 h4 hU.2.1 h5 h6)
      have HM0 := hid (fun ps v q ws w h1 h2 h3 h4 h5 h6 => ihm ps v q ws w h1 (fun x hx => hlt x (by simp [N.ids, hx])) h2 h3 h4 hU.2.2.1 h5 h6)
      have HR0 := hid (fun ps v q ws w h1 h2 h3 h4 h5 h6 => ihr ps v q ws w h1 (fun x hx => hlt x (by simp [N.ids, hx])) h2 h3 h4 hU.2.2.2 h5 h6)
      have k1 : w.cell? ⟨b, 1, none⟩ = some l.ptr := hin.1.cell 1
      obtain ⟨ul, hul⟩ := l.ptr_some
      obtain ⟨um, hum⟩ := m.ptr_some
      obtain ⟨ur, hur⟩ := r.ptr_some
      have HUL := hid hul
      have HUM := hid hum
      have HUR := hid hur
      rw [hul] at k1 HL
      rw [hum] at HM0
      rw [hur] at HR0
      have HM := HM0
      have HR := HR0
      clear hin hlt hU h1 h2 hb hv hq ihl ihm ihr hul hum hur HM0 HR0
      have HE : Hid (ws ++ texts ps (T.words (N.node b c l m r vv false).raw) = (ws ++ texts ps (T.words l.raw)) ++ texts (ps ++ [c]) (T.words m.raw) ++ texts ps (T.words r.raw)) := by
        show Hid (ws ++ texts ps (T.words l.raw ++ (T.own c (T.words m.raw) vv false ++ T.words r.raw)) = _)
        simp only [T.own, texts_app, texts_under, if_false, Bool.false_eq_true, List.append_assoc, List.nil_append]
        exact hid trivial
      rw [show (N.node b c l m r vv false).ptr = .pointer (some ⟨b, 0, none⟩) from rfl]
      go_enter Try.func64, Try.ntmps64
      go_wp2_with fail
      clear k1
      have hcl := HL.out ps v q ws w HI.out.2.1 HB.out HV.out HQ.out HZ.out.1 (by have h_ := HZ.out.2.2.2.2; omega)
      refine hcl.mono ?_
      clear hcl
      rintro e w1 ⟨q1, rfl, hc⟩
      have HC := hid hc
      clear hc
      have HI1 : Hid ((N.node b c l m r vv false).In w1) := hid (in_keep HI.out HD0.out (HC.out.below HB.out HV.out HQ.out))
      have k0 : w1.cell? ⟨b, 0, none⟩ = some (.int .u8 (c.toNat : Int)) := HI1.out.1.cell 0
      have k2 : w1.cell? ⟨b, 2, none⟩ = some (.pointer um) := by rw [← HUM.out]; exact HI1.out.1.cell 2
      have k3 : w1.cell? ⟨b, 3, none⟩ = some (.pointer ur) := by rw [← HUR.out]; exact HI1.out.1.cell 3
      have k5 : w1.cell? ⟨b, 5, none⟩ = some (.bool false) := HI1.out.1.cell 5
      clear HI1
      go_upto_region 6 with fail
      have HD : Hid (Col base w w1.drew v q q1 ps (ws ++ texts ps (T.words l.raw))) := hid (HC.out.later (below_drew (Below.refl _ _)))
      have x0 : w1.drew.cell? ⟨b, 0, none⟩ = some (.int .u8 (c.toNat : Int)) := k0
      have x2 : w1.drew.cell? ⟨b, 2, none⟩ = some (.pointer um) := k2
      clear k0 k2 k3 k5 HC
      refine start_ (n := 15) (S := fun w' => w'.cell? ⟨b, 2, none⟩ = some (.pointer um) ∧ w'.cell? ⟨b, 0, none⟩ = some (.int .u8 (c.toNat : Int))) (ds := [13]) #[false, false, false, false, false, false, false, false, false, false, false, false, false, false, false] (by kernel_rfl) rfl rfl ⟨x2, x0⟩ (fun hHeld => ?_)
      refine with_tabW col6.tab col6.bits (fun HT_ HW_ => ?_)
      clear x0 x2
      generalize w1.drew = Wd at HD hHeld ⊢
      have HId : Hid ((N.node b c l m r vv false).In Wd) := hid (in_keep HI.out HD0.out (HD.out.below HB.out HV.out HQ.out))
      have HBd : Hid (base ≤ Wd.heap.size) := hid (Nat.le_trans HB.out HD.out.fr.size)
      refine pure_ (i := 0) (N := some 35) (v := ?_) (a' := ?_) #[true, false, false, false, false, false, false, false, false, false, false, false, false, false, false] rfl rfl (any_of HT_.out (by kernel_rfl)) (fun _ _ _ h => h) (Or.inl ⟨by rfl, ?_⟩) ?_ ?_
      rotate_left
      · intro w'
        go_simp
        with_reducible rfl
      rotate_left
      · simp only [Act.put, List.setIfInBounds_toArray, List.set_cons_zero, List.set_cons_succ]
        rfl
      refine pure_ (i := 1) (N := some 36) (v := ?_) (a' := ?_) #[true, true, false, false, false, false, false, false, false, false, false, false, false, false, false] rfl rfl (any_of HT_.out (by kernel_rfl)) (fun _ _ _ h => h) (Or.inl ⟨by rfl, ?_⟩) ?_ ?_
      rotate_left
      · intro w'
        go_simp
        with_reducible rfl
      rotate_left
      · simp only [Act.put, List.setIfInBounds_toArray, List.set_cons_zero, List.set_cons_succ]
        rfl
      refine pure_ (i := 2) (N := some 37) (v := ?_) (a' := ?_) #[true, true, true, false, false, false, false, false, false, false, false, false, false, false, false] rfl rfl (any_of HT_.out (by kernel_rfl)) (fun _ _ _ h => h) (Or.inl ⟨by rfl, ?_⟩) ?_ ?_
      rotate_left
      · intro w'
        go_simp
        with_reducible rfl
      rotate_left
      · simp only [Act.put, List.setIfInBounds_toArray, List.set_cons_zero, List.set_cons_succ]
        rfl
      refine pure_ (i := 3) (N := some 38) (v := ?_) (a' := ?_) #[true, true, true, true, false, false, false, false, false, false, false, false, false, false, false] rfl rfl (any_of HT_.out (by kernel_rfl)) (fun _ _ _ h => h) (Or.inl ⟨by rfl, ?_⟩) ?_ ?_
      rotate_left
      · intro w'
        go_simp
        with_reducible rfl
      rotate_left
      · simp only [Act.put, List.setIfInBounds_toArray, List.set_cons_zero, List.set_cons_succ]
        rfl
      refine take_ (i := 4) (N := some 39) (v := ?_) (a' := ?_) #[true, true, true, true, true, false, false, false, false, false, false, false, false, false, false] rfl rfl (take_ofW HT_.out HW_.out (by kernel_rfl)) (fun _ _ _ h => h) (Or.inl ⟨by rfl, ?_⟩) hHeld ?_ ?_
      rotate_left
      · intro w' s0
        obtain ⟨s1, s2⟩ := s0
        go_simp
        with_reducible rfl
      rotate_left
      · simp only [Act.put, List.setIfInBounds_toArray, List.set_cons_zero, List.set_cons_succ]
        rfl
      refine pure_ (i := 5) (N := some 40) (v := ?_) (a' := ?_) #[true, true, true, true, true, true, false, false, false, false, false, false, false, false, false] rfl rfl (any_of HT_.out (by kernel_rfl)) (fun _ _ _ h => h) (Or.inl ⟨by rfl, ?_⟩) ?_ ?_
      rotate_left
      · intro w'
        go_simp
        with_reducible rfl
      rotate_left
      · simp only [Act.put, List.setIfInBounds_toArray, List.set_cons_zero, List.set_cons_succ]
        rfl
      refine pure_ (i := 6) (N := some 41) (v := ?_) (a' := ?_) #[true, true, true, true, true, true, true, false, false, false, false, false, false, false, false] rfl rfl (any_of HT_.out (by kernel_rfl)) (fun _ _ _ h => h) (Or.inl ⟨by rfl, ?_⟩) ?_ ?_
      rotate_left
      · intro w'
        go_simp
        with_reducible rfl
      rotate_left
      · simp only [Act.put, List.setIfInBounds_toArray, List.set_cons_zero, List.set_cons_succ]
        rfl
      refine pure_ (i := 7) (N := some 42) (v := ?_) (a' := ?_) #[true, true, true, true, true, true, true, true, false, false, false, false, false, false, false] rfl rfl (any_of HT_.out (by kernel_rfl)) (fun _ _ _ h => h) (Or.inl ⟨by rfl, ?_⟩) ?_ ?_
      rotate_left
      · intro w'
        go_simp
        with_reducible rfl
      rotate_left
      · simp only [Act.put, List.setIfInBounds_toArray, List.set_cons_zero, List.set_cons_succ]
        rfl
      refine pure_ (i := 8) (N := some 43) (v := ?_) (a' := ?_) #[true, true, true, true, true, true, true, true, true, false, false, false, false, false, false] rfl rfl (any_of HT_.out (by kernel_rfl)) (fun _ _ _ h => h) (Or.inl ⟨by rfl, ?_⟩) ?_ ?_
      rotate_left
      · intro w'
        go_simp
        with_reducible rfl
      rotate_left
      · simp only [Act.put, List.setIfInBounds_toArray, List.set_cons_zero, List.set_cons_succ]
        rfl
      refine take_ (i := 9) (N := some 44) (v := ?_) (a' := ?_) #[true, true, true, true, true, true, true, true, true, true, false, false, false, false, false] rfl rfl (take_ofW HT_.out HW_.out (by kernel_rfl)) (fun _ _ _ h => h) (Or.inl ⟨by rfl, ?_⟩) hHeld ?_ ?_
      rotate_left
      · intro w' s0
        obtain ⟨s1, s2⟩ := s0
        go_simp
        with_reducible rfl
      rotate_left
      · simp only [Act.put, List.setIfInBounds_toArray, List.set_cons_zero, List.set_cons_succ]
        rfl
      refine pure_ (i := 12) (N := some 47) (v := ?_) (a' := ?_) #[true, true, true, true, true, true, true, true, true, true, false, false, true, false, false] rfl rfl (any_of HT_.out (by kernel_rfl)) (fun _ _ _ h => h) (Or.inl ⟨by rfl, ?_⟩) ?_ ?_
      rotate_left
      · intro w'
        go_simp
        with_reducible rfl
      rotate_left
      · simp only [Act.put, List.setIfInBounds_toArray, List.set_cons_zero, List.set_cons_succ]
        rfl
      refine one_ (i := 10) (N := some 45) #[true, true, true, true, true, true, true, true, true, true, true, false, true, false, false] rfl rfl (one_of HT_.out (by kernel_rfl)) (by decide) (fun K_ hK => ?_)
      refine value_ (w1 := ?_) (v := ?_) (by rfl) rfl ?_ ?_
      rotate_left 2
      · go_simp
        constructor
        · rfl
        · rfl
      refine hK.out _ _ ⟨by rw [← HUM.out]; exact (in_keep HId.out HD0.out ((Below.refl base Wd).alloc HBd.out _)).1.cell 2, (in_keep HId.out HD0.out ((Below.refl base Wd).alloc HBd.out _)).1.cell 0⟩ (fun hHeld => ?_)
      clear hK K_
      have HIa : Hid ((N.node b c l m r vv false).In (Wd.alloc (.cells #[.int .u8 (c.toNat : Int)] 5))) := hid (in_keep HId.out HD0.out ((Below.refl base Wd).alloc HBd.out _))
      have HA : Hid (Pre 5 (Wd.alloc (.cells #[.int .u8 (c.toNat : Int)] 5)) base v ps ∧ Strs (Wd.alloc (.cells #[.int .u8 (c.toNat : Int)] 5)) base q1 (ws ++ texts ps (T.words l.raw)) ∧ base ≤ (Wd.alloc (.cells #[.int .u8 (c.toNat : Int)] 5)).heap.size ∧ Col base w (Wd.alloc (.cells #[.int .u8 (c.toNat : Int)] 5)) v q q1 ps (ws ++ texts ps (T.words l.raw))) :=
        have hc := HD.out.later (below_alloc (Below.refl _ _) (.cells #[.int .u8 (c.toNat : Int)] 5))
        hid ⟨hc.pre, hc.row, Nat.le_trans HB.out hc.fr.size, hc⟩
      have kx : (Wd.alloc (.cells #[.int .u8 (c.toNat : Int)] 5)).cell? ⟨Wd.heap.size, 0, none⟩ = some (bv c) := (Blk.new Wd _ _).cell 0
      clear HD HId HBd
      generalize Wd.alloc (.cells #[.int .u8 (c.toNat : Int)] 5) = Wa at HA HIa kx hHeld ⊢
      refine norm_ (a' := ?_) ?_ ?_
      rotate_left
      · show Act.put _ (some 45) _ = _
        simp only [Act.put, List.setIfInBounds_toArray, List.set_cons_zero, List.set_cons_succ]
        rfl
      refine one_ (i := 11) (N := some 46) #[true, true, true, true, true, true, true, true, true, true, true, true, true, false, false] rfl rfl (one_of HT_.out (by kernel_rfl)) (by decide) (fun K_ hK => ?_)
      refine append_keep_step rfl (.tmp 40) (.tmp 45) rfl Try.underlying100 info5 (base := base) (v := v) (ps := ps) rfl Wd.heap.size c rfl HA.out.1 HA.out.2.2.1 kx (by have h_ := HZ.out.2.2.2.1; unfold B32 at h_; omega) ?_
      intro v1 W2 hp1 hp hg ha
      have HG : Hid (Pre 5 W2 base v1 (ps ++ [c]) ∧ Pre 5 W2 base v ps ∧ Wa.grownBy W2 v.ownBlock ∧ After Wa v v1) := hid ⟨hp1, hp, hg, ha⟩
      have HI2 : Hid ((N.node b c l m r vv false).In W2) := hid (in_keep HIa.out HD0.out ((Fr.of_grown hg).below HA.out.2.2.1 (fun k hk => (HA.out.1.typed k hk.symm).1)))
      have HS : Hid (Strs W2 base q1 (ws ++ texts ps (T.words l.raw)) ∧ base ≤ W2.heap.size) := by
        have hap := apart HA.out.1 HA.out.2.1
        exact hid ⟨Kd.R_mono (Kd.R_grown (Kd.R_reok (ok := fun k => some k ≠ v.ownBlock) rfl HA.out.2.1 (fun k hk e => hap k e.symm hk.symm)) hg (fun _ h => h)) (fun _ _ => trivial), Nat.le_trans HA.out.2.2.1 hg.size⟩
      clear hp1 hp hg ha kx
      refine hK.out _ _ ⟨by rw [← HUM.out]; exact (HI2.out).1.cell 2, (HI2.out).1.cell 0⟩ (fun hHeld => ?_)
      clear hK K_
      refine norm_ (a' := ?_) ?_ ?_
      rotate_left
      · show Act.put _ (some 46) _ = _
        simp only [Act.put, List.setIfInBounds_toArray, List.set_cons_zero, List.set_cons_succ]
        rfl
      refine last_ (i := 13) (N := some 48) #[true, true, true, true, true, true, true, true, true, true, true, true, true, true, false] rfl rfl (one_of HT_.out (by kernel_rfl)) (by decide) (fun K_ hK => ?_)
      refine call_ (N := some 48) 64 #[.pointer tp, .pointer um, v1, q1] (by rfl) rfl (by go_simp) ?_
      have HCall_ := HM.out (ps ++ [c]) v1 q1 (ws ++ texts ps (T.words l.raw)) W2 HI2.out.2.2.1 HS.out.2 HG.out.1 HS.out.1 HZ.out.2.1 (by have h_ := HZ.out.2.2.2.2; simp only [List.length_append, texts_len, if_false, Bool.false_eq_true] at h_ ⊢; omega)
      refine HCall_.mono ?_
      clear HCall_
      rintro e W3 ⟨q3, rfl, hc3⟩
      have HC3 : Hid (Col base w W3 v q q3 ps ((ws ++ texts ps (T.words l.raw)) ++ texts (ps ++ [c]) (T.words m.raw))) := hid (HA.out.2.2.2.then (Col.back HA.out.1 HG.out.2.2.1 HG.out.2.2.2 HG.out.2.1 hc3 HG.out.2.2.1.size (apart HA.out.1 HA.out.2.1)))
      clear hc3 HA HG HS HI2 HIa
      refine ⟨_, rfl, ?_⟩
      refine hK.out _ _ ?_
      clear hK K_
      refine norm_ (a' := ?_) ?_ ?_
      rotate_left
      · show Act.put _ (some 48) _ = _
        simp only [Act.put, List.setIfInBounds_toArray, List.set_cons_zero, List.set_cons_succ]
        rfl
      refine pure_ (i := 14) (N := some 3) (v := ?_) (a' := ?_) #[true, true, true, true, true, true, true, true, true, true, true, true, true, true, true] rfl rfl (any_of HT_.out (by kernel_rfl)) (fun _ _ _ h => h) (Or.inl ⟨by rfl, ?_⟩) ?_ ?_
      rotate_left
      · intro w'
        go_simp
        with_reducible rfl
      rotate_left
      · simp only [Act.put, List.setIfInBounds_toArray, List.set_cons_zero, List.set_cons_succ]
        rfl
      refine done_ (done_of HT_.out (by kernel_rfl)) ?_
      clear HT_ HW_
      have HI3 : Hid ((N.node b c l m r vv false).In W3) := hid (in_keep HI.out HD0.out (HC3.out.below HB.out HV.out HQ.out))
      have k3 : W3.cell? ⟨b, 3, none⟩ = some (.pointer ur) := by rw [← HUR.out]; exact HI3.out.1.cell 3
      go_wp2_with fail
      clear k3
      have hcl := HR.out ps v q3 ((ws ++ texts ps (T.words l.raw)) ++ texts (ps ++ [c]) (T.words m.raw)) W3 HI3.out.2.2.2 (Nat.le_trans HB.out HC3.out.fr.size) HC3.out.pre HC3.out.row HZ.out.2.2.1 (by have h_ := HZ.out.2.2.2.2; simp only [List.length_append, texts_len, if_false, Bool.false_eq_true] at h_ ⊢; omega)
      refine hcl.mono ?_
      clear hcl
      rintro e W4 ⟨q4, rfl, hc4⟩
      have HC4 := hid (HC3.out.then hc4)
      clear hc4 HC3
      go_wp2_with fail
      go_ret
      exact ⟨_, rfl, by rw [HE.out]; exact HC4.out⟩
    | true =>
      have HI : Hid ((N.node b c l m r vv true).In w) := hid hin
      have HD0 : Hid (∀ x ∈ (N.node b c l m r vv true).ids, x < base) := hid hlt
      have HZ := hid (room (n := ws.length) hU h1 h2)
      have HB := hid hb
      have HV := hid hv
      have HQ := hid hq
      have HL := hid (fun ps v q ws w h1 h2 h3 h4 h5 h6 => ihl ps v q ws w h1 (fun x hx => hlt x (by simp [N.ids, hx])) h2 h3 h4 hU.2.1 h5 h6)
      have HM0 := hid (fun ps v q ws w h1 h2 h3 h4 h5 h6 => ihm ps v q ws w h1 (fun x hx => hlt x (by simp [N.ids, hx])) h2 h3 h4 hU.2.2.1 h5 h6)
      have HR0 := hid (fun ps v q ws w h1 h2 h3 h4 h5 h6 => ihr ps v q ws w h1 (fun x hx => hlt x (by simp [N.ids, hx])) h2 h3 h4 hU.2.2.2 h5 h6)
      have k1 : w.cell? ⟨b, 1, none⟩ = some l.ptr := hin.1.cell 1
      obtain ⟨ul, hul⟩ := l.ptr_some
      obtain ⟨um, hum⟩ := m.ptr_some
      obtain ⟨ur, hur⟩ := r.ptr_some
      have HUL := hid hul
      have HUM := hid hum
      have HUR := hid hur
      rw [hul] at k1 HL
      rw [hum] at HM0
      rw [hur] at HR0
      have HM := HM0
      have HR := HR0
      clear hin hlt hU h1 h2 hb hv hq ihl ihm ihr hul hum hur HM0 HR0
      have HE : Hid (ws ++ texts ps (T.words (N.node b c l m r vv true).raw) = (ws ++ texts ps (T.words l.raw) ++ [st (ps ++ [c])]) ++ texts (ps ++ [c]) (T.words m.raw) ++ texts ps (T.words r.raw)) := by
        show Hid (ws ++ texts ps (T.words l.raw ++ (T.own c (T.words m.raw) vv true ++ T.words r.raw)) = _)
        simp only [T.own, texts_app, texts_under, if_true, List.append_assoc]
        exact hid rfl
      rw [show (N.node b c l m r vv true).ptr = .pointer (some ⟨b, 0, none⟩) from rfl]
      go_enter Try.func64, Try.ntmps64
      go_wp2_with fail
      clear k1
      have hcl := HL.out ps v q ws w HI.out.2.1 HB.out HV.out HQ.out HZ.out.1 (by have h_ := HZ.out.2.2.2.2; omega)
      refine hcl.mono ?_
      clear hcl
      rintro e w1 ⟨q1, rfl, hc⟩
      have HC := hid hc
      clear hc
      have HI1 : Hid ((N.node b c l m r vv true).In w1) := hid (in_keep HI.out HD0.out (HC.out.below HB.out HV.out HQ.out))
      have k0 : w1.cell? ⟨b, 0, none⟩ = some (.int .u8 (c.toNat : Int)) := HI1.out.1.cell 0
      have k2 : w1.cell? ⟨b, 2, none⟩ = some (.pointer um) := by rw [← HUM.out]; exact HI1.out.1.cell 2
      have k3 : w1.cell? ⟨b, 3, none⟩ = some (.pointer ur) := by rw [← HUR.out]; exact HI1.out.1.cell 3
      have k5 : w1.cell? ⟨b, 5, none⟩ = some (.bool true) := HI1.out.1.cell 5
      have kx : (w1.alloc (.cells #[.int .u8 (c.toNat : Int)] 5)).cell? ⟨w1.heap.size, 0, none⟩ = some (bv c) := (Blk.new w1 _ _).cell 0
      have HA : Hid (Col base w (w1.alloc (.cells #[.int .u8 (c.toNat : Int)] 5)) v q q1 ps (ws ++ texts ps (T.words l.raw)) ∧ base ≤ (w1.alloc (.cells #[.int .u8 (c.toNat : Int)] 5)).heap.size) :=
        have hc := HC.out.later (below_alloc (Below.refl _ _) (.cells #[.int .u8 (c.toNat : Int)] 5))
        hid ⟨hc, Nat.le_trans HB.out hc.fr.size⟩
      have HW := hid (HZ.out.2.2.2.2)
      go_wp2_with (first
        | ((with_reducible refine gate_builtin (b := .append) (xs := #[.tmp 25, .tmp 30]) rfl ?_); at_builtin
           refine append_keep rfl (.tmp 25) (.tmp 30) rfl Try.underlying100 info5 (base := base) (v := v) (ps := ps) rfl w1.heap.size c rfl HA.out.1.pre HA.out.2 kx (by have h_ := HZ.out.2.2.2.1; unfold B32 at h_; omega) ?_
           intro v1 w2 hp1 hp hg _
           have HX : Hid (Col base w w2 v q q1 ps (ws ++ texts ps (T.words l.raw)) ∧ base ≤ w2.heap.size) := by
             have hap := apart HA.out.1.pre HA.out.1.row
             exact hid ⟨HA.out.1.then ⟨Kd.R_mono (Kd.R_grown (Kd.R_reok (ok := fun k => some k ≠ v.ownBlock) rfl HA.out.1.row (fun k hk e => hap k e.symm hk.symm)) hg (fun _ h => h)) (fun _ _ => trivial), hp, (Fr.of_grown hg).mono (fun _ _ e => .inl e), .inl rfl⟩, Nat.le_trans HA.out.2 hg.size⟩
           obtain ⟨A1, c1, rfl, hC⟩ := hp1.text (by have h_ := HZ.out.2.2.2.1; unfold B32 at h_; simp only [List.length_append, List.length_singleton]; omega)
           rw [show (ps ++ [c]).length = ps.length + 1 by simp] at hC
           have hcv := Kd.C_string (P := Try.prog) (A := A1) (c := c1) Try.underlying100 Try.underlying5 Try.underlying9 hC
           rw [text_nums] at hcv
           clear hp1 hp hg hC kx HA HC k0 k2 k3 k5)
        | ((with_reducible refine gate_builtin (b := .append) (xs := #[.tmp 24, .tmp 33]) rfl ?_); at_builtin
           refine Kd.R_append (W := w2) Kd.string (w0 := w2) base rfl (.tmp 24) (.tmp 33) 24 9 (.string ByteArray.empty) 16 rfl Try.underlying24 info9 rfl (by decide) (by omega) q1 (ws ++ texts ps (T.words l.raw)) (st (ps ++ [c])) [.string (st (ps ++ [c]))] (fun _ => True) (fun _ => False) rfl rfl ?aP (fun _ hk => hk.elim) (fun _ _ => trivial) ?aO ?aB ?aS ?aL ?_
           case aP => exact rfl
           case aO => exact HX.out.1.row
           case aB => exact Below.refl _ _
           case aS => exact HX.out.2
           case aL => have h_ := HW.out; simp only [List.length_append, texts_len, if_true, B32] at h_ ⊢; omega
           intro q2 w3 ho _ hg hat
           have HC := hid (HX.out.1.word (apart HX.out.1.pre HX.out.1.row) hg ho hat)
           clear ho hg hat hcv HX HW))
      have HI3 : Hid ((N.node b c l m r vv true).In w3) := hid (in_keep HI.out HD0.out (HC.out.below HB.out HV.out HQ.out))
      have k0 : w3.cell? ⟨b, 0, none⟩ = some (.int .u8 (c.toNat : Int)) := HI3.out.1.cell 0
      have k2 : w3.cell? ⟨b, 2, none⟩ = some (.pointer um) := by rw [← HUM.out]; exact HI3.out.1.cell 2
      have k3 : w3.cell? ⟨b, 3, none⟩ = some (.pointer ur) := by rw [← HUR.out]; exact HI3.out.1.cell 3
      have k5 : w3.cell? ⟨b, 5, none⟩ = some (.bool true) := HI3.out.1.cell 5
      clear HI1 HI3
      go_upto_region 6 with fail
      have HD : Hid (Col base w w3.drew v q q2 ps (ws ++ texts ps (T.words l.raw) ++ [st (ps ++ [c])])) := hid (HC.out.later (below_drew (Below.refl _ _)))
      have x0 : w3.drew.cell? ⟨b, 0, none⟩ = some (.int .u8 (c.toNat : Int)) := k0
      have x2 : w3.drew.cell? ⟨b, 2, none⟩ = some (.pointer um) := k2
      clear k0 k2 k3 k5 HC
      refine start_ (n := 15) (S := fun w' => w'.cell? ⟨b, 2, none⟩ = some (.pointer um) ∧ w'.cell? ⟨b, 0, none⟩ = some (.int .u8 (c.toNat : Int))) (ds := [13]) #[false, false, false, false, false, false, false, false, false, false, false, false, false, false, false] (by kernel_rfl) rfl rfl ⟨x2, x0⟩ (fun hHeld => ?_)
      refine with_tabW col6.tab col6.bits (fun HT_ HW_ => ?_)
      clear x0 x2
      generalize w3.drew = Wd at HD hHeld ⊢
      have HId : Hid ((N.node b c l m r vv true).In Wd) := hid (in_keep HI.out HD0.out (HD.out.below HB.out HV.out HQ.out))
      have HBd : Hid (base ≤ Wd.heap.size) := hid (Nat.le_trans HB.out HD.out.fr.size)
      refine pure_ (i := 0) (N := some 35) (v := ?_) (a' := ?_) #[true, false, false, false, false, false, false, false, false, false, false, false, false, false, false] rfl rfl (any_of HT_.out (by kernel_rfl)) (fun _ _ _ h => h) (Or.inl ⟨by rfl, ?_⟩) ?_ ?_
      rotate_left
      · intro w'
        go_simp
        with_reducible rfl
      rotate_left
      · simp only [Act.put, List.setIfInBounds_toArray, List.set_cons_zero, List.set_cons_succ]
        rfl
      refine pure_ (i := 1) (N := some 36) (v := ?_) (a' := ?_) #[true, true, false, false, false, false, false, false, false, false, false, false, false, false, false] rfl rfl (any_of HT_.out (by kernel_rfl)) (fun _ _ _ h => h) (Or.inl ⟨by rfl, ?_⟩) ?_ ?_
      rotate_left
      · intro w'
        go_simp
        with_reducible rfl
      rotate_left
      · simp only [Act.put, List.setIfInBounds_toArray, List.set_cons_zero, List.set_cons_succ]
        rfl
      refine pure_ (i := 2) (N := some 37) (v := ?_) (a' := ?_) #[true, true, true, false, false, false, false, false, false, false, false, false, false, false, false] rfl rfl (any_of HT_.out (by kernel_rfl)) (fun _ _ _ h => h) (Or.inl ⟨by rfl, ?_⟩) ?_ ?_
      rotate_left
      · intro w'
        go_simp
        with_reducible rfl
      rotate_left
      · simp only [Act.put, List.setIfInBounds_toArray, List.set_cons_zero, List.set_cons_succ]
        rfl
      refine pure_ (i := 3) (N := some 38) (v := ?_) (a' := ?_) #[true, true, true, true, false, false, false, false, false, false, false, false, false, false, false] rfl rfl (any_of HT_.out (by kernel_rfl)) (fun _ _ _ h => h) (Or.inl ⟨by rfl, ?_⟩) ?_ ?_
      rotate_left
      · intro w'
        go_simp
        with_reducible rfl
      rotate_left
      · simp only [Act.put, List.setIfInBounds_toArray, List.set_cons_zero, List.set_cons_succ]
        rfl
      refine take_ (i := 4) (N := some 39) (v := ?_) (a' := ?_) #[true, true, true, true, true, false, false, false, false, false, false, false, false, false, false] rfl rfl (take_ofW HT_.out HW_.out (by kernel_rfl)) (fun _ _ _ h => h) (Or.inl ⟨by rfl, ?_⟩) hHeld ?_ ?_
      rotate_left
      · intro w' s0
        obtain ⟨s1, s2⟩ := s0
        go_simp
        with_reducible rfl
      rotate_left
      · simp only [Act.put, List.setIfInBounds_toArray, List.set_cons_zero, List.set_cons_succ]
        rfl
      refine pure_ (i := 5) (N := some 40) (v := ?_) (a' := ?_) #[true, true, true, true, true, true, false, false, false, false, false, false, false, false, false] rfl rfl (any_of HT_.out (by kernel_rfl)) (fun _ _ _ h => h) (Or.inl ⟨by rfl, ?_⟩) ?_ ?_
      rotate_left
      · intro w'
        go_simp
        with_reducible rfl
      rotate_left
      · simp only [Act.put, List.setIfInBounds_toArray, List.set_cons_zero, List.set_cons_succ]
        rfl
      refine pure_ (i := 6) (N := some 41) (v := ?_) (a' := ?_) #[true, true, true, true, true, true, true, false, false, false, false, false, false, false, false] rfl rfl (any_of HT_.out (by kernel_rfl)) (fun _ _ _ h => h) (Or.inl ⟨by rfl, ?_⟩) ?_ ?_
      rotate_left
      · intro w'
        go_simp
        with_reducible rfl
      rotate_left
      · simp only [Act.put, List.setIfInBounds_toArray, List.set_cons_zero, List.set_cons_succ]
        rfl
      refine pure_ (i := 7) (N := some 42) (v := ?_) (a' := ?_) #[true, true, true, true, true, true, true, true, false, false, false, false, false, false, false] rfl rfl (any_of HT_.out (by kernel_rfl)) (fun _ _ _ h => h) (Or.inl ⟨by rfl, ?_⟩) ?_ ?_
      rotate_left
      · intro w'
        go_simp
        with_reducible rfl
      rotate_left
      · simp only [Act.put, List.setIfInBounds_toArray, List.set_cons_zero, List.set_cons_succ]
        rfl
      refine pure_ (i := 8) (N := some 43) (v := ?_) (a' := ?_) #[true, true, true, true, true, true, true, true, true, false, false, false, false, false, false] rfl rfl (any_of HT_.out (by kernel_rfl)) (fun _ _ _ h => h) (Or.inl ⟨by rfl, ?_⟩) ?_ ?_
      rotate_left
      · intro w'
        go_simp
        with_reducible rfl
      rotate_left
      · simp only [Act.put, List.setIfInBounds_toArray, List.set_cons_zero, List.set_cons_succ]
        rfl
      refine take_ (i := 9) (N := some 44) (v := ?_) (a' := ?_) #[true, true, true, true, true, true, true, true, true, true, false, false, false, false, false] rfl rfl (take_ofW HT_.out HW_.out (by kernel_rfl)) (fun _ _ _ h => h) (Or.inl ⟨by rfl, ?_⟩) hHeld ?_ ?_
      rotate_left
      · intro w' s0
        obtain ⟨s1, s2⟩ := s0
        go_simp
        with_reducible rfl
      rotate_left
      · simp only [Act.put, List.setIfInBounds_toArray, List.set_cons_zero, List.set_cons_succ]
        rfl
      refine pure_ (i := 12) (N := some 47) (v := ?_) (a' := ?_) #[true, true, true, true, true, true, true, true, true, true, false, false, true, false, false] rfl rfl (any_of HT_.out (by kernel_rfl)) (fun _ _ _ h => h) (Or.inl ⟨by rfl, ?_⟩) ?_ ?_
      rotate_left
      · intro w'
        go_simp
        with_reducible rfl
      rotate_left
      · simp only [Act.put, List.setIfInBounds_toArray, List.set_cons_zero, List.set_cons_succ]
        rfl
      refine one_ (i := 10) (N := some 45) #[true, true, true, true, true, true, true, true, true, true, true, false, true, false, false] rfl rfl (one_of HT_.out (by kernel_rfl)) (by decide) (fun K_ hK => ?_)
      refine value_ (w1 := ?_) (v := ?_) (by rfl) rfl ?_ ?_
      rotate_left 2
      · go_simp
        constructor
        · rfl
        · rfl
      refine hK.out _ _ ⟨by rw [← HUM.out]; exact (in_keep HId.out HD0.out ((Below.refl base Wd).alloc HBd.out _)).1.cell 2, (in_keep HId.out HD0.out ((Below.refl base Wd).alloc HBd.out _)).1.cell 0⟩ (fun hHeld => ?_)
      clear hK K_
      have HIa : Hid ((N.node b c l m r vv true).In (Wd.alloc (.cells #[.int .u8 (c.toNat : Int)] 5))) := hid (in_keep HId.out HD0.out ((Below.refl base Wd).alloc HBd.out _))
      have HA : Hid (Pre 5 (Wd.alloc (.cells #[.int .u8 (c.toNat : Int)] 5)) base v ps ∧ Strs (Wd.alloc (.cells #[.int .u8 (c.toNat : Int)] 5)) base q2 (ws ++ texts ps (T.words l.raw) ++ [st (ps ++ [c])]) ∧ base ≤ (Wd.alloc (.cells #[.int .u8 (c.toNat : Int)] 5)).heap.size ∧ Col base w (Wd.alloc (.cells #[.int .u8 (c.toNat : Int)] 5)) v q q2 ps (ws ++ texts ps (T.words l.raw) ++ [st (ps ++ [c])])) :=
        have hc := HD.out.later (below_alloc (Below.refl _ _) (.cells #[.int .u8 (c.toNat : Int)] 5))
        hid ⟨hc.pre, hc.row, Nat.le_trans HB.out hc.fr.size, hc⟩
      have kx : (Wd.alloc (.cells #[.int .u8 (c.toNat : Int)] 5)).cell? ⟨Wd.heap.size, 0, none⟩ = some (bv c) := (Blk.new Wd _ _).cell 0
      clear HD HId HBd
      generalize Wd.alloc (.cells #[.int .u8 (c.toNat : Int)] 5) = Wa at HA HIa kx hHeld ⊢
      refine norm_ (a' := ?_) ?_ ?_
      rotate_left
      · show Act.put _ (some 45) _ = _
        simp only [Act.put, List.setIfInBounds_toArray, List.set_cons_zero, List.set_cons_succ]
        rfl
      refine one_ (i := 11) (N := some 46) #[true, true, true, true, true, true, true, true, true, true, true, true, true, false, false] rfl rfl (one_of HT_.out (by kernel_rfl)) (by decide) (fun K_ hK => ?_)
      refine append_keep_step rfl (.tmp 40) (.tmp 45) rfl Try.underlying100 info5 (base := base) (v := v) (ps := ps) rfl Wd.heap.size c rfl HA.out.1 HA.out.2.2.1 kx (by have h_ := HZ.out.2.2.2.1; unfold B32 at h_; omega) ?_
      intro v1 W2 hp1 hp hg ha
      have HG : Hid (Pre 5 W2 base v1 (ps ++ [c]) ∧ Pre 5 W2 base v ps ∧ Wa.grownBy W2 v.ownBlock ∧ After Wa v v1) := hid ⟨hp1, hp, hg, ha⟩
      have HI2 : Hid ((N.node b c l m r vv true).In W2) := hid (in_keep HIa.out HD0.out ((Fr.of_grown hg).below HA.out.2.2.1 (fun k hk => (HA.out.1.typed k hk.symm).1)))
      have HS : Hid (Strs W2 base q2 (ws ++ texts ps (T.words l.raw) ++ [st (ps ++ [c])]) ∧ base ≤ W2.heap.size) := by
        have hap := apart HA.out.1 HA.out.2.1
        exact hid ⟨Kd.R_mono (Kd.R_grown (Kd.R_reok (ok := fun k => some k ≠ v.ownBlock) rfl HA.out.2.1 (fun k hk e => hap k e.symm hk.symm)) hg (fun _ h => h)) (fun _ _ => trivial), Nat.le_trans HA.out.2.2.1 hg.size⟩
      clear hp1 hp hg ha kx
      refine hK.out _ _ ⟨by rw [← HUM.out]; exact (HI2.out).1.cell 2, (HI2.out).1.cell 0⟩ (fun hHeld => ?_)
      clear hK K_
      refine norm_ (a' := ?_) ?_ ?_
      rotate_left
      · show Act.put _ (some 46) _ = _
        simp only [Act.put, List.setIfInBounds_toArray, List.set_cons_zero, List.set_cons_succ]
        rfl
      refine last_ (i := 13) (N := some 48) #[true, true, true, true, true, true, true, true, true, true, true, true, true, true, false] rfl rfl (one_of HT_.out (by kernel_rfl)) (by decide) (fun K_ hK => ?_)
      refine call_ (N := some 48) 64 #[.pointer tp, .pointer um, v1, q2] (by rfl) rfl (by go_simp) ?_
      have HCall_ := HM.out (ps ++ [c]) v1 q2 (ws ++ texts ps (T.words l.raw) ++ [st (ps ++ [c])]) W2 HI2.out.2.2.1 HS.out.2 HG.out.1 HS.out.1 HZ.out.2.1 (by have h_ := HZ.out.2.2.2.2; simp only [List.length_append, texts_len, List.length_singleton, if_true] at h_ ⊢; omega)
      refine HCall_.mono ?_
      clear HCall_
      rintro e W3 ⟨q3, rfl, hc3⟩
      have HC3 : Hid (Col base w W3 v q q3 ps ((ws ++ texts ps (T.words l.raw) ++ [st (ps ++ [c])]) ++ texts (ps ++ [c]) (T.words m.raw))) := hid (HA.out.2.2.2.then (Col.back HA.out.1 HG.out.2.2.1 HG.out.2.2.2 HG.out.2.1 hc3 HG.out.2.2.1.size (apart HA.out.1 HA.out.2.1)))
      clear hc3 HA HG HS HI2 HIa
      refine ⟨_, rfl, ?_⟩
      refine hK.out _ _ ?_
      clear hK K_
      refine norm_ (a' := ?_) ?_ ?_
      rotate_left
      · show Act.put _ (some 48) _ = _
        simp only [Act.put, List.setIfInBounds_toArray, List.set_cons_zero, List.set_cons_succ]
        rfl
      refine pure_ (i := 14) (N := some 3) (v := ?_) (a' := ?_) #[true, true, true, true, true, true, true, true, true, true, true, true, true, true, true] rfl rfl (any_of HT_.out (by kernel_rfl)) (fun _ _ _ h => h) (Or.inl ⟨by rfl, ?_⟩) ?_ ?_
      rotate_left
      · intro w'
        go_simp
        with_reducible rfl
      rotate_left
      · simp only [Act.put, List.setIfInBounds_toArray, List.set_cons_zero, List.set_cons_succ]
        rfl
      refine done_ (done_of HT_.out (by kernel_rfl)) ?_
      clear HT_ HW_
      have HI3 : Hid ((N.node b c l m r vv true).In W3) := hid (in_keep HI.out HD0.out (HC3.out.below HB.out HV.out HQ.out))
      have k3 : W3.cell? ⟨b, 3, none⟩ = some (.pointer ur) := by rw [← HUR.out]; exact HI3.out.1.cell 3
      go_wp2_with fail
      clear k3
      have hcl := HR.out ps v q3 ((ws ++ texts ps (T.words l.raw) ++ [st (ps ++ [c])]) ++ texts (ps ++ [c]) (T.words m.raw)) W3 HI3.out.2.2.2 (Nat.le_trans HB.out HC3.out.fr.size) HC3.out.pre HC3.out.row HZ.out.2.2.1 (by have h_ := HZ.out.2.2.2.2; simp only [List.length_append, texts_len, List.length_singleton, if_true] at h_ ⊢; omega)
      refine hcl.mono ?_
      clear hcl
      rintro e W4 ⟨q4, rfl, hc4⟩
      have HC4 := hid (HC3.out.then hc4)
      clear hc4 HC3
      go_wp2_with fail
      go_ret
      exact ⟨_, rfl, by rw [HE.out]; exact HC4.out⟩
end Go.Proofs.Ytkgbflcbeeghoaa.Trie

namespace Go.Proofs.Ytkgbflcbeeghoaa.Trie
open Go Go.RowKit Go.Deep Go.Proofs.Ytkgbflcbeeghoaa.Hk Go.Proofs.Ytkgbflcbeeghoaa.TriePure Go.Proofs.Ytkgbflcbeeghoaa.Pre Go.Proofs.YtkgbflcbeeghoaaW.PrintWords Go.Proofs.YtkgbflcbeeghoaaW.PrintLast Go.Proofs.YtkgbflcbeeghoaaW.PrintMore
theorem used_get : ∀ (t : T) (ks : W), T.Used t → T.Used (T.get t ks)
  | .nil, _, _ => trivial
  | .node _ _ _ _ _ _, [], _ => trivial
  | .node c l m r v ok, [k], h => by
    rw [T.get_one]
    split
    · exact used_get l _ h.2.1
    · split
      · exact used_get r _ h.2.2.2
      · exact h
  | .node c l m r v ok, k :: k2 :: ks, h => by
    rw [T.get_more]
    split
    · exact used_get l _ h.2.1
    · split
      · exact used_get r _ h.2.2.2
      · exact used_get m _ h.2.2.1
/-- Words that a trie may hold, so that all that tells them has room. -/
structure Fit (t : T) : Prop where
  ord : T.Ord t
  used : T.Used t
  long : ∀ p ∈ T.words t, p.1.length ≤ B32
  many : (T.words t).length + 1 ≤ B32
def keysT (t : T) : List ByteArray := texts [] (T.words t)
def keysOf (t : T) (s : ByteArray) : List ByteArray := if s.size = 0 then keysT t else (T.from_ t (wd s)).map st
theorem st_wd (s : ByteArray) : st (wd s) = s := by cases s; rfl
theorem fit_from {t : T} {s : ByteArray} (h : Fit t) (h0 : s.size ≠ 0) {c : UInt8} {l m r : T} {v : Int} {ok : Bool} (hg : T.get t (wd s) = .node c l m r v ok) : (∀ p ∈ T.words m, (wd s).length + p.1.length ≤ B32) ∧ (T.words m).length + 1 ≤ B32 := by
  have e : T.from_ t (wd s) = (heads (T.words t)).filter (T.pre (wd s)) := by
    cases hw : wd s with
    | nil => exact absurd (by simpa using congrArg List.length hw) h0
    | cons k ks => exact T.from_words t k ks h.ord
  unfold T.from_ at e
  rw [hg] at e
  simp only at e
  refine ⟨fun p hp => ?_, ?_⟩
  · have h1 : wd s ++ p.1 ∈ (heads (T.words t)).filter (T.pre (wd s)) := by
      rw [← e]
      exact List.mem_append_right _ (List.mem_map.2 ⟨p, hp, rfl⟩)
    obtain ⟨q, hq, e2⟩ := List.mem_map.1 (List.mem_filter.1 h1).1
    have h2 := h.long q hq
    rw [e2, List.length_append] at h2
    exact h2
  · have h1 := congrArg List.length e
    have h2 := List.length_filter_le (T.pre (wd s)) (heads (T.words t))
    have h3 := h.many
    simp only [List.length_append, List.length_map, heads] at h1 h2
    omega
theorem bytes_below (w : World) (E : TypeId) (s : ByteArray) : Below w.heap.size w (Lib.bytesWorld w E s) := ⟨rfl, rfl, rfl, by rw [Lib.bytesWorld_size]; omega, fun k hk => Lib.bytesWorld_at_old w E s k hk⟩
set_option maxHeartbeats 8000000 in
set_option maxRecDepth 100000 in
theorem Keys_any (base Tb : Nat) (n : Int) (t : N) (w : World) (hT : Tr base Tb n t w) (hF : Fit t.raw) :
    Calls Try.prog 44 #[.pointer (some ⟨Tb, 0, none⟩)] w fun e w' => ∃ q, e = .returned q ∧ Strs w' w.heap.size q (keysT t.raw) ∧ Below w.heap.size w w' := by
  have HT := hid hT
  have HF := hid hF
  have c1 : w.cell? ⟨Tb, 1, none⟩ = some t.ptr := hT.blk.cell 1
  obtain ⟨u, hu⟩ := t.ptr_some
  have HU := hid hu
  rw [hu] at c1
  clear hT hF hu
  go_enter Try.func44, Try.ntmps44
  go_wp2_with fail
  clear c1
  rw [← HU.out]
  have hcl := collect_any (some ⟨Tb, 0, none⟩) w.heap.size t [] (.slice none 0 0) (.slice none 0 0) [] w HT.out.good.mem (HT.out.good.mem.lt) (Nat.le_refl _) (.inl ⟨rfl, rfl⟩) (Kd.R_nil _ _ _ _ _) HF.out.used (fun p hp => by have := HF.out.long p hp; simpa using this) (by have := HF.out.many; simp only [List.length_nil]; omega)
  refine hcl.mono ?_
  clear hcl
  rintro e w1 ⟨q1, rfl, hc⟩
  have HC := hid hc
  clear hc
  go_wp2_with fail
  go_ret
  exact ⟨_, rfl, HC.out.row, HC.out.below (Nat.le_refl _) (ps := []) (.inl ⟨rfl, rfl⟩) (Kd.R_nil _ _ _ _ _)⟩
set_option maxHeartbeats 8000000 in
set_option maxRecDepth 100000 in
theorem Prefix_any (base Tb : Nat) (n : Int) (t : N) (s : ByteArray) (w : World) (hT : Tr base Tb n t w) (hF : Fit t.raw) (hs : s.size ≤ 1099511627776) :
    Calls Try.prog 45 #[.pointer (some ⟨Tb, 0, none⟩), .string s] w fun e w' => ∃ q, e = .returned q ∧ Strs w' w.heap.size q (keysOf t.raw s) ∧ Below w.heap.size w w' := by
  have HT := hid hT
  have HF := hid hF
  have HS := hid hs
  by_cases h0 : s.size = 0
  · have HE : Hid (keysOf t.raw s = keysT t.raw) := hid (if_pos h0)
    have z1 : (s.size == 0) = true := by simp [h0]
    have z2 : ((s.size : Int) == 0) = true := by simp [h0]
    clear h0 hT hF hs
    go_enter Try.func45, Try.ntmps45
    go_wp2_with fail
    refine (Keys_any base Tb n t w HT.out HF.out).mono ?_
    rintro e w1 ⟨q, rfl, hq, hb⟩
    have HQ := hid (And.intro hq hb)
    clear hq hb
    go_wp2_with fail
    go_ret
    exact ⟨_, rfl, by rw [HE.out]; exact HQ.out.1, HQ.out.2⟩
  · have HD : Hid (0 < s.size) := hid (by omega)
    have HN := hid h0
    have z1 : (s.size == 0) = false := beq_eq_false_iff_ne.2 h0
    have z2 : ((s.size : Int) == 0) = false := beq_eq_false_iff_ne.2 (by omega)
    have c1 : w.cell? ⟨Tb, 1, none⟩ = some t.ptr := hT.blk.cell 1
    have HK : Hid (keysOf t.raw s = (T.from_ t.raw (wd s)).map st) := hid (if_neg h0)
    obtain ⟨u, hu⟩ := t.ptr_some
    have HU := hid hu
    rw [hu] at c1
    clear h0 hT hF hs hu
    go_enter Try.func45, Try.ntmps45
    go_wp2_with fail
    clear c1
    rw [← HU.out]
    refine (get_any s (some ⟨Tb, 0, none⟩) HS.out t 0 w HT.out.good.mem HD.out).mono ?_
    rintro e w1 ⟨rfl, rfl⟩
    obtain ⟨w, rfl⟩ : ∃ w_, w_ = w1 := ⟨_, rfl⟩
    have HR := hid (sub_raw t (suf s 0))
    have HI := hid (sub_in t (suf s 0) HT.out.good.mem)
    have HV := hid (used_get t.raw (suf s 0) HF.out.used)
    rw [← HR.out] at HV
    generalize t.sub (suf s 0) = x at HR HI HV ⊢
    cases x with
    | nil =>
      have HE : Hid (keysOf t.raw s = []) := by
        rw [HK.out]
        unfold T.from_
        rw [← suf0, ← HR.out]
        exact hid rfl
      rw [show N.nil.ptr = .pointer none from rfl]
      go_wp2_with fail
      go_ret
      exact ⟨_, rfl, by rw [HE.out]; exact Kd.R_nil _ _ _ _ _, Below.refl _ _⟩
    | node b c l m r v ok =>
      have k5 : w.cell? ⟨b, 5, none⟩ = some (.bool ok) := HI.out.1.cell 5
      have k2 : w.cell? ⟨b, 2, none⟩ = some m.ptr := HI.out.1.cell 2
      obtain ⟨um, hum⟩ := m.ptr_some
      have HUM := hid hum
      rw [hum] at k2
      clear hum
      have HM : Hid (T.Used m.raw ∧ (∀ p ∈ T.words m.raw, (wd s).length + p.1.length ≤ B32) ∧ (T.words m.raw).length + 1 ≤ B32) := hid ⟨HV.out.2.2.1, fit_from HF.out HN.out HR.out.symm⟩
      have HE0 : Hid (keysOf t.raw s = ((if ok then [wd s] else []) ++ (T.words m.raw).map (fun p => wd s ++ p.1)).map st) := by
        rw [HK.out]
        unfold T.from_
        rw [← suf0, ← HR.out]
        exact hid rfl
      rw [show (N.node b c l m r v ok).ptr = .pointer (some ⟨b, 0, none⟩) from rfl]
      clear HV HR HK
      cases ok with
      | true =>
        have HE : Hid (keysOf t.raw s = [s] ++ texts (wd s) (T.words m.raw)) := by
          rw [HE0.out, List.map_append, List.map_map]
          simp only [if_true, List.map_cons, List.map_nil, st_wd]
          exact hid rfl
        clear HE0
        have HQ : Hid (Strs (w.alloc (.cells #[.string s] 9)) w.heap.size (.slice (some ⟨w.heap.size, 0, none⟩) 1 1) [s] ∧ Below w.heap.size w (w.alloc (.cells #[.string s] 9))) :=
          hid ⟨Kd.R_of_own (World.ownsRow_lit (base := w.heap.size) (e := 9) (size := 1) w #[.string s] 1 (Nat.le_refl _) (by decide) rfl) (fun _ _ => trivial), (Below.refl _ _).alloc (Nat.le_refl _) _⟩
        have k2' : (w.alloc (.cells #[.string s] 9)).cell? ⟨b, 2, none⟩ = some (.pointer um) := by rw [← HUM.out]; exact (HI.out.1.below HQ.out.2 HI.out.1.lt).cell 2
        have HCV : Hid (Below w.heap.size w (Lib.bytesWorld (w.alloc (.cells #[.string s] 9)) 5 s) ∧ Strs (Lib.bytesWorld (w.alloc (.cells #[.string s] 9)) 5 s) w.heap.size (.slice (some ⟨w.heap.size, 0, none⟩) 1 1) [s] ∧ Pre 5 (Lib.bytesWorld (w.alloc (.cells #[.string s] 9)) 5 s) w.heap.size (.slice (some ⟨(w.alloc (.cells #[.string s] 9)).heap.size, 0, none⟩) s.size (grownCap (w.alloc (.cells #[.string s] 9)) s.size 0 5)) (wd s)) := by
          have hb := bytes_below (w.alloc (.cells #[.string s] 9)) 5 s
          refine hid ⟨below_at HQ.out.2 hb HQ.out.2.size, Kd.R_below HQ.out.1 hb, ?_⟩
          rcases Pre.bytes (E := 5) (w.alloc (.cells #[.string s] 9)) s with h | ⟨g, n, c, e, h⟩
          · exact .inl h
          · exact .inr ⟨g, n, c, e, Nat.le_trans HQ.out.2.size h.1, h.2⟩
        have hcv := Lib.run_convert_string_bytes (P := Try.prog) (w.alloc (.cells #[.string s] 9)) 9 100 5 s Try.underlying9 Try.underlying100 Try.underlying5
        go_wp2_with fail
        clear hcv
        rw [alloc_size] at HCV
        generalize grownCap (w.alloc (.cells #[.string s] 9)) s.size 0 5 = gc at HCV ⊢
        generalize Lib.bytesWorld (w.alloc (.cells #[.string s] 9)) 5 s = Wb at HCV ⊢
        have hcl := collect_any (some ⟨Tb, 0, none⟩) w.heap.size m (wd s) (.slice (some ⟨w.heap.size + 1, 0, none⟩) s.size gc) (.slice (some ⟨w.heap.size, 0, none⟩) 1 1) [s] Wb (in_keep HI.out.2.2.1 (HI.out.2.2.1.lt) HCV.out.1) (HI.out.2.2.1.lt) HCV.out.1.size HCV.out.2.2 HCV.out.2.1 HM.out.1 HM.out.2.1 (by have h_ := HM.out.2.2; simp only [List.length_singleton]; omega)
        rw [HUM.out] at hcl
        refine hcl.mono ?_
        clear hcl
        rintro e w2 ⟨q2, rfl, hc⟩
        have HC := hid hc
        clear hc
        go_wp2_with fail
        go_ret
        exact ⟨_, rfl, by rw [HE.out]; exact HC.out.row, HCV.out.1.trans (HC.out.below HCV.out.1.size HCV.out.2.2 HCV.out.2.1)⟩
      | false =>
        have HE : Hid (keysOf t.raw s = [] ++ texts (wd s) (T.words m.raw)) := by
          rw [HE0.out, List.map_append, List.map_map]
          simp only [Bool.false_eq_true, if_false, List.map_nil]
          exact hid rfl
        clear HE0
        have HCV : Hid (Below w.heap.size w (Lib.bytesWorld w 5 s) ∧ Strs (Lib.bytesWorld w 5 s) w.heap.size (.slice none 0 0) [] ∧ Pre 5 (Lib.bytesWorld w 5 s) w.heap.size (.slice (some ⟨w.heap.size, 0, none⟩) s.size (grownCap w s.size 0 5)) (wd s)) := by
          have hb := bytes_below w 5 s
          refine hid ⟨hb, Kd.R_nil _ _ _ _ _, ?_⟩
          rcases Pre.bytes (E := 5) w s with h | ⟨g, n, c, e, h⟩
          · exact .inl h
          · exact .inr ⟨g, n, c, e, h.1, h.2⟩
        have hcv := Lib.run_convert_string_bytes (P := Try.prog) w 9 100 5 s Try.underlying9 Try.underlying100 Try.underlying5
        go_wp2_with fail
        clear hcv
        generalize grownCap w s.size 0 5 = gc at HCV ⊢
        generalize Lib.bytesWorld w 5 s = Wb at HCV ⊢
        have hcl := collect_any (some ⟨Tb, 0, none⟩) w.heap.size m (wd s) (.slice (some ⟨w.heap.size, 0, none⟩) s.size gc) (.slice none 0 0) [] Wb (in_keep HI.out.2.2.1 (HI.out.2.2.1.lt) HCV.out.1) (HI.out.2.2.1.lt) HCV.out.1.size HCV.out.2.2 HCV.out.2.1 HM.out.1 HM.out.2.1 (by have h_ := HM.out.2.2; simp only [List.length_nil]; omega)
        rw [HUM.out] at hcl
        refine hcl.mono ?_
        clear hcl
        rintro e w2 ⟨q2, rfl, hc⟩
        have HC := hid hc
        clear hc
        go_wp2_with fail
        go_ret
        exact ⟨_, rfl, by rw [HE.out]; exact HC.out.row, HCV.out.1.trans (HC.out.below HCV.out.1.size HCV.out.2.2 HCV.out.2.1)⟩
end Go.Proofs.Ytkgbflcbeeghoaa.Trie

namespace Go.Proofs.Ytkgbflcbeeghoaa.Trie
open Go Go.RowKit Go.Deep Go.Proofs.Ytkgbflcbeeghoaa.Hk Go.Proofs.Ytkgbflcbeeghoaa.TriePure Go.Proofs.Ytkgbflcbeeghoaa.Pre Go.Proofs.YtkgbflcbeeghoaaW.PrintWords Go.Proofs.YtkgbflcbeeghoaaW.PrintLast Go.Proofs.YtkgbflcbeeghoaaW.PrintMore
abbrev Wd3 := Int × ByteArray × Int
abbrev Say4 := Int × Bool × ByteArray × List ByteArray
def wordK : Kd Wd3 := Kd.pair (Kd.int .i64) (Kd.pair Kd.string (Kd.int .i64))
def sayK : Kd Say4 := Kd.pair (Kd.int .i64) (Kd.pair Kd.bool (Kd.pair Kd.string (Kd.slice 9 Kd.string)))
def stepT (p : Int × T) (a : Wd3) : Int × T := if a.1 = 0 then putT a.2.1 a.2.2 p else if a.1 = 1 then remT a.2.1 p else p
def tellT (p : Int × T) (a : Wd3) : Say4 :=
  if a.1 = 2 then ((got p.2 (wd a.2.1)).1, (got p.2 (wd a.2.1)).2, (⟨#[]⟩ : ByteArray), []) else if a.1 = 3 then (0, (got p.2 (wd a.2.1)).2, (⟨#[]⟩ : ByteArray), []) else if a.1 = 4 then (0, false, (⟨#[]⟩ : ByteArray), keysT p.2)
  else if a.1 = 5 then (0, false, (⟨#[]⟩ : ByteArray), keysOf p.2 a.2.1) else if a.1 = 6 then (0, false, longS p.2 a.2.1, []) else if a.1 = 7 then (p.1, false, (⟨#[]⟩ : ByteArray), []) else (0, false, (⟨#[]⟩ : ByteArray), [])
def runT : Int × T → List Wd3 → Int × T
  | p, [] => p
  | p, a :: l => runT (stepT p a) l
def toldT : Int × T → List Wd3 → List Say4
  | _, [] => []
  | p, a :: l => tellT p a :: toldT (stepT p a) l
/-- What a trie is behind i steps. -/
structure Okt (i : Nat) (t : T) : Prop where
  ord : T.Ord t
  used : T.Used t
  long : ∀ p ∈ T.words t, p.1.length ≤ 1099511627776
  many : (T.words t).length ≤ i
theorem Okt.fit {i : Nat} {t : T} (h : Okt i t) (hi : i ≤ 1099511627776) : Fit t := ⟨h.ord, h.used, fun p hp => by have := h.long p hp; unfold B32; omega, by have := h.many; unfold B32; omega⟩
theorem Okt.more {i : Nat} {t : T} (h : Okt i t) : Okt (i + 1) t := ⟨h.ord, h.used, h.long, Nat.le_succ_of_le h.many⟩
theorem ins_len (w : W) (v : Int) : ∀ l : TriePure.R, (TriePure.ins w v l).length ≤ l.length + 1
  | [] => Nat.le_refl _
  | p :: l => by
    have := ins_len w v l
    simp only [TriePure.ins]
    split
    · simp only [List.length_cons]; omega
    · split <;> simp only [List.length_cons] <;> omega
theorem ins_mem (w : W) (v : Int) : ∀ (l : TriePure.R) (p : W × Int), p ∈ TriePure.ins w v l → p.1 = w ∨ ∃ q ∈ l, q.1 = p.1
  | [], p, h => by simp only [TriePure.ins, List.mem_singleton] at h; subst h; exact .inl rfl
  | q :: l, p, h => by
    simp only [TriePure.ins] at h
    split at h
    · rcases List.mem_cons.1 h with e | h
      · subst e; exact .inr ⟨_, List.mem_cons_self, rfl⟩
      · rcases ins_mem w v l p h with e | ⟨x, hx, e⟩
        · exact .inl e
        · exact .inr ⟨x, List.mem_cons_of_mem _ hx, e⟩
    · split at h
      · rcases List.mem_cons.1 h with e | h
        · subst e; exact .inr ⟨q, List.mem_cons_self, rfl⟩
        · exact .inr ⟨p, List.mem_cons_of_mem _ h, rfl⟩
      · rcases List.mem_cons.1 h with e | h
        · subst e; exact .inl rfl
        · exact .inr ⟨p, h, rfl⟩
theorem wd_cons {s : ByteArray} (h : s.size ≠ 0) : ∃ k ks, wd s = k :: ks := by
  cases hw : wd s with
  | nil => exact absurd (by simpa using congrArg List.length hw) h
  | cons k ks => exact ⟨k, ks, rfl⟩
theorem Okt.put {i : Nat} {n : Int} {t : T} {s : ByteArray} {v : Int} (h : Okt i t) (hn : -(i : Int) ≤ n ∧ n ≤ i) (hs : s.size ≤ 1099511627776) : Okt (i + 1) (putT s v (n, t)).2 ∧ -((i : Int) + 1) ≤ (putT s v (n, t)).1 ∧ (putT s v (n, t)).1 ≤ (i : Int) + 1 := by
  unfold putT
  split
  · exact ⟨h.more, by show _ ≤ n; omega, by show n ≤ _; omega⟩
  · rename_i h0
    refine ⟨?_, by dsimp only; split <;> omega, by dsimp only; split <;> omega⟩
    have hl : (wd s).length ≤ 1099511627776 := by simpa using hs
    obtain ⟨k, ks, e⟩ := wd_cons h0
    dsimp only
    rw [e] at hl ⊢
    have hw := T.words_put v t k ks h.ord
    refine ⟨T.ord_put v t _ h.ord, T.used_put v t _ h.used, fun p hp => ?_, ?_⟩
    · rw [hw] at hp
      rcases ins_mem _ _ _ _ hp with e | ⟨q, hq, e⟩
      · rw [e]; exact hl
      · rw [← e]; exact h.long q hq
    · rw [hw]
      have := ins_len (k :: ks) v (T.words t)
      have := h.many
      omega
theorem Okt.rem {i : Nat} {n : Int} {t : T} {s : ByteArray} (h : Okt i t) (hn : -(i : Int) ≤ n ∧ n ≤ i) : Okt (i + 1) (remT s (n, t)).2 ∧ -((i : Int) + 1) ≤ (remT s (n, t)).1 ∧ (remT s (n, t)).1 ≤ (i : Int) + 1 := by
  unfold remT
  split
  · exact ⟨h.more, by show _ ≤ n; omega, by show n ≤ _; omega⟩
  · rename_i h0
    refine ⟨?_, by show _ ≤ n - 1; omega, by show n - 1 ≤ _; omega⟩
    obtain ⟨k, ks, e⟩ := wd_cons h0
    dsimp only
    rw [e]
    obtain ⟨a1, _, a3, a4⟩ := T.rem_all t k ks h.ord
    refine ⟨a3, a4 h.used, fun p hp => ?_, ?_⟩
    · rw [a1] at hp
      exact h.long p (List.mem_filter.1 hp).1
    · rw [a1]
      exact Nat.le_trans (List.length_filter_le _ _) (Nat.le_succ_of_le h.many)
theorem keysOf_len {i : Nat} {t : T} (h : Okt i t) (s : ByteArray) : (keysOf t s).length ≤ i := by
  unfold keysOf
  split
  · unfold keysT; rw [texts_len]; exact h.many
  · rename_i h0
    obtain ⟨k, ks, e⟩ := wd_cons h0
    rw [List.length_map, e, T.from_words t k ks h.ord]
    refine Nat.le_trans (List.length_filter_le _ _) ?_
    rw [heads, List.length_map]
    exact h.many
theorem at_word {w : World} {A : Option Addr} {n : Nat} {xs : List Wd3} (h : Kd.C wordK w A n xs) (i : Nat) (hi : i < xs.length) : ∃ ad, A = some ad ∧ w.cell? (ad.add (i * 3)) = some (.int .i64 xs[i].1) ∧
    w.cell? ⟨(ad.add (i * 3)).block, (ad.add (i * 3)).off + 1, none⟩ = some (.string xs[i].2.1) ∧ w.cell? ⟨(ad.add (i * 3)).block, (ad.add (i * 3)).off + 2, none⟩ = some (.int .i64 xs[i].2.2) := by
  have hn := h.1
  obtain ⟨ad, c, e, _, hK, hc0⟩ := Kd.C_get h ((0, (⟨#[]⟩ : ByteArray), 0) : Wd3) i (by omega) (by omega)
  have hx : xs.getD (i : Int).toNat (0, (⟨#[]⟩ : ByteArray), 0) = xs[i] := by simp [List.getD_eq_getElem?_getD, hi]
  rw [hx] at hK
  have hc : ∀ j u, c[j]? = some u → w.cell? (ad.add (i * 3 + j)) = some u := hc0
  obtain ⟨c0, c1, rfl, h0, d0, d1, rfl, h1, h2⟩ := hK
  cases h0; cases h1; cases h2
  exact ⟨ad, e, hc 0 _ rfl, by rw [← add_field _ _ 1 (by omega)]; exact hc 1 _ rfl, by rw [← add_field _ _ 2 (by omega)]; exact hc 2 _ rfl⟩
theorem infoSay : (Try.prog.info? 26).map (fun i => (i.zero, i.size, i.bytes)) = some (some (.agg #[(.int .i64 0), (.bool false), (.string (⟨#[]⟩ : ByteArray)), (.slice none 0 0)]), 4, 56) := by kernel_rfl
theorem sayK_E : sayK.E = [9] := rfl
/-- What holds between the steps of a script that began at w. -/
structure Inv (base Tb : Nat) (w : World) (n : Int) (t : N) (out : Value) (rs : List Say4) (wr : World) : Prop where
  tree : Tr base Tb n t wr
  row : Kd.S sayK 26 wr w.heap.size (fun _ => True) out rs
  fr : Fr (Zt base w) w wr
section
variable {base Tb : Nat} {n n' : Int} {t t' : N} {w wr W w' w1 : World} {out : Value} {rs : List Say4}
theorem Tr.fr {S : Nat → Prop} (h : Tr base Tb n t w) (hF : Fr S w w1) (hS : ∀ k, (k = Tb ∨ k ∈ t.ids) → ¬ S k) : Tr base Tb n t w1 := ⟨h.blk.fr hF (hS Tb (.inl rfl)), ⟨h.good.mem.fr hF (fun b hb => hS b (.inr hb)), h.good.nodup, h.good.above⟩, h.tb, h.ge⟩
theorem Inv.below (h : Inv base Tb w n t out rs wr) (hb : Below wr.heap.size wr w') : Inv base Tb w n t out rs w' :=
  ⟨h.tree.below hb, Kd.S_below h.row hb, h.fr.trans (S' := fun _ => False) (Fr.new hb) (fun _ _ h => h.elim)⟩
theorem Inv.turned (h : Inv base Tb w n t out rs W) (hT : Tr base Tb n' t' w') (hF : Fr (Zt base W) W w') : Inv base Tb w n' t' out rs w' := by
  refine ⟨hT, Kd.S_mono (Kd.S_step (Kd.S_bound h.row) (fun k hk hlt => hF.block k hlt (fun e => ?_))) (fun _ _ => trivial), zt_trans h.fr hF⟩
  obtain ⟨_, _, _, q, hq, cs, hc⟩ := hk
  obtain ⟨_, cs2, t2, hc2, ht2⟩ := e
  rw [hc] at hc2
  injection hc2 with hc2
  injection hc2 with _ hc2 _
  subst hc2
  rw [sayK_E] at hq
  simp only [List.mem_cons, List.not_mem_nil, or_false] at hq
  rcases ht2 with e | e <;> rcases hq with e2 | e2 <;> rw [e] at e2 <;> exact absurd e2 (by decide)
theorem Inv.append (h : Inv base Tb w n t out rs W) {v1 : Value} {p : Say4} (hR : Kd.S sayK 26 w1 w.heap.size (fun _ => True) v1 (rs ++ [p])) (hg : W.grownBy w1 out.ownBlock) : Inv base Tb w n t v1 (rs ++ [p]) w1 := by
  have hR0 := Kd.S_R h.row
  have hF : Fr (fun k => some k = out.ownBlock) W w1 := Fr.of_grown hg
  refine ⟨h.tree.fr hF (fun k hk e => ?_), hR, h.fr.trans hF (fun k hk e => ?_)⟩
  · obtain ⟨cs, hc⟩ := Kd.R_typed hR0 k e.symm
    obtain ⟨_, cs2, t2, hc2, ht2⟩ := h.tree.zt k hk
    rw [hc] at hc2
    injection hc2 with hc2
    injection hc2 with _ hc2 _
    rcases ht2 with e2 | e2 <;> rw [e2] at hc2 <;> exact absurd hc2 (by decide)
  · have := Kd.R_base hR0 k e.symm
    omega
end
/-- What a step tells, made of cells: no row of keys. -/
theorem say_flat (W : World) (base : Nat) (v : Int) (b : Bool) (s : ByteArray) : sayK.M W base (fun _ => False) (v, b, s, []) [.int .i64 v, .bool b, .string s, .slice none 0 0] :=
  ⟨[_], [_, _, _], rfl, rfl, [_], [_, _], rfl, rfl, [_], [_], rfl, rfl, ⟨_, rfl, Kd.R_nil ..⟩⟩
theorem say_rows {W : World} {base N0 : Nat} {K : Value} {ks : List ByteArray} {ok : Nat → Prop} (hb : base ≤ N0) (hK : Kd.string.R 9 W N0 ok K ks) (v : Int) (b : Bool) (s : ByteArray) : sayK.M W base (fun k => N0 ≤ k) (v, b, s, ks) [.int .i64 v, .bool b, .string s, K] :=
  ⟨[_], [_, _, _], rfl, rfl, [_], [_, _], rfl, rfl, [_], [_], rfl, rfl, ⟨_, rfl, Kd.R_lower (Kd.R_reok rfl hK (fun k hk => Kd.R_base hK k hk)) hb⟩⟩
set_option maxHeartbeats 16000000 in
set_option maxRecDepth 100000 in
theorem trieDo_any (base Tb : Nat) (w : World) (A : Option Addr) (c : Nat) (l : List Wd3) (hT : Tr base Tb 0 .nil w) (hC : ∀ W, Below base w W → Kd.C wordK W A l.length l) (hl : l.length ≤ 1099511627776) (hs : ∀ a ∈ l, a.2.1.size ≤ 1099511627776) :
    Calls Try.prog 27 #[.pointer (some ⟨Tb, 0, none⟩), .slice A l.length c] w fun e w' => ∃ (n : Int) (t : N) (v : Value), e = .returned v ∧ (n, t.raw) = runT (0, .nil) l ∧ Okt l.length t.raw ∧ Inv base Tb w n t v (toldT (0, .nil) l) w' := by
  have HC := hid hC
  have HT := hid hT
  have HLL := hid hl
  have HSS := hid hs
  clear hC hT hs
  go_enter Try.func27, Try.ntmps27
  go_wp2_with fail
  go_loopg [5, 11] l.length (fun g v5 v11 wr => ∃ (i : Nat) (n : Int) (t : N) (rs : List Say4), v11 = .int .i64 i ∧ i ≤ l.length ∧ Hid (g + i = l.length) ∧ Hid (Inv base Tb w n t v5 rs wr ∧ Okt i t.raw ∧ (-(i : Int) ≤ n ∧ n ≤ i) ∧ rs.length = i ∧ rs ++ toldT (n, t.raw) (l.drop i) = toldT (0, .nil) l ∧ runT (n, t.raw) (l.drop i) = runT (0, .nil) l))
  case atStart => exact ⟨0, 0, .nil, [], rfl, Nat.zero_le _, Nat.add_zero _, ⟨HT.out, Kd.S_nil .., Fr.refl _ _⟩, ⟨trivial, trivial, fun p hp => by simp [N.raw, T.words] at hp, Nat.le_refl _⟩, by simp, rfl, rfl, rfl⟩
  case round =>
    obtain ⟨i, n, t, rs, rfl, hi, HG, HI⟩ := hrel
    by_cases hlt : i < l.length
    · obtain ⟨ad, rfl, x0, x1, x2⟩ := at_word (HC.out wr (HI.out.1.fr.below HT.out.big (fun k hk => hk.1))) i hlt
      have HX : Hid (l.drop i = l[i] :: l.drop (i + 1)) := List.drop_eq_getElem_cons hlt
      have HSZ0 := hid (HSS.out l[i] (List.getElem_mem hlt))
      generalize l[i] = x at x0 x1 x2 HX HSZ0
      obtain ⟨d, s, v⟩ := x
      simp only at x0 x1 x2
      have HSZ : Hid (s.size ≤ 1099511627776) := HSZ0
      have HL := hid hlt
      have HW := hid (HI.out.1.below (((Below.refl _ _).alloc (Nat.le_refl _) (.cells #[.int .i64 d, .string s, .int .i64 v] 30)).alloc (by rw [alloc_size]; exact Nat.le_succ _) (.cells #[.int .i64 0, .bool false, .string (⟨#[]⟩ : ByteArray), .slice none 0 0] 26)))
      have HZ := hid HI.out.2
      obtain ⟨k1, rfl⟩ : ∃ k1, gk = k1 + 1 := ⟨gk - 1, by have := HG.out; omega⟩
      clear hlt HSZ0
      by_cases h0 : d = 0
      · subst h0
        go_wp2_with fail
        refine (Put_any base Tb n t s v _ HW.out.tree HSZ.out (by have := HZ.out.2.1; have := HLL.out; have := HL.out; omega)).mono ?_
        rintro e w2 ⟨rfl, t', hraw, hT, hF⟩
        have H2 := hid (HW.out.turned hT hF)
        have HS : Hid (stepT (n, t.raw) (0, s, v) = ((putT s v (n, t.raw)).1, t'.raw) ∧ tellT (n, t.raw) (0, s, v) = (0, false, (⟨#[]⟩ : ByteArray), []) ∧ Okt (i + 1) t'.raw ∧ -((i : Int) + 1) ≤ (putT s v (n, t.raw)).1 ∧ (putT s v (n, t.raw)).1 ≤ (i : Int) + 1) := by
          rw [hraw]
          exact hid ⟨rfl, rfl, HZ.out.1.put HZ.out.2.1 HSZ.out⟩
        have hX : Blk w2 (wr.heap.size + 1) #[(.int .i64 0), (.bool false), (.string (⟨#[]⟩ : ByteArray)), (.slice none 0 0)] 26 := by
          have h0_ := (Blk.new (wr.alloc (.cells #[.int .i64 0, .string s, .int .i64 v] 30)) #[.int .i64 0, .bool false, .string (⟨#[]⟩ : ByteArray), .slice none 0 0] 26)
          rw [alloc_size] at h0_
          exact h0_.fr hF (fun e => by
            obtain ⟨_, cs, t2, hc, ht⟩ := e
            rw [h0_] at hc
            injection hc with hc
            injection hc with _ hc _
            rcases ht with e2 | e2 <;> rw [e2] at hc <;> exact absurd hc (by decide))
        have e0 : w2.cell? ⟨wr.heap.size + 1, 0, none⟩ = some ((.int .i64 0)) := hX.cell 0
        have e1 : w2.cell? ⟨wr.heap.size + 1, 1, none⟩ = some ((.bool false)) := hX.cell 1
        have e2 : w2.cell? ⟨wr.heap.size + 1, 2, none⟩ = some ((.string (⟨#[]⟩ : ByteArray))) := hX.cell 2
        have e3 : w2.cell? ⟨wr.heap.size + 1, 3, none⟩ = some ((.slice none 0 0)) := hX.cell 3
        clear hT hF hraw hX x0 x1 x2
        go_wp2_with (first | (at_builtin; go_loud (refine Kd.S_append sayK (w0 := w2) (W := w2) w.heap.size rfl (.tmp 75) (.tmp 77) 35 26 (.agg #[(.int .i64 0), (.bool false), (.string (⟨#[]⟩ : ByteArray)), (.slice none 0 0)]) 56 rfl Try.underlying35 infoSay rfl (by decide) (by omega) u5 rs (0, false, (⟨#[]⟩ : ByteArray), []) [(.int .i64 0), (.bool false), (.string (⟨#[]⟩ : ByteArray)), (.slice none 0 0)] (fun _ => True) (fun _ => False) rfl rfl (say_flat _ _ _ _ _) (fun _ hk => hk.elim) ?aF ?aO ?aB ?aS ?aL ?_; (case aF => exact fun _ _ => trivial); (case aO => exact (Kd.S_mono H2.out.row (fun _ hk => ⟨hk, fun h => h⟩))); (case aB => exact (Below.refl _ _)); (case aS => exact H2.out.fr.size); (case aL => have h1 := HZ.out.2.2.1; have h2 := HL.out; have h3 := HLL.out; omega); intro v1 w3 ho hb hg hat)))
        have HE := hid (H2.out.append ho hg)
        clear ho hb hg hat e0 e1 e2 e3
        go_wp2_with fail
        go_roundg k1
        case measure => omega
        case rel => exact ⟨i + 1, (putT s v (n, t.raw)).1, t', rs ++ [(0, false, (⟨#[]⟩ : ByteArray), [])], rfl, HL.out, by have := HG.out; show k1 + (i + 1) = _; omega, HE.out, HS.out.2.2.1, by have := HS.out.2.2.2; omega, by rw [List.length_append, HZ.out.2.2.1]; rfl, by rw [← HZ.out.2.2.2.1, HX.out, List.append_assoc]; show _ = rs ++ (tellT _ _ :: toldT (stepT _ _) _); rw [HS.out.1, HS.out.2.1]; rfl, by rw [← HZ.out.2.2.2.2, HX.out]; show _ = runT (stepT _ _) _; rw [HS.out.1]⟩
      · by_cases h1 : d = 1
        · subst h1
          go_wp2_with fail
          refine (Remove_any base Tb n t s _ HW.out.tree HSZ.out (by have := HZ.out.2.1; have := HLL.out; have := HL.out; omega)).mono ?_
          rintro e w2 ⟨rfl, t', hraw, hT, hF⟩
          have H2 := hid (HW.out.turned hT hF)
          have HS : Hid (stepT (n, t.raw) (1, s, v) = ((remT s (n, t.raw)).1, t'.raw) ∧ tellT (n, t.raw) (1, s, v) = (0, false, (⟨#[]⟩ : ByteArray), []) ∧ Okt (i + 1) t'.raw ∧ -((i : Int) + 1) ≤ (remT s (n, t.raw)).1 ∧ (remT s (n, t.raw)).1 ≤ (i : Int) + 1) := by
            rw [hraw]
            exact hid ⟨rfl, rfl, HZ.out.1.rem HZ.out.2.1⟩
          have hX : Blk w2 (wr.heap.size + 1) #[(.int .i64 0), (.bool false), (.string (⟨#[]⟩ : ByteArray)), (.slice none 0 0)] 26 := by
            have h0_ := (Blk.new (wr.alloc (.cells #[.int .i64 1, .string s, .int .i64 v] 30)) #[.int .i64 0, .bool false, .string (⟨#[]⟩ : ByteArray), .slice none 0 0] 26)
            rw [alloc_size] at h0_
            exact h0_.fr hF (fun e => by
              obtain ⟨_, cs, t2, hc, ht⟩ := e
              rw [h0_] at hc
              injection hc with hc
              injection hc with _ hc _
              rcases ht with e2 | e2 <;> rw [e2] at hc <;> exact absurd hc (by decide))
          have e0 : w2.cell? ⟨wr.heap.size + 1, 0, none⟩ = some ((.int .i64 0)) := hX.cell 0
          have e1 : w2.cell? ⟨wr.heap.size + 1, 1, none⟩ = some ((.bool false)) := hX.cell 1
          have e2 : w2.cell? ⟨wr.heap.size + 1, 2, none⟩ = some ((.string (⟨#[]⟩ : ByteArray))) := hX.cell 2
          have e3 : w2.cell? ⟨wr.heap.size + 1, 3, none⟩ = some ((.slice none 0 0)) := hX.cell 3
          clear hT hF hraw hX x0 x1 x2
          go_wp2_with (first | (at_builtin; go_loud (refine Kd.S_append sayK (w0 := w2) (W := w2) w.heap.size rfl (.tmp 75) (.tmp 77) 35 26 (.agg #[(.int .i64 0), (.bool false), (.string (⟨#[]⟩ : ByteArray)), (.slice none 0 0)]) 56 rfl Try.underlying35 infoSay rfl (by decide) (by omega) u5 rs (0, false, (⟨#[]⟩ : ByteArray), []) [(.int .i64 0), (.bool false), (.string (⟨#[]⟩ : ByteArray)), (.slice none 0 0)] (fun _ => True) (fun _ => False) rfl rfl (say_flat _ _ _ _ _) (fun _ hk => hk.elim) ?aF ?aO ?aB ?aS ?aL ?_; (case aF => exact fun _ _ => trivial); (case aO => exact (Kd.S_mono H2.out.row (fun _ hk => ⟨hk, fun h => h⟩))); (case aB => exact (Below.refl _ _)); (case aS => exact H2.out.fr.size); (case aL => have h1 := HZ.out.2.2.1; have h2 := HL.out; have h3 := HLL.out; omega); intro v1 w3 ho hb hg hat)))
          have HE := hid (H2.out.append ho hg)
          clear ho hb hg hat e0 e1 e2 e3
          go_wp2_with fail
          go_roundg k1
          case measure => omega
          case rel => exact ⟨i + 1, (remT s (n, t.raw)).1, t', rs ++ [(0, false, (⟨#[]⟩ : ByteArray), [])], rfl, HL.out, by have := HG.out; show k1 + (i + 1) = _; omega, HE.out, HS.out.2.2.1, by have := HS.out.2.2.2; omega, by rw [List.length_append, HZ.out.2.2.1]; rfl, by rw [← HZ.out.2.2.2.1, HX.out, List.append_assoc]; show _ = rs ++ (tellT _ _ :: toldT (stepT _ _) _); rw [HS.out.1, HS.out.2.1]; rfl, by rw [← HZ.out.2.2.2.2, HX.out]; show _ = runT (stepT _ _) _; rw [HS.out.1]⟩
        · by_cases h2 : d = 2
          · subst h2
            go_wp2_with fail
            refine (Get_any base Tb n t s _ HW.out.tree HSZ.out).mono ?_
            rintro e w2 ⟨rfl, rfl⟩
            have hB2 : Below wr.heap.size wr ((wr.alloc (.cells #[.int .i64 2, .string s, .int .i64 v] 30)).alloc (.cells #[.int .i64 0, .bool false, .string (⟨#[]⟩ : ByteArray), .slice none 0 0] 26)) := (((Below.refl _ _).alloc (Nat.le_refl _) _).alloc (by rw [alloc_size]; exact Nat.le_succ _) _)
            have hX0 : Blk ((wr.alloc (.cells #[.int .i64 2, .string s, .int .i64 v] 30)).alloc (.cells #[.int .i64 0, .bool false, .string (⟨#[]⟩ : ByteArray), .slice none 0 0] 26)) (wr.heap.size + 1) #[(.int .i64 0), (.bool false), (.string (⟨#[]⟩ : ByteArray)), (.slice none 0 0)] 26 := by
              have h0_ := (Blk.new (wr.alloc (.cells #[.int .i64 2, .string s, .int .i64 v] 30)) #[.int .i64 0, .bool false, .string (⟨#[]⟩ : ByteArray), .slice none 0 0] 26)
              rw [alloc_size] at h0_
              exact h0_
            generalize ((wr.alloc (.cells #[.int .i64 2, .string s, .int .i64 v] 30)).alloc (.cells #[.int .i64 0, .bool false, .string (⟨#[]⟩ : ByteArray), .slice none 0 0] 26)) = W2 at hB2 hX0 ⊢
            have g0 : W2.cell? ⟨wr.heap.size + 1, 0, none⟩ = some (.int .i64 0) := hX0.cell 0
            have f0 : W2.frozen? ⟨wr.heap.size + 1, 0, none⟩ = false := hX0.free 0
            have g1 : W2.cell? ⟨wr.heap.size + 1, 1, none⟩ = some (.bool false) := hX0.cell 1
            have f1 : W2.frozen? ⟨wr.heap.size + 1, 1, none⟩ = false := hX0.free 1
            have HQ := hid (And.intro hX0 hB2)
            clear hX0 hB2 x0 x1 x2 HW
            go_upto_region 23 with fail
            obtain ⟨hX0, hB2⟩ := HQ.out
            have H2 : Hid (Inv base Tb w n t u5 rs ((W2.setCell ⟨wr.heap.size + 1, 0, none⟩ (.int .i64 (got t.raw (wd s)).1)).setCell ⟨wr.heap.size + 1, 1, none⟩ (.bool (got t.raw (wd s)).2))) := hid (HI.out.1.below ((hB2.setCell (p := ⟨wr.heap.size + 1, 0, none⟩) (Nat.le_succ _) (.int .i64 (got t.raw (wd s)).1)).setCell (p := ⟨wr.heap.size + 1, 1, none⟩) (Nat.le_succ _) (.bool (got t.raw (wd s)).2)))
            have hX : Blk ((W2.setCell ⟨wr.heap.size + 1, 0, none⟩ (.int .i64 (got t.raw (wd s)).1)).setCell ⟨wr.heap.size + 1, 1, none⟩ (.bool (got t.raw (wd s)).2)) (wr.heap.size + 1) #[(.int .i64 (got t.raw (wd s)).1), (.bool (got t.raw (wd s)).2), (.string (⟨#[]⟩ : ByteArray)), (.slice none 0 0)] 26 := ((hX0.set 0 (.int .i64 (got t.raw (wd s)).1)).set 1 (.bool (got t.raw (wd s)).2))
            have e0 : ((W2.setCell ⟨wr.heap.size + 1, 0, none⟩ (.int .i64 (got t.raw (wd s)).1)).setCell ⟨wr.heap.size + 1, 1, none⟩ (.bool (got t.raw (wd s)).2)).cell? ⟨wr.heap.size + 1, 0, none⟩ = some ((.int .i64 (got t.raw (wd s)).1)) := hX.cell 0
            have e1 : ((W2.setCell ⟨wr.heap.size + 1, 0, none⟩ (.int .i64 (got t.raw (wd s)).1)).setCell ⟨wr.heap.size + 1, 1, none⟩ (.bool (got t.raw (wd s)).2)).cell? ⟨wr.heap.size + 1, 1, none⟩ = some ((.bool (got t.raw (wd s)).2)) := hX.cell 1
            have e2 : ((W2.setCell ⟨wr.heap.size + 1, 0, none⟩ (.int .i64 (got t.raw (wd s)).1)).setCell ⟨wr.heap.size + 1, 1, none⟩ (.bool (got t.raw (wd s)).2)).cell? ⟨wr.heap.size + 1, 2, none⟩ = some ((.string (⟨#[]⟩ : ByteArray))) := hX.cell 2
            have e3 : ((W2.setCell ⟨wr.heap.size + 1, 0, none⟩ (.int .i64 (got t.raw (wd s)).1)).setCell ⟨wr.heap.size + 1, 1, none⟩ (.bool (got t.raw (wd s)).2)).cell? ⟨wr.heap.size + 1, 3, none⟩ = some ((.slice none 0 0)) := hX.cell 3
            clear hX hX0 hB2 HQ f0 g0 f1 g1
            generalize ((W2.setCell ⟨wr.heap.size + 1, 0, none⟩ (.int .i64 (got t.raw (wd s)).1)).setCell ⟨wr.heap.size + 1, 1, none⟩ (.bool (got t.raw (wd s)).2)) = w2 at H2 e0 e1 e2 e3 ⊢
            have HS : Hid (stepT (n, t.raw) (2, s, v) = (n, t.raw) ∧ tellT (n, t.raw) (2, s, v) = ((got t.raw (wd s)).1, (got t.raw (wd s)).2, (⟨#[]⟩ : ByteArray), []) ∧ Okt (i + 1) t.raw ∧ -((i : Int) + 1) ≤ n ∧ n ≤ (i : Int) + 1) := hid ⟨rfl, rfl, HZ.out.1.more, by have := HZ.out.2.1; omega, by have := HZ.out.2.1; omega⟩
            go_wp2_with (first | (at_builtin; go_loud (refine Kd.S_append sayK (w0 := w2) (W := w2) w.heap.size rfl (.tmp 75) (.tmp 77) 35 26 (.agg #[(.int .i64 0), (.bool false), (.string (⟨#[]⟩ : ByteArray)), (.slice none 0 0)]) 56 rfl Try.underlying35 infoSay rfl (by decide) (by omega) u5 rs ((got t.raw (wd s)).1, (got t.raw (wd s)).2, (⟨#[]⟩ : ByteArray), []) [(.int .i64 (got t.raw (wd s)).1), (.bool (got t.raw (wd s)).2), (.string (⟨#[]⟩ : ByteArray)), (.slice none 0 0)] (fun _ => True) (fun _ => False) rfl rfl (say_flat _ _ _ _ _) (fun _ hk => hk.elim) ?aF ?aO ?aB ?aS ?aL ?_; (case aF => exact fun _ _ => trivial); (case aO => exact (Kd.S_mono H2.out.row (fun _ hk => ⟨hk, fun h => h⟩))); (case aB => exact (Below.refl _ _)); (case aS => exact H2.out.fr.size); (case aL => have h1 := HZ.out.2.2.1; have h2 := HL.out; have h3 := HLL.out; omega); intro v1 w3 ho hb hg hat)))
            have HE := hid (H2.out.append ho hg)
            clear ho hb hg hat e0 e1 e2 e3
            go_wp2_with fail
            go_roundg k1
            case measure => omega
            case rel => exact ⟨i + 1, n, t, rs ++ [((got t.raw (wd s)).1, (got t.raw (wd s)).2, (⟨#[]⟩ : ByteArray), [])], rfl, HL.out, by have := HG.out; show k1 + (i + 1) = _; omega, HE.out, HS.out.2.2.1, by have := HS.out.2.2.2; omega, by rw [List.length_append, HZ.out.2.2.1]; rfl, by rw [← HZ.out.2.2.2.1, HX.out, List.append_assoc]; show _ = rs ++ (tellT _ _ :: toldT (stepT _ _) _); rw [HS.out.1, HS.out.2.1]; rfl, by rw [← HZ.out.2.2.2.2, HX.out]; show _ = runT (stepT _ _) _; rw [HS.out.1]⟩
          · by_cases h3 : d = 3
            · subst h3
              go_wp2_with fail
              refine (Contains_any base Tb n t s _ HW.out.tree HSZ.out).mono ?_
              rintro e w2 ⟨rfl, rfl⟩
              have hB2 : Below wr.heap.size wr ((wr.alloc (.cells #[.int .i64 3, .string s, .int .i64 v] 30)).alloc (.cells #[.int .i64 0, .bool false, .string (⟨#[]⟩ : ByteArray), .slice none 0 0] 26)) := (((Below.refl _ _).alloc (Nat.le_refl _) _).alloc (by rw [alloc_size]; exact Nat.le_succ _) _)
              have hX0 : Blk ((wr.alloc (.cells #[.int .i64 3, .string s, .int .i64 v] 30)).alloc (.cells #[.int .i64 0, .bool false, .string (⟨#[]⟩ : ByteArray), .slice none 0 0] 26)) (wr.heap.size + 1) #[(.int .i64 0), (.bool false), (.string (⟨#[]⟩ : ByteArray)), (.slice none 0 0)] 26 := by
                have h0_ := (Blk.new (wr.alloc (.cells #[.int .i64 3, .string s, .int .i64 v] 30)) #[.int .i64 0, .bool false, .string (⟨#[]⟩ : ByteArray), .slice none 0 0] 26)
                rw [alloc_size] at h0_
                exact h0_
              generalize ((wr.alloc (.cells #[.int .i64 3, .string s, .int .i64 v] 30)).alloc (.cells #[.int .i64 0, .bool false, .string (⟨#[]⟩ : ByteArray), .slice none 0 0] 26)) = W2 at hB2 hX0 ⊢
              have g1 : W2.cell? ⟨wr.heap.size + 1, 1, none⟩ = some (.bool false) := hX0.cell 1
              have f1 : W2.frozen? ⟨wr.heap.size + 1, 1, none⟩ = false := hX0.free 1
              have HQ := hid (And.intro hX0 hB2)
              clear hX0 hB2 x0 x1 x2 HW
              go_upto_region 23 with fail
              obtain ⟨hX0, hB2⟩ := HQ.out
              have H2 : Hid (Inv base Tb w n t u5 rs (W2.setCell ⟨wr.heap.size + 1, 1, none⟩ (.bool (got t.raw (wd s)).2))) := hid (HI.out.1.below (hB2.setCell (p := ⟨wr.heap.size + 1, 1, none⟩) (Nat.le_succ _) (.bool (got t.raw (wd s)).2)))
              have hX : Blk (W2.setCell ⟨wr.heap.size + 1, 1, none⟩ (.bool (got t.raw (wd s)).2)) (wr.heap.size + 1) #[(.int .i64 0), (.bool (got t.raw (wd s)).2), (.string (⟨#[]⟩ : ByteArray)), (.slice none 0 0)] 26 := (hX0.set 1 (.bool (got t.raw (wd s)).2))
              have e0 : (W2.setCell ⟨wr.heap.size + 1, 1, none⟩ (.bool (got t.raw (wd s)).2)).cell? ⟨wr.heap.size + 1, 0, none⟩ = some ((.int .i64 0)) := hX.cell 0
              have e1 : (W2.setCell ⟨wr.heap.size + 1, 1, none⟩ (.bool (got t.raw (wd s)).2)).cell? ⟨wr.heap.size + 1, 1, none⟩ = some ((.bool (got t.raw (wd s)).2)) := hX.cell 1
              have e2 : (W2.setCell ⟨wr.heap.size + 1, 1, none⟩ (.bool (got t.raw (wd s)).2)).cell? ⟨wr.heap.size + 1, 2, none⟩ = some ((.string (⟨#[]⟩ : ByteArray))) := hX.cell 2
              have e3 : (W2.setCell ⟨wr.heap.size + 1, 1, none⟩ (.bool (got t.raw (wd s)).2)).cell? ⟨wr.heap.size + 1, 3, none⟩ = some ((.slice none 0 0)) := hX.cell 3
              clear hX hX0 hB2 HQ f1 g1
              generalize (W2.setCell ⟨wr.heap.size + 1, 1, none⟩ (.bool (got t.raw (wd s)).2)) = w2 at H2 e0 e1 e2 e3 ⊢
              have HS : Hid (stepT (n, t.raw) (3, s, v) = (n, t.raw) ∧ tellT (n, t.raw) (3, s, v) = (0, (got t.raw (wd s)).2, (⟨#[]⟩ : ByteArray), []) ∧ Okt (i + 1) t.raw ∧ -((i : Int) + 1) ≤ n ∧ n ≤ (i : Int) + 1) := hid ⟨rfl, rfl, HZ.out.1.more, by have := HZ.out.2.1; omega, by have := HZ.out.2.1; omega⟩
              go_wp2_with (first | (at_builtin; go_loud (refine Kd.S_append sayK (w0 := w2) (W := w2) w.heap.size rfl (.tmp 75) (.tmp 77) 35 26 (.agg #[(.int .i64 0), (.bool false), (.string (⟨#[]⟩ : ByteArray)), (.slice none 0 0)]) 56 rfl Try.underlying35 infoSay rfl (by decide) (by omega) u5 rs (0, (got t.raw (wd s)).2, (⟨#[]⟩ : ByteArray), []) [(.int .i64 0), (.bool (got t.raw (wd s)).2), (.string (⟨#[]⟩ : ByteArray)), (.slice none 0 0)] (fun _ => True) (fun _ => False) rfl rfl (say_flat _ _ _ _ _) (fun _ hk => hk.elim) ?aF ?aO ?aB ?aS ?aL ?_; (case aF => exact fun _ _ => trivial); (case aO => exact (Kd.S_mono H2.out.row (fun _ hk => ⟨hk, fun h => h⟩))); (case aB => exact (Below.refl _ _)); (case aS => exact H2.out.fr.size); (case aL => have h1 := HZ.out.2.2.1; have h2 := HL.out; have h3 := HLL.out; omega); intro v1 w3 ho hb hg hat)))
              have HE := hid (H2.out.append ho hg)
              clear ho hb hg hat e0 e1 e2 e3
              go_wp2_with fail
              go_roundg k1
              case measure => omega
              case rel => exact ⟨i + 1, n, t, rs ++ [(0, (got t.raw (wd s)).2, (⟨#[]⟩ : ByteArray), [])], rfl, HL.out, by have := HG.out; show k1 + (i + 1) = _; omega, HE.out, HS.out.2.2.1, by have := HS.out.2.2.2; omega, by rw [List.length_append, HZ.out.2.2.1]; rfl, by rw [← HZ.out.2.2.2.1, HX.out, List.append_assoc]; show _ = rs ++ (tellT _ _ :: toldT (stepT _ _) _); rw [HS.out.1, HS.out.2.1]; rfl, by rw [← HZ.out.2.2.2.2, HX.out]; show _ = runT (stepT _ _) _; rw [HS.out.1]⟩
            · by_cases h4 : d = 4
              · subst h4
                go_wp2_with fail
                refine (Keys_any base Tb n t _ HW.out.tree (HZ.out.1.fit (by have := HLL.out; have := HL.out; omega))).mono ?_
                rintro e w2 ⟨q, rfl, hq, hb⟩
                rw [alloc_size, alloc_size] at hq hb
                have hB2 : Below wr.heap.size wr w2 := (((Below.refl _ _).alloc (Nat.le_refl _) _).alloc (by rw [alloc_size]; exact Nat.le_succ _) _).trans ⟨hb.os, hb.tape, hb.output, hb.size, fun k hk => hb.block k (by omega)⟩
                have hX0 : Blk w2 (wr.heap.size + 1) #[(.int .i64 0), (.bool false), (.string (⟨#[]⟩ : ByteArray)), (.slice none 0 0)] 26 := by
                  have h0_ := (Blk.new (wr.alloc (.cells #[.int .i64 4, .string s, .int .i64 v] 30)) #[.int .i64 0, .bool false, .string (⟨#[]⟩ : ByteArray), .slice none 0 0] 26)
                  rw [alloc_size] at h0_
                  exact h0_.below hb (Nat.lt_succ_self _)
                obtain ⟨Aq, cq, rfl, hcq, hCq⟩ := Kd.R_reads hq
                have HC2 := hid hCq
                have HB2 := hid hB2
                have HX2 := hid hX0
                have HLN : Hid ((keysT t.raw).length ≤ 1099511627777) := hid (by have h1 := (show (keysT t.raw).length ≤ i from by unfold keysT; rw [texts_len]; exact HZ.out.1.many); have h2 := HLL.out; have h3 := HL.out; omega)
                clear hcq hCq hB2 hX0 hq hb x0 x1 x2 HW
                go_upto_region 23 with ((with_reducible refine gate_builtin (b := .append) (xs := #[.const (.slice none 0 0), .tmp 52]) rfl ?_); at_builtin; go_loud (refine Kd.R_append_rows Kd.string (w0 := w2) (wr.heap.size + 2) rfl (.const (.slice none 0 0)) (.tmp 52) 24 9 (.string (⟨#[]⟩ : ByteArray)) 16 rfl Try.underlying24 info9 rfl (by decide) (by omega) (.slice none 0 0) [] (keysT t.raw) Aq (keysT t.raw).length cq (fun _ => True) (fun _ => False) rfl rfl (Kd.R_nil _ _ _ _ _) HC2.out (fun _ _ h => h) (fun _ h => h.elim) (fun _ _ => trivial) (Below.refl _ _) (by have h_ := HX2.out.lt; omega) (by have h_ := HLN.out; rw [List.length_nil]; omega) ?_; intro v1 w3 ho hb hg hat; rw [List.nil_append] at ho; obtain ⟨A1, c1, rfl⟩ := Kd.R_slice ho; have HO := hid ho; have HB3 := hid hb; have HX3 := hid (HX2.out.below hb (by omega)); have d3 : w3.cell? ⟨wr.heap.size + 1, 3, none⟩ = some (.slice none 0 0) := HX3.out.cell 3; have f3 : w3.frozen? ⟨wr.heap.size + 1, 3, none⟩ = false := HX3.out.free 3; clear ho hb hg hat HC2 HX2))
                have hB4 : Below wr.heap.size wr (w3.setCell ⟨wr.heap.size + 1, 3, none⟩ (.slice A1 (keysT t.raw).length c1)) := (HB2.out.trans ⟨HB3.out.os, HB3.out.tape, HB3.out.output, HB3.out.size, fun k hk => HB3.out.block k (by omega)⟩).setCell (p := ⟨wr.heap.size + 1, 3, none⟩) (Nat.le_succ _) _
                have hX : Blk (w3.setCell ⟨wr.heap.size + 1, 3, none⟩ (.slice A1 (keysT t.raw).length c1)) (wr.heap.size + 1) #[.int .i64 0, .bool false, .string (⟨#[]⟩ : ByteArray), .slice A1 (keysT t.raw).length c1] 26 := HX3.out.set 3 _
                have hK : Kd.string.R 9 (w3.setCell ⟨wr.heap.size + 1, 3, none⟩ (.slice A1 (keysT t.raw).length c1)) (wr.heap.size + 2) (fun k => k ≠ wr.heap.size + 1) (.slice A1 (keysT t.raw).length c1) (keysT t.raw) := Kd.R_far (p := ⟨wr.heap.size + 1, 3, none⟩) (Kd.R_reok (ok := fun k => k ≠ wr.heap.size + 1) rfl HO.out (fun k hk => by have := Kd.R_base HO.out k hk; omega)) (fun _ h => h) _
                generalize w3.setCell ⟨wr.heap.size + 1, 3, none⟩ (.slice A1 (keysT t.raw).length c1) = w4 at hB4 hX hK ⊢
                clear HB3 HO HX3 HB2 d3 f3
                have H2 := hid (HI.out.1.below hB4)
                have HU : Hid (∀ k_, u5.ownBlock = some k_ → k_ < wr.heap.size) := hid (fun k_ hk => (Kd.S_lt HI.out.1.row k_ hk))
                have HS2 : Hid (Kd.S sayK 26 w4 w.heap.size (fun k_ => True ∧ ¬ wr.heap.size + 2 ≤ k_) u5 rs) := hid (Kd.S_below (Kd.S_mono (Kd.S_bound HI.out.1.row) (fun k_ hk => ⟨trivial, by have := hk.2.2.1; omega⟩)) hB4)
                have HM := hid (say_rows (base := w.heap.size) (by have h1 := HI.out.1.fr.size; omega) hK 0 false (⟨#[]⟩ : ByteArray))
                have e0 : w4.cell? ⟨wr.heap.size + 1, 0, none⟩ = some ((.int .i64 0)) := hX.cell 0
                have e1 : w4.cell? ⟨wr.heap.size + 1, 1, none⟩ = some ((.bool false)) := hX.cell 1
                have e2 : w4.cell? ⟨wr.heap.size + 1, 2, none⟩ = some ((.string (⟨#[]⟩ : ByteArray))) := hX.cell 2
                have e3 : w4.cell? ⟨wr.heap.size + 1, 3, none⟩ = some ((.slice A1 (keysT t.raw).length c1)) := hX.cell 3
                clear hX hK hB4
                have HS : Hid (stepT (n, t.raw) (4, s, v) = (n, t.raw) ∧ tellT (n, t.raw) (4, s, v) = (0, false, (⟨#[]⟩ : ByteArray), keysT t.raw) ∧ Okt (i + 1) t.raw ∧ -((i : Int) + 1) ≤ n ∧ n ≤ (i : Int) + 1) := hid ⟨rfl, rfl, HZ.out.1.more, by have := HZ.out.2.1; omega, by have := HZ.out.2.1; omega⟩
                go_wp2_with (first | (at_builtin; go_loud (refine Kd.S_append sayK (w0 := w4) (W := w4) w.heap.size rfl (.tmp 75) (.tmp 77) 35 26 (.agg #[(.int .i64 0), (.bool false), (.string (⟨#[]⟩ : ByteArray)), (.slice none 0 0)]) 56 rfl Try.underlying35 infoSay rfl (by decide) (by omega) u5 rs (0, false, (⟨#[]⟩ : ByteArray), keysT t.raw) [(.int .i64 0), (.bool false), (.string (⟨#[]⟩ : ByteArray)), (.slice A1 (keysT t.raw).length c1)] (fun _ => True) (fun k_ => wr.heap.size + 2 ≤ k_) rfl rfl HM.out (fun k_ hk => ⟨trivial, fun e_ => by have := HU.out k_ e_.symm; omega⟩) ?aF ?aO ?aB ?aS ?aL ?_; (case aF => exact fun _ _ => trivial); (case aO => exact HS2.out); (case aB => exact (Below.refl _ _)); (case aS => exact H2.out.fr.size); (case aL => have h1 := HZ.out.2.2.1; have h2 := HL.out; have h3 := HLL.out; omega); intro v1 w3 ho hb hg hat)))
                have HE := hid (H2.out.append ho hg)
                clear ho hb hg hat e0 e1 e2 e3
                go_wp2_with fail
                go_roundg k1
                case measure => omega
                case rel => exact ⟨i + 1, n, t, rs ++ [(0, false, (⟨#[]⟩ : ByteArray), keysT t.raw)], rfl, HL.out, by have := HG.out; show k1 + (i + 1) = _; omega, HE.out, HS.out.2.2.1, by have := HS.out.2.2.2; omega, by rw [List.length_append, HZ.out.2.2.1]; rfl, by rw [← HZ.out.2.2.2.1, HX.out, List.append_assoc]; show _ = rs ++ (tellT _ _ :: toldT (stepT _ _) _); rw [HS.out.1, HS.out.2.1]; rfl, by rw [← HZ.out.2.2.2.2, HX.out]; show _ = runT (stepT _ _) _; rw [HS.out.1]⟩
              · by_cases h5 : d = 5
                · subst h5
                  go_wp2_with fail
                  refine (Prefix_any base Tb n t s _ HW.out.tree (HZ.out.1.fit (by have := HLL.out; have := HL.out; omega)) HSZ.out).mono ?_
                  rintro e w2 ⟨q, rfl, hq, hb⟩
                  rw [alloc_size, alloc_size] at hq hb
                  have hB2 : Below wr.heap.size wr w2 := (((Below.refl _ _).alloc (Nat.le_refl _) _).alloc (by rw [alloc_size]; exact Nat.le_succ _) _).trans ⟨hb.os, hb.tape, hb.output, hb.size, fun k hk => hb.block k (by omega)⟩
                  have hX0 : Blk w2 (wr.heap.size + 1) #[(.int .i64 0), (.bool false), (.string (⟨#[]⟩ : ByteArray)), (.slice none 0 0)] 26 := by
                    have h0_ := (Blk.new (wr.alloc (.cells #[.int .i64 5, .string s, .int .i64 v] 30)) #[.int .i64 0, .bool false, .string (⟨#[]⟩ : ByteArray), .slice none 0 0] 26)
                    rw [alloc_size] at h0_
                    exact h0_.below hb (Nat.lt_succ_self _)
                  obtain ⟨Aq, cq, rfl, hcq, hCq⟩ := Kd.R_reads hq
                  have HC2 := hid hCq
                  have HB2 := hid hB2
                  have HX2 := hid hX0
                  have HLN : Hid ((keysOf t.raw s).length ≤ 1099511627777) := hid (by have h1 := keysOf_len HZ.out.1 s; have h2 := HLL.out; have h3 := HL.out; omega)
                  clear hcq hCq hB2 hX0 hq hb x0 x1 x2 HW
                  go_upto_region 23 with ((with_reducible refine gate_builtin (b := .append) (xs := #[.const (.slice none 0 0), .tmp 60]) rfl ?_); at_builtin; go_loud (refine Kd.R_append_rows Kd.string (w0 := w2) (wr.heap.size + 2) rfl (.const (.slice none 0 0)) (.tmp 60) 24 9 (.string (⟨#[]⟩ : ByteArray)) 16 rfl Try.underlying24 info9 rfl (by decide) (by omega) (.slice none 0 0) [] (keysOf t.raw s) Aq (keysOf t.raw s).length cq (fun _ => True) (fun _ => False) rfl rfl (Kd.R_nil _ _ _ _ _) HC2.out (fun _ _ h => h) (fun _ h => h.elim) (fun _ _ => trivial) (Below.refl _ _) (by have h_ := HX2.out.lt; omega) (by have h_ := HLN.out; rw [List.length_nil]; omega) ?_; intro v1 w3 ho hb hg hat; rw [List.nil_append] at ho; obtain ⟨A1, c1, rfl⟩ := Kd.R_slice ho; have HO := hid ho; have HB3 := hid hb; have HX3 := hid (HX2.out.below hb (by omega)); have d3 : w3.cell? ⟨wr.heap.size + 1, 3, none⟩ = some (.slice none 0 0) := HX3.out.cell 3; have f3 : w3.frozen? ⟨wr.heap.size + 1, 3, none⟩ = false := HX3.out.free 3; clear ho hb hg hat HC2 HX2))
                  have hB4 : Below wr.heap.size wr (w3.setCell ⟨wr.heap.size + 1, 3, none⟩ (.slice A1 (keysOf t.raw s).length c1)) := (HB2.out.trans ⟨HB3.out.os, HB3.out.tape, HB3.out.output, HB3.out.size, fun k hk => HB3.out.block k (by omega)⟩).setCell (p := ⟨wr.heap.size + 1, 3, none⟩) (Nat.le_succ _) _
                  have hX : Blk (w3.setCell ⟨wr.heap.size + 1, 3, none⟩ (.slice A1 (keysOf t.raw s).length c1)) (wr.heap.size + 1) #[.int .i64 0, .bool false, .string (⟨#[]⟩ : ByteArray), .slice A1 (keysOf t.raw s).length c1] 26 := HX3.out.set 3 _
                  have hK : Kd.string.R 9 (w3.setCell ⟨wr.heap.size + 1, 3, none⟩ (.slice A1 (keysOf t.raw s).length c1)) (wr.heap.size + 2) (fun k => k ≠ wr.heap.size + 1) (.slice A1 (keysOf t.raw s).length c1) (keysOf t.raw s) := Kd.R_far (p := ⟨wr.heap.size + 1, 3, none⟩) (Kd.R_reok (ok := fun k => k ≠ wr.heap.size + 1) rfl HO.out (fun k hk => by have := Kd.R_base HO.out k hk; omega)) (fun _ h => h) _
                  generalize w3.setCell ⟨wr.heap.size + 1, 3, none⟩ (.slice A1 (keysOf t.raw s).length c1) = w4 at hB4 hX hK ⊢
                  clear HB3 HO HX3 HB2 d3 f3
                  have H2 := hid (HI.out.1.below hB4)
                  have HU : Hid (∀ k_, u5.ownBlock = some k_ → k_ < wr.heap.size) := hid (fun k_ hk => (Kd.S_lt HI.out.1.row k_ hk))
                  have HS2 : Hid (Kd.S sayK 26 w4 w.heap.size (fun k_ => True ∧ ¬ wr.heap.size + 2 ≤ k_) u5 rs) := hid (Kd.S_below (Kd.S_mono (Kd.S_bound HI.out.1.row) (fun k_ hk => ⟨trivial, by have := hk.2.2.1; omega⟩)) hB4)
                  have HM := hid (say_rows (base := w.heap.size) (by have h1 := HI.out.1.fr.size; omega) hK 0 false (⟨#[]⟩ : ByteArray))
                  have e0 : w4.cell? ⟨wr.heap.size + 1, 0, none⟩ = some ((.int .i64 0)) := hX.cell 0
                  have e1 : w4.cell? ⟨wr.heap.size + 1, 1, none⟩ = some ((.bool false)) := hX.cell 1
                  have e2 : w4.cell? ⟨wr.heap.size + 1, 2, none⟩ = some ((.string (⟨#[]⟩ : ByteArray))) := hX.cell 2
                  have e3 : w4.cell? ⟨wr.heap.size + 1, 3, none⟩ = some ((.slice A1 (keysOf t.raw s).length c1)) := hX.cell 3
                  clear hX hK hB4
                  have HS : Hid (stepT (n, t.raw) (5, s, v) = (n, t.raw) ∧ tellT (n, t.raw) (5, s, v) = (0, false, (⟨#[]⟩ : ByteArray), keysOf t.raw s) ∧ Okt (i + 1) t.raw ∧ -((i : Int) + 1) ≤ n ∧ n ≤ (i : Int) + 1) := hid ⟨rfl, rfl, HZ.out.1.more, by have := HZ.out.2.1; omega, by have := HZ.out.2.1; omega⟩
                  go_wp2_with (first | (at_builtin; go_loud (refine Kd.S_append sayK (w0 := w4) (W := w4) w.heap.size rfl (.tmp 75) (.tmp 77) 35 26 (.agg #[(.int .i64 0), (.bool false), (.string (⟨#[]⟩ : ByteArray)), (.slice none 0 0)]) 56 rfl Try.underlying35 infoSay rfl (by decide) (by omega) u5 rs (0, false, (⟨#[]⟩ : ByteArray), keysOf t.raw s) [(.int .i64 0), (.bool false), (.string (⟨#[]⟩ : ByteArray)), (.slice A1 (keysOf t.raw s).length c1)] (fun _ => True) (fun k_ => wr.heap.size + 2 ≤ k_) rfl rfl HM.out (fun k_ hk => ⟨trivial, fun e_ => by have := HU.out k_ e_.symm; omega⟩) ?aF ?aO ?aB ?aS ?aL ?_; (case aF => exact fun _ _ => trivial); (case aO => exact HS2.out); (case aB => exact (Below.refl _ _)); (case aS => exact H2.out.fr.size); (case aL => have h1 := HZ.out.2.2.1; have h2 := HL.out; have h3 := HLL.out; omega); intro v1 w3 ho hb hg hat)))
                  have HE := hid (H2.out.append ho hg)
                  clear ho hb hg hat e0 e1 e2 e3
                  go_wp2_with fail
                  go_roundg k1
                  case measure => omega
                  case rel => exact ⟨i + 1, n, t, rs ++ [(0, false, (⟨#[]⟩ : ByteArray), keysOf t.raw s)], rfl, HL.out, by have := HG.out; show k1 + (i + 1) = _; omega, HE.out, HS.out.2.2.1, by have := HS.out.2.2.2; omega, by rw [List.length_append, HZ.out.2.2.1]; rfl, by rw [← HZ.out.2.2.2.1, HX.out, List.append_assoc]; show _ = rs ++ (tellT _ _ :: toldT (stepT _ _) _); rw [HS.out.1, HS.out.2.1]; rfl, by rw [← HZ.out.2.2.2.2, HX.out]; show _ = runT (stepT _ _) _; rw [HS.out.1]⟩
                · by_cases h6 : d = 6
                  · subst h6
                    go_wp2_with fail
                    refine (Longest_any base Tb n t s _ HW.out.tree HSZ.out).mono ?_
                    rintro e w2 ⟨rfl, rfl⟩
                    have hB2 : Below wr.heap.size wr ((wr.alloc (.cells #[.int .i64 6, .string s, .int .i64 v] 30)).alloc (.cells #[.int .i64 0, .bool false, .string (⟨#[]⟩ : ByteArray), .slice none 0 0] 26)) := (((Below.refl _ _).alloc (Nat.le_refl _) _).alloc (by rw [alloc_size]; exact Nat.le_succ _) _)
                    have hX0 : Blk ((wr.alloc (.cells #[.int .i64 6, .string s, .int .i64 v] 30)).alloc (.cells #[.int .i64 0, .bool false, .string (⟨#[]⟩ : ByteArray), .slice none 0 0] 26)) (wr.heap.size + 1) #[(.int .i64 0), (.bool false), (.string (⟨#[]⟩ : ByteArray)), (.slice none 0 0)] 26 := by
                      have h0_ := (Blk.new (wr.alloc (.cells #[.int .i64 6, .string s, .int .i64 v] 30)) #[.int .i64 0, .bool false, .string (⟨#[]⟩ : ByteArray), .slice none 0 0] 26)
                      rw [alloc_size] at h0_
                      exact h0_
                    generalize ((wr.alloc (.cells #[.int .i64 6, .string s, .int .i64 v] 30)).alloc (.cells #[.int .i64 0, .bool false, .string (⟨#[]⟩ : ByteArray), .slice none 0 0] 26)) = W2 at hB2 hX0 ⊢
                    have g2 : W2.cell? ⟨wr.heap.size + 1, 2, none⟩ = some (.string (⟨#[]⟩ : ByteArray)) := hX0.cell 2
                    have f2 : W2.frozen? ⟨wr.heap.size + 1, 2, none⟩ = false := hX0.free 2
                    have HQ := hid (And.intro hX0 hB2)
                    clear hX0 hB2 x0 x1 x2 HW
                    go_upto_region 23 with fail
                    obtain ⟨hX0, hB2⟩ := HQ.out
                    have H2 : Hid (Inv base Tb w n t u5 rs (W2.setCell ⟨wr.heap.size + 1, 2, none⟩ (.string (longS t.raw s)))) := hid (HI.out.1.below (hB2.setCell (p := ⟨wr.heap.size + 1, 2, none⟩) (Nat.le_succ _) (.string (longS t.raw s))))
                    have hX : Blk (W2.setCell ⟨wr.heap.size + 1, 2, none⟩ (.string (longS t.raw s))) (wr.heap.size + 1) #[(.int .i64 0), (.bool false), (.string (longS t.raw s)), (.slice none 0 0)] 26 := (hX0.set 2 (.string (longS t.raw s)))
                    have e0 : (W2.setCell ⟨wr.heap.size + 1, 2, none⟩ (.string (longS t.raw s))).cell? ⟨wr.heap.size + 1, 0, none⟩ = some ((.int .i64 0)) := hX.cell 0
                    have e1 : (W2.setCell ⟨wr.heap.size + 1, 2, none⟩ (.string (longS t.raw s))).cell? ⟨wr.heap.size + 1, 1, none⟩ = some ((.bool false)) := hX.cell 1
                    have e2 : (W2.setCell ⟨wr.heap.size + 1, 2, none⟩ (.string (longS t.raw s))).cell? ⟨wr.heap.size + 1, 2, none⟩ = some ((.string (longS t.raw s))) := hX.cell 2
                    have e3 : (W2.setCell ⟨wr.heap.size + 1, 2, none⟩ (.string (longS t.raw s))).cell? ⟨wr.heap.size + 1, 3, none⟩ = some ((.slice none 0 0)) := hX.cell 3
                    clear hX hX0 hB2 HQ f2 g2
                    generalize (W2.setCell ⟨wr.heap.size + 1, 2, none⟩ (.string (longS t.raw s))) = w2 at H2 e0 e1 e2 e3 ⊢
                    have HS : Hid (stepT (n, t.raw) (6, s, v) = (n, t.raw) ∧ tellT (n, t.raw) (6, s, v) = (0, false, longS t.raw s, []) ∧ Okt (i + 1) t.raw ∧ -((i : Int) + 1) ≤ n ∧ n ≤ (i : Int) + 1) := hid ⟨rfl, rfl, HZ.out.1.more, by have := HZ.out.2.1; omega, by have := HZ.out.2.1; omega⟩
                    go_wp2_with (first | (at_builtin; go_loud (refine Kd.S_append sayK (w0 := w2) (W := w2) w.heap.size rfl (.tmp 75) (.tmp 77) 35 26 (.agg #[(.int .i64 0), (.bool false), (.string (⟨#[]⟩ : ByteArray)), (.slice none 0 0)]) 56 rfl Try.underlying35 infoSay rfl (by decide) (by omega) u5 rs (0, false, longS t.raw s, []) [(.int .i64 0), (.bool false), (.string (longS t.raw s)), (.slice none 0 0)] (fun _ => True) (fun _ => False) rfl rfl (say_flat _ _ _ _ _) (fun _ hk => hk.elim) ?aF ?aO ?aB ?aS ?aL ?_; (case aF => exact fun _ _ => trivial); (case aO => exact (Kd.S_mono H2.out.row (fun _ hk => ⟨hk, fun h => h⟩))); (case aB => exact (Below.refl _ _)); (case aS => exact H2.out.fr.size); (case aL => have h1 := HZ.out.2.2.1; have h2 := HL.out; have h3 := HLL.out; omega); intro v1 w3 ho hb hg hat)))
                    have HE := hid (H2.out.append ho hg)
                    clear ho hb hg hat e0 e1 e2 e3
                    go_wp2_with fail
                    go_roundg k1
                    case measure => omega
                    case rel => exact ⟨i + 1, n, t, rs ++ [(0, false, longS t.raw s, [])], rfl, HL.out, by have := HG.out; show k1 + (i + 1) = _; omega, HE.out, HS.out.2.2.1, by have := HS.out.2.2.2; omega, by rw [List.length_append, HZ.out.2.2.1]; rfl, by rw [← HZ.out.2.2.2.1, HX.out, List.append_assoc]; show _ = rs ++ (tellT _ _ :: toldT (stepT _ _) _); rw [HS.out.1, HS.out.2.1]; rfl, by rw [← HZ.out.2.2.2.2, HX.out]; show _ = runT (stepT _ _) _; rw [HS.out.1]⟩
                  · by_cases h7 : d = 7
                    · subst h7
                      go_wp2_with fail
                      refine (Size_any base Tb n t _ HW.out.tree).mono ?_
                      rintro e w2 ⟨rfl, rfl⟩
                      have hB2 : Below wr.heap.size wr ((wr.alloc (.cells #[.int .i64 7, .string s, .int .i64 v] 30)).alloc (.cells #[.int .i64 0, .bool false, .string (⟨#[]⟩ : ByteArray), .slice none 0 0] 26)) := (((Below.refl _ _).alloc (Nat.le_refl _) _).alloc (by rw [alloc_size]; exact Nat.le_succ _) _)
                      have hX0 : Blk ((wr.alloc (.cells #[.int .i64 7, .string s, .int .i64 v] 30)).alloc (.cells #[.int .i64 0, .bool false, .string (⟨#[]⟩ : ByteArray), .slice none 0 0] 26)) (wr.heap.size + 1) #[(.int .i64 0), (.bool false), (.string (⟨#[]⟩ : ByteArray)), (.slice none 0 0)] 26 := by
                        have h0_ := (Blk.new (wr.alloc (.cells #[.int .i64 7, .string s, .int .i64 v] 30)) #[.int .i64 0, .bool false, .string (⟨#[]⟩ : ByteArray), .slice none 0 0] 26)
                        rw [alloc_size] at h0_
                        exact h0_
                      generalize ((wr.alloc (.cells #[.int .i64 7, .string s, .int .i64 v] 30)).alloc (.cells #[.int .i64 0, .bool false, .string (⟨#[]⟩ : ByteArray), .slice none 0 0] 26)) = W2 at hB2 hX0 ⊢
                      have g0 : W2.cell? ⟨wr.heap.size + 1, 0, none⟩ = some (.int .i64 0) := hX0.cell 0
                      have f0 : W2.frozen? ⟨wr.heap.size + 1, 0, none⟩ = false := hX0.free 0
                      have HQ := hid (And.intro hX0 hB2)
                      clear hX0 hB2 x0 x1 x2 HW
                      go_upto_region 23 with fail
                      obtain ⟨hX0, hB2⟩ := HQ.out
                      have H2 : Hid (Inv base Tb w n t u5 rs (W2.setCell ⟨wr.heap.size + 1, 0, none⟩ (.int .i64 n))) := hid (HI.out.1.below (hB2.setCell (p := ⟨wr.heap.size + 1, 0, none⟩) (Nat.le_succ _) (.int .i64 n)))
                      have hX : Blk (W2.setCell ⟨wr.heap.size + 1, 0, none⟩ (.int .i64 n)) (wr.heap.size + 1) #[(.int .i64 n), (.bool false), (.string (⟨#[]⟩ : ByteArray)), (.slice none 0 0)] 26 := (hX0.set 0 (.int .i64 n))
                      have e0 : (W2.setCell ⟨wr.heap.size + 1, 0, none⟩ (.int .i64 n)).cell? ⟨wr.heap.size + 1, 0, none⟩ = some ((.int .i64 n)) := hX.cell 0
                      have e1 : (W2.setCell ⟨wr.heap.size + 1, 0, none⟩ (.int .i64 n)).cell? ⟨wr.heap.size + 1, 1, none⟩ = some ((.bool false)) := hX.cell 1
                      have e2 : (W2.setCell ⟨wr.heap.size + 1, 0, none⟩ (.int .i64 n)).cell? ⟨wr.heap.size + 1, 2, none⟩ = some ((.string (⟨#[]⟩ : ByteArray))) := hX.cell 2
                      have e3 : (W2.setCell ⟨wr.heap.size + 1, 0, none⟩ (.int .i64 n)).cell? ⟨wr.heap.size + 1, 3, none⟩ = some ((.slice none 0 0)) := hX.cell 3
                      clear hX hX0 hB2 HQ f0 g0
                      generalize (W2.setCell ⟨wr.heap.size + 1, 0, none⟩ (.int .i64 n)) = w2 at H2 e0 e1 e2 e3 ⊢
                      have HS : Hid (stepT (n, t.raw) (7, s, v) = (n, t.raw) ∧ tellT (n, t.raw) (7, s, v) = (n, false, (⟨#[]⟩ : ByteArray), []) ∧ Okt (i + 1) t.raw ∧ -((i : Int) + 1) ≤ n ∧ n ≤ (i : Int) + 1) := hid ⟨rfl, rfl, HZ.out.1.more, by have := HZ.out.2.1; omega, by have := HZ.out.2.1; omega⟩
                      go_wp2_with (first | (at_builtin; go_loud (refine Kd.S_append sayK (w0 := w2) (W := w2) w.heap.size rfl (.tmp 75) (.tmp 77) 35 26 (.agg #[(.int .i64 0), (.bool false), (.string (⟨#[]⟩ : ByteArray)), (.slice none 0 0)]) 56 rfl Try.underlying35 infoSay rfl (by decide) (by omega) u5 rs (n, false, (⟨#[]⟩ : ByteArray), []) [(.int .i64 n), (.bool false), (.string (⟨#[]⟩ : ByteArray)), (.slice none 0 0)] (fun _ => True) (fun _ => False) rfl rfl (say_flat _ _ _ _ _) (fun _ hk => hk.elim) ?aF ?aO ?aB ?aS ?aL ?_; (case aF => exact fun _ _ => trivial); (case aO => exact (Kd.S_mono H2.out.row (fun _ hk => ⟨hk, fun h => h⟩))); (case aB => exact (Below.refl _ _)); (case aS => exact H2.out.fr.size); (case aL => have h1 := HZ.out.2.2.1; have h2 := HL.out; have h3 := HLL.out; omega); intro v1 w3 ho hb hg hat)))
                      have HE := hid (H2.out.append ho hg)
                      clear ho hb hg hat e0 e1 e2 e3
                      go_wp2_with fail
                      go_roundg k1
                      case measure => omega
                      case rel => exact ⟨i + 1, n, t, rs ++ [(n, false, (⟨#[]⟩ : ByteArray), [])], rfl, HL.out, by have := HG.out; show k1 + (i + 1) = _; omega, HE.out, HS.out.2.2.1, by have := HS.out.2.2.2; omega, by rw [List.length_append, HZ.out.2.2.1]; rfl, by rw [← HZ.out.2.2.2.1, HX.out, List.append_assoc]; show _ = rs ++ (tellT _ _ :: toldT (stepT _ _) _); rw [HS.out.1, HS.out.2.1]; rfl, by rw [← HZ.out.2.2.2.2, HX.out]; show _ = runT (stepT _ _) _; rw [HS.out.1]⟩
                    · have hX : Blk ((wr.alloc (.cells #[.int .i64 d, .string s, .int .i64 v] 30)).alloc (.cells #[.int .i64 0, .bool false, .string (⟨#[]⟩ : ByteArray), .slice none 0 0] 26)) (wr.heap.size + 1) #[(.int .i64 0), (.bool false), (.string (⟨#[]⟩ : ByteArray)), (.slice none 0 0)] 26 := by
                        have h0_ := (Blk.new (wr.alloc (.cells #[.int .i64 d, .string s, .int .i64 v] 30)) #[.int .i64 0, .bool false, .string (⟨#[]⟩ : ByteArray), .slice none 0 0] 26)
                        rw [alloc_size] at h0_
                        exact h0_
                      have e0 : ((wr.alloc (.cells #[.int .i64 d, .string s, .int .i64 v] 30)).alloc (.cells #[.int .i64 0, .bool false, .string (⟨#[]⟩ : ByteArray), .slice none 0 0] 26)).cell? ⟨wr.heap.size + 1, 0, none⟩ = some ((.int .i64 0)) := hX.cell 0
                      have e1 : ((wr.alloc (.cells #[.int .i64 d, .string s, .int .i64 v] 30)).alloc (.cells #[.int .i64 0, .bool false, .string (⟨#[]⟩ : ByteArray), .slice none 0 0] 26)).cell? ⟨wr.heap.size + 1, 1, none⟩ = some ((.bool false)) := hX.cell 1
                      have e2 : ((wr.alloc (.cells #[.int .i64 d, .string s, .int .i64 v] 30)).alloc (.cells #[.int .i64 0, .bool false, .string (⟨#[]⟩ : ByteArray), .slice none 0 0] 26)).cell? ⟨wr.heap.size + 1, 2, none⟩ = some ((.string (⟨#[]⟩ : ByteArray))) := hX.cell 2
                      have e3 : ((wr.alloc (.cells #[.int .i64 d, .string s, .int .i64 v] 30)).alloc (.cells #[.int .i64 0, .bool false, .string (⟨#[]⟩ : ByteArray), .slice none 0 0] 26)).cell? ⟨wr.heap.size + 1, 3, none⟩ = some ((.slice none 0 0)) := hX.cell 3
                      have HS : Hid (stepT (n, t.raw) (d, s, v) = (n, t.raw) ∧ tellT (n, t.raw) (d, s, v) = (0, false, (⟨#[]⟩ : ByteArray), []) ∧ Okt (i + 1) t.raw ∧ -((i : Int) + 1) ≤ n ∧ n ≤ (i : Int) + 1) :=
                        hid ⟨(if_neg h0).trans (if_neg h1), (if_neg h2).trans ((if_neg h3).trans ((if_neg h4).trans ((if_neg h5).trans ((if_neg h6).trans (if_neg h7))))), HZ.out.1.more, by have := HZ.out.2.1; omega, by have := HZ.out.2.1; omega⟩
                      clear hX
                      go_upto_region 23 with fail
                      generalize ((wr.alloc (.cells #[.int .i64 d, .string s, .int .i64 v] 30)).alloc (.cells #[.int .i64 0, .bool false, .string (⟨#[]⟩ : ByteArray), .slice none 0 0] 26)) = w2 at HW e0 e1 e2 e3 ⊢
                      clear x0 x1 x2
                      go_wp2_with (first | (at_builtin; go_loud (refine Kd.S_append sayK (w0 := w2) (W := w2) w.heap.size rfl (.tmp 75) (.tmp 77) 35 26 (.agg #[(.int .i64 0), (.bool false), (.string (⟨#[]⟩ : ByteArray)), (.slice none 0 0)]) 56 rfl Try.underlying35 infoSay rfl (by decide) (by omega) u5 rs (0, false, (⟨#[]⟩ : ByteArray), []) [(.int .i64 0), (.bool false), (.string (⟨#[]⟩ : ByteArray)), (.slice none 0 0)] (fun _ => True) (fun _ => False) rfl rfl (say_flat _ _ _ _ _) (fun _ hk => hk.elim) ?aF ?aO ?aB ?aS ?aL ?_; (case aF => exact fun _ _ => trivial); (case aO => exact (Kd.S_mono HW.out.row (fun _ hk => ⟨hk, fun h => h⟩))); (case aB => exact (Below.refl _ _)); (case aS => exact HW.out.fr.size); (case aL => have h1 := HZ.out.2.2.1; have h2 := HL.out; have h3 := HLL.out; omega); intro v1 w3 ho hb hg hat)))
                      have HE := hid (HW.out.append ho hg)
                      clear ho hb hg hat e0 e1 e2 e3
                      go_wp2_with fail
                      go_roundg k1
                      case measure => omega
                      case rel => exact ⟨i + 1, n, t, rs ++ [(0, false, (⟨#[]⟩ : ByteArray), [])], rfl, HL.out, by have := HG.out; show k1 + (i + 1) = _; omega, HE.out, HS.out.2.2.1, by have := HS.out.2.2.2; omega, by rw [List.length_append, HZ.out.2.2.1]; rfl, by rw [← HZ.out.2.2.2.1, HX.out, List.append_assoc]; show _ = rs ++ (tellT _ _ :: toldT (stepT _ _) _); rw [HS.out.1, HS.out.2.1]; rfl, by rw [← HZ.out.2.2.2.2, HX.out]; show _ = runT (stepT _ _) _; rw [HS.out.1]⟩
    · have e : i = l.length := by omega
      subst e
      have HF : Hid (rs = toldT (0, .nil) l ∧ (n, t.raw) = runT (0, .nil) l) := by
        have h1 := HI.out.2.2.2.2.1
        have h2 := HI.out.2.2.2.2.2
        rw [List.drop_length] at h1 h2
        exact hid ⟨by simpa [toldT] using h1, h2⟩
      go_wp2_with fail
      go_ret
      exact ⟨n, t, _, rfl, HF.out.2, HI.out.2.1, HF.out.1 ▸ HI.out.1⟩
set_option maxRecDepth 100000 in
theorem TrieRun_any (A : Option Addr) (c : Nat) (l : List Wd3) (w : World) (hC : Kd.C wordK w A l.length l) (hl : l.length ≤ 1099511627776) (hs : ∀ a ∈ l, a.2.1.size ≤ 1099511627776) :
    Calls Try.prog 14 #[.slice A l.length c] w fun e w' => ∃ v, e = .returned v ∧ Kd.S sayK 26 w' w.heap.size (fun _ => True) v (toldT (0, .nil) l) ∧ Below w.heap.size w w' := by
  have HC := hid hC
  have HL := hid hl
  have HS := hid hs
  clear hC hl hs
  go_enter Try.func14, Try.ntmps14
  go_wp2_with fail
  refine (New_any w).mono ?_
  rintro e w1 ⟨Tb, rfl, hT, hB⟩
  have HT := hid hT
  have HB := hid hB
  clear hT hB
  go_wp2_with fail
  refine (trieDo_any w.heap.size Tb w1 A c l HT.out (fun W hW => Kd.C_below HC.out (HB.out.trans hW)) HL.out HS.out).mono ?_
  rintro e w2 ⟨n, t, v, rfl, _, _, hI⟩
  have HI := hid hI
  clear hI
  go_wp2_with fail
  go_ret
  exact ⟨_, rfl, Kd.S_lower HI.out.row HB.out.size, HB.out.trans (HI.out.fr.below HB.out.size (fun k hk => hk.1))⟩
end Go.Proofs.Ytkgbflcbeeghoaa.Trie

namespace Go.Proofs.Ytkgbflcbeeghoaa.Row
open Go Go.RowKit Go.Proofs.Ytkgbflcbeeghoaa.Hk Go.Proofs.YtkgbflcbeeghoaaW.PrintWords Go.Proofs.YtkgbflcbeeghoaaW.PrintLast Go.Proofs.YtkgbflcbeeghoaaW.PrintMore
/-- Rows of a structure, out of rows of its fields. -/
theorem reps_map {α β : Type} {R : α → List Value → Prop} {f : β → α} {sz : Nat} {xs : List β} {inner : List Value} (h : Reps R sz (xs.map f) inner) : Reps (fun x => R (f x)) sz xs inner :=
  ⟨by have := h.1; rwa [List.length_map] at this, fun j p hj => h.2 j (f p) (by rw [List.getElem?_map, hj]; rfl)⟩
theorem S_iso {α β : Type} {d : Kd α} {f : β → α} {e : Nat} {w : World} {base : Nat} {ok : Nat → Prop} {v : Value} {xs : List β} (h : Kd.S d e w base ok v (xs.map f)) : Kd.S (Kd.iso d f) e w base ok v xs := by
  obtain ⟨g, h0, inner, ho, hr⟩ := h
  have e1 : (xs.map f).zipIdx = xs.zipIdx.map (fun p => (f p.1, p.2)) := by
    apply List.ext_getElem?
    intro j
    simp only [List.getElem?_zipIdx, List.getElem?_map]
    cases xs[j]? <;> rfl
  rw [e1] at ho hr
  rw [List.length_map] at ho
  exact ⟨g, h0, inner, ho, reps_map (f := fun p : β × Nat => (f p.1, p.2)) hr⟩
theorem C_iso {α β : Type} {d : Kd α} {f : β → α} {w : World} {A : Option Addr} {n : Nat} {xs : List β} (h : (Kd.iso d f).C w A n xs) : d.C w A n (xs.map f) := by
  obtain ⟨h1, h2, h3⟩ := h
  refine ⟨by rw [List.length_map]; exact h1, h2, fun hn => ?_⟩
  obtain ⟨ad, e, hc⟩ := h3 hn
  refine ⟨ad, e, fun j p hj => ?_⟩
  rw [List.getElem?_map] at hj
  obtain ⟨q, hq, rfl⟩ := Option.map_eq_some_iff.1 hj
  exact hc j q hq
end Go.Proofs.Ytkgbflcbeeghoaa.Row
