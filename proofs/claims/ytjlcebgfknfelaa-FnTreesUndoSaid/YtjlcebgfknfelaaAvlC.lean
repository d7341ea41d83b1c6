/- AVL trees in memory: what is put, found, counted. By the order of any table, for every balanced tree. -/
import Derived.Test.YtjlcebgfknfelaaAvlB
import Derived.Test.YtjlcebgfknfelaaLess
namespace Go.Proofs.Ytjlcebgfknfelaa.Avl
open Go Go.RowKit Go.Proofs.Ytjlcebgfknfelaa.Hk Go.Proofs.Ytjlcebgfknfelaa.AvlPure Go.Proofs.Ytjlcebgfknfelaa.Less

theorem reb_any (t : N) (w : World) (hin : t.In w) (nd : t.ids.Nodup) (hp : ∀ b k v h l r, t = .node b k v h l r → Part l ∧ Part r) :
    Calls Try.prog 58 #[t.ptr] w (Done t w) := by
  cases t with
  | nil => exact reb_nil w
  | node b k v h l r =>
    obtain ⟨pl, pr⟩ := hp b k v h l r rfl
    show Calls Try.prog 58 #[.pointer (some ⟨b, 0, none⟩)] w _
    have bl := pl.hb
    have br := pr.hb
    by_cases c1 : l.raw.ht - r.raw.ht ≤ -2
    · cases r with
      | nil => simp only [N.raw, T.ht] at c1 bl; omega
      | node b2 k2 v2 h2 rl rr =>
        have p1 := pr.left.hb
        have p2 := pr.rght.hb
        by_cases c2 : rl.raw.ht > rr.raw.ht
        · cases rl with
          | nil => simp only [N.raw, T.ht] at c2 p2; omega
          | node b3 k3 v3 h3 x y => exact reb_L2 b k v h l b2 k2 v2 h2 b3 k3 v3 h3 x y rr w hin nd pl pr c1 c2
        · exact reb_L1 b k v h l b2 k2 v2 h2 rl rr w hin nd pl pr c1 c2
    · by_cases c3 : l.raw.ht - r.raw.ht ≥ 2
      · cases l with
        | nil => simp only [N.raw, T.ht] at c3 br; omega
        | node b2 k2 v2 h2 ll lr =>
          have p1 := pl.left.hb
          have p2 := pl.rght.hb
          by_cases c2 : lr.raw.ht > ll.raw.ht
          · cases lr with
            | nil => simp only [N.raw, T.ht] at c2 p1; omega
            | node b3 k3 v3 h3 x y => exact reb_R2 b k v h b2 k2 v2 h2 ll b3 k3 v3 h3 x y r w hin nd pl pr c3 c2
          · exact reb_R1 b k v h b2 k2 v2 h2 ll lr r w hin nd pl pr c3 c2
      · exact reb_keep b k v h l r w hin nd pl pr c1 c3

/-- An order that stays as long as nothing below 'base' turns. -/
def LessS (base : Nat) (w : World) (v : Value) (t : List Int) : Prop := ∀ w', Below base w w' → LessV w' v t

theorem LessS.now {base : Nat} {w : World} {v : Value} {t : List Int} (h : LessS base w v t) : LessV w v t := h w (Below.refl _ _)
theorem LessS.to {base : Nat} {w w1 : World} {v : Value} {t : List Int} (h : LessS base w v t) (hb : Below base w w1) : LessS base w1 v t := fun w' hw => h w' (hb.trans hw)
theorem LessS.drewN {base : Nat} {w : World} {v : Value} {t : List Int} (h : LessS base w v t) (n : Nat) : LessS base (w.drewN n) v t := h.to ⟨rfl, rfl, rfl, Nat.le_refl _, fun _ _ => rfl⟩
theorem LessS.of {w : World} {v : Value} {t : List Int} (h : LessV w v t) : LessS w.heap.size w v t := fun _ hb => h.below hb

theorem fr_drewN {S : Nat → Prop} {a w : World} (h : Fr S a w) (n : Nat) : Fr S a (w.drewN n) := ⟨h.os, h.tape, h.output, h.size, h.block⟩
theorem N.In.drewN {w : World} {t : N} (h : t.In w) (n : Nat) : t.In (w.drewN n) := N.In.heap (w := w) (w' := w.drewN n) rfl h
theorem blk_drewN {w : World} {b : Nat} {cs : Array Value} {t : TypeId} (h : Blk w b cs t) (n : Nat) : Blk (w.drewN n) b cs t := h

/-- A balanced tree with right heights, not too high, all of whose nodes lie from 'base' on. -/
structure Good (base : Nat) (w : World) (t : N) : Prop where
  mem : t.In w
  nodup : t.ids.Nodup
  above : ∀ b ∈ t.ids, base ≤ b
  right : T.Right t.raw
  even : T.Even t.raw

theorem Good.part {base : Nat} {w : World} {t : N} (h : Good base w t) (hl : t.raw.tall ≤ 4294960000) : Part t := ⟨h.right, hl⟩

theorem Good.lf {base : Nat} {w : World} {b : Nat} {k v h : Int} {l r : N} (g : Good base w (.node b k v h l r)) : Good base w l :=
  ⟨g.mem.2.1, (nodup_node g.nodup).2.2.1, fun x hx => g.above x (by simp [N.ids, hx]), g.right.2.1, g.even.2.2.1⟩
theorem Good.rt {base : Nat} {w : World} {b : Nat} {k v h : Int} {l r : N} (g : Good base w (.node b k v h l r)) : Good base w r :=
  ⟨g.mem.2.2, (nodup_node g.nodup).2.2.2.1, fun x hx => g.above x (by simp [N.ids, hx]), g.right.2.2, g.even.2.2.2⟩
theorem Good.drewN {base : Nat} {w : World} {t : N} (g : Good base w t) (n : Nat) : Good base (w.drewN n) t := ⟨g.mem.drewN n, g.nodup, g.above, g.right, g.even⟩
theorem Good.fr {base : Nat} {w w' : World} {t : N} {S : Nat → Prop} (g : Good base w t) (hf : Fr S w w') (hn : ∀ b ∈ t.ids, ¬ S b) : Good base w' t := ⟨N.In.fr hf g.mem hn, g.nodup, g.above, g.right, g.even⟩

/-- What a change of a tree leaves. -/
structure Put (base : Nat) (t t' : N) (w w' : World) : Prop where
  mem : t'.In w'
  nodup : t'.ids.Nodup
  ids : ∀ b ∈ t'.ids, b ∈ t.ids ∨ w.heap.size ≤ b
  fr : Fr (· ∈ t.ids) w w'

/-- A node of which the left part has been changed, and the pointer to it stored: what the step at its root then leaves. -/
theorem step_left {base : Nat} {b : Nat} {k v h : Int} {l r l' : N} {w w1 w3 : World} {t' : N} (g : Good base w (.node b k v h l r)) (hp : Put base l l' w w1)
    (hd : t'.In w3 ∧ t'.ids.Perm (N.node b k v h l' r).ids ∧ Fr (· ∈ (N.node b k v h l' r).ids) (w1.setCell ⟨b, 3, none⟩ l'.ptr) w3) : Put base (.node b k v h l r) t' w w3 := by
  obtain ⟨n1, n2, n3, n4, n5⟩ := nodup_node g.nodup
  have hlt := N.In.lt g.mem
  have nd : (N.node b k v h l' r).ids.Nodup := nodup_mk (fun hm => (hp.ids b hm).elim n1 (fun hq => by have := hlt b (by simp [N.ids]); omega)) n2 hp.nodup n4
    (fun x hx hy => (hp.ids x hx).elim (fun hq => n5 x hq hy) (fun hq => by have := hlt x (by simp [N.ids, hy]); omega))
  refine ⟨hd.1, hd.2.1.nodup_iff.2 nd, fun x hx => ?_, ?_⟩
  · rcases List.mem_cons.1 (hd.2.1.mem_iff.1 hx) with e | e
    · rw [e]; left; simp [N.ids]
    · rcases List.mem_append.1 e with e | e
      · exact (hp.ids x e).imp (fun q => by simp [N.ids, q]) id
      · left; simp [N.ids, e]
  · have f1 : Fr (· ∈ (N.node b k v h l r).ids) w w1 := hp.fr.mono (fun n _ q => by simp [N.ids, q])
    have f2 : Fr (· ∈ (N.node b k v h l r).ids) w (w1.setCell ⟨b, 3, none⟩ l'.ptr) := f1.setCell (p := ⟨b, 3, none⟩) (fun _ => by simp [N.ids]) _
    refine f2.trans hd.2.2 (fun n hn q => ?_)
    rcases List.mem_cons.1 q with e | e
    · rw [e]; simp [N.ids]
    · rcases List.mem_append.1 e with e | e
      · exact (hp.ids n e).elim (fun z => by simp [N.ids, z]) (fun z => by omega)
      · simp [N.ids, e]

theorem step_right {base : Nat} {b : Nat} {k v h : Int} {l r r' : N} {w w1 w3 : World} {t' : N} (g : Good base w (.node b k v h l r)) (hp : Put base r r' w w1)
    (hd : t'.In w3 ∧ t'.ids.Perm (N.node b k v h l r').ids ∧ Fr (· ∈ (N.node b k v h l r').ids) (w1.setCell ⟨b, 4, none⟩ r'.ptr) w3) : Put base (.node b k v h l r) t' w w3 := by
  obtain ⟨n1, n2, n3, n4, n5⟩ := nodup_node g.nodup
  have hlt := N.In.lt g.mem
  have nd : (N.node b k v h l r').ids.Nodup := nodup_mk n1 (fun hm => (hp.ids b hm).elim n2 (fun hq => by have := hlt b (by simp [N.ids]); omega)) n3 hp.nodup
    (fun x hx hy => (hp.ids x hy).elim (fun hq => n5 x hx hq) (fun hq => by have := hlt x (by simp [N.ids, hx]); omega))
  refine ⟨hd.1, hd.2.1.nodup_iff.2 nd, fun x hx => ?_, ?_⟩
  · rcases List.mem_cons.1 (hd.2.1.mem_iff.1 hx) with e | e
    · rw [e]; left; simp [N.ids]
    · rcases List.mem_append.1 e with e | e
      · left; simp [N.ids, e]
      · exact (hp.ids x e).imp (fun q => by simp [N.ids, q]) id
  · have f1 : Fr (· ∈ (N.node b k v h l r).ids) w w1 := hp.fr.mono (fun n _ q => by simp [N.ids, q])
    have f2 : Fr (· ∈ (N.node b k v h l r).ids) w (w1.setCell ⟨b, 4, none⟩ r'.ptr) := f1.setCell (p := ⟨b, 4, none⟩) (fun _ => by simp [N.ids]) _
    refine f2.trans hd.2.2 (fun n hn q => ?_)
    rcases List.mem_cons.1 q with e | e
    · rw [e]; simp [N.ids]
    · rcases List.mem_append.1 e with e | e
      · simp [N.ids, e]
      · exact (hp.ids n e).elim (fun z => by simp [N.ids, z]) (fun z => by omega)

/-- The node behind the store of a changed left part. -/
theorem mem_left {base : Nat} {b : Nat} {k v h : Int} {l r l' : N} {w w1 : World} (g : Good base w (.node b k v h l r)) (hp : Put base l l' w w1) :
    (N.node b k v h l' r).In (w1.setCell ⟨b, 3, none⟩ l'.ptr) ∧ (N.node b k v h l' r).ids.Nodup ∧ Blk w1 b #[.int .i64 k, .int .i64 v, .int .i64 h, l.ptr, r.ptr] 119 := by
  obtain ⟨n1, n2, n3, n4, n5⟩ := nodup_node g.nodup
  have hlt := N.In.lt g.mem
  have hb1 : b ∉ l'.ids := fun hm => (hp.ids b hm).elim n1 (fun hq => by have := hlt b (by simp [N.ids]); omega)
  have B1 : Blk w1 b #[.int .i64 k, .int .i64 v, .int .i64 h, l.ptr, r.ptr] 119 := g.mem.1.fr hp.fr n1
  have f2 : Fr (· = b) w1 (w1.setCell ⟨b, 3, none⟩ l'.ptr) := Fr.setCell (S := (· = b)) (Fr.refl _ _) (p := ⟨b, 3, none⟩) (fun _ => rfl) _
  refine ⟨⟨B1.set 3 _, N.In.fr f2 hp.mem (fun x hx e => hb1 (e ▸ hx)), N.In.fr f2 (N.In.fr hp.fr g.mem.2.2 (fun x hx hy => n5 x hy hx)) (fun x hx e => n2 (e ▸ hx))⟩, ?_, B1⟩
  exact nodup_mk hb1 n2 hp.nodup n4 (fun x hx hy => (hp.ids x hx).elim (fun hq => n5 x hq hy) (fun hq => by have := hlt x (by simp [N.ids, hy]); omega))

theorem mem_right {base : Nat} {b : Nat} {k v h : Int} {l r r' : N} {w w1 : World} (g : Good base w (.node b k v h l r)) (hp : Put base r r' w w1) :
    (N.node b k v h l r').In (w1.setCell ⟨b, 4, none⟩ r'.ptr) ∧ (N.node b k v h l r').ids.Nodup ∧ Blk w1 b #[.int .i64 k, .int .i64 v, .int .i64 h, l.ptr, r.ptr] 119 := by
  obtain ⟨n1, n2, n3, n4, n5⟩ := nodup_node g.nodup
  have hlt := N.In.lt g.mem
  have hb1 : b ∉ r'.ids := fun hm => (hp.ids b hm).elim n2 (fun hq => by have := hlt b (by simp [N.ids]); omega)
  have B1 : Blk w1 b #[.int .i64 k, .int .i64 v, .int .i64 h, l.ptr, r.ptr] 119 := g.mem.1.fr hp.fr n2
  have f2 : Fr (· = b) w1 (w1.setCell ⟨b, 4, none⟩ r'.ptr) := Fr.setCell (S := (· = b)) (Fr.refl _ _) (p := ⟨b, 4, none⟩) (fun _ => rfl) _
  refine ⟨⟨B1.set 4 _, N.In.fr f2 (N.In.fr hp.fr g.mem.2.1 (fun x hx hy => n5 x hx hy)) (fun x hx e => n1 (e ▸ hx)), N.In.fr f2 hp.mem (fun x hx e => hb1 (e ▸ hx))⟩, ?_, B1⟩
  exact nodup_mk n1 hb1 n3 hp.nodup (fun x hx hy => (hp.ids x hy).elim (fun hq => n5 x hx hq) (fun hq => by have := hlt x (by simp [N.ids, hx]); omega))

theorem cmp_lt {t : List Int} {a b : Int} (h : rankOf t a < rankOf t b) : cmp t a b = -1 := if_pos h
theorem cmp_gt {t : List Int} {a b : Int} (h : rankOf t b < rankOf t a) : cmp t a b = 1 := by unfold cmp; rw [if_neg (by omega), if_pos h]
theorem cmp_eq {t : List Int} {a b : Int} (h : ¬ rankOf t a < rankOf t b) (h' : ¬ rankOf t b < rankOf t a) : cmp t a b = 0 := by unfold cmp; rw [if_neg h, if_neg h']

/-- What add leaves. -/
def Added (base : Nat) (tb : List Int) (key val : Int) (t : N) (w : World) (e : Ending) (w' : World) : Prop :=
  ∃ t' : N, e = .returned t'.ptr ∧ t'.raw = T.ins (rankOf tb) key val t.raw ∧ Put base t t' w w'

theorem below_drewN {base : Nat} {a w : World} (h : Below base a w) (n : Nat) : Below base a (w.drewN n) := ⟨h.os, h.tape, h.output, h.size, h.block⟩

theorem add_nil (base : Nat) (tb : List Int) (key val : Int) (lv : Value) (w : World) :
    Calls Try.prog 83 #[.pointer none, .int .i64 key, .int .i64 val, lv] w (Added base tb key val .nil w) := by
  go_enter Try.func83, Try.ntmps83
  go_wp2_with fail
  go_ret
  exact ⟨.node w.heap.size key val 1 .nil .nil, rfl, rfl, ⟨Blk.new w _ _, trivial, trivial⟩, by simp [N.ids], fun b hb => .inr (by simp [N.ids] at hb; omega), (Fr.refl _ _).alloc _⟩

set_option maxHeartbeats 1600000 in
theorem add_any (base : Nat) (tb : List Int) (key val : Int) (lv : Value) : ∀ (t : N) (w : World), Good base w t → t.raw.tall ≤ 4294950000 → base ≤ w.heap.size → LessS base w lv tb →
    Calls Try.prog 83 #[t.ptr, .int .i64 key, .int .i64 val, lv] w (Added base tb key val t w)
  | .nil, w, _, _, _, _ => add_nil base tb key val lv w
  | .node b k v h l r, w, g, ht, hbs, hL => by
    have tn : (N.node b k v h l r).raw.tall = 1 + max l.raw.tall r.raw.tall := rfl
    have tl := T.tall_nonneg l.raw
    have tr := T.tall_nonneg r.raw
    have HG : Hid (Good base w (.node b k v h l r)) := g
    have HL : Hid (LessS base w lv tb) := hL
    have c0 : w.cell? ⟨b, 0, none⟩ = some (.int .i64 k) := g.mem.1.cell 0
    have c3 : w.cell? ⟨b, 3, none⟩ = some l.ptr := g.mem.1.cell 3
    have c4 : w.cell? ⟨b, 4, none⟩ = some r.ptr := g.mem.1.cell 4
    have HT : Hid (l.raw.tall ≤ 4294950000 ∧ r.raw.tall ≤ 4294950000) := ⟨by omega, by omega⟩
    clear g hL
    show Calls Try.prog 83 #[.pointer (some ⟨b, 0, none⟩), .int .i64 key, .int .i64 val, lv] w _
    by_cases h1 : rankOf tb key < rankOf tb k
    · have HC : Hid (cmp tb key k = -1) := cmp_lt h1
      have HR : Hid (T.ins (rankOf tb) key val (N.node b k v h l r).raw = T.reb (.node k v h (T.ins (rankOf tb) key val l.raw) r.raw)) := if_pos h1
      clear h1 ht tn tl tr
      go_enter Try.func83, Try.ntmps83
      go_wp2_with fail
      refine (compare_any lv tb key k _ HL.out.now).mono ?_
      rintro e w1 ⟨rfl, n, rfl⟩
      rw [HC.out]
      go_wp2_with fail
      refine (add_any base tb key val lv l (w.drewN n) (HG.out.lf.drewN n) HT.out.1 (by simpa using hbs) (HL.out.drewN n)).mono ?_
      rintro e w1 ⟨l', rfl, hraw, hput⟩
      have hput' : Put base l l' w w1 := ⟨hput.mem, hput.nodup, hput.ids, ⟨hput.fr.os, hput.fr.tape, hput.fr.output, hput.fr.size, hput.fr.block⟩⟩
      obtain ⟨m1, m2, B1⟩ := mem_left HG.out hput'
      have d3 : w1.cell? ⟨b, 3, none⟩ = some l.ptr := B1.cell 3
      have f3 : w1.frozen? ⟨b, 3, none⟩ = false := B1.free 3
      have HM : Hid ((N.node b k v h l' r).In (w1.setCell ⟨b, 3, none⟩ l'.ptr) ∧ (N.node b k v h l' r).ids.Nodup ∧ l'.raw = T.ins (rankOf tb) key val l.raw ∧ Put base l l' w w1) := ⟨m1, m2, hraw, hput'⟩
      obtain ⟨u, hu⟩ := l'.ptr_some
      rw [hu] at HM ⊢
      have HU : Hid (l'.ptr = .pointer u) := hu
      clear m1 m2 B1 hraw hput hput' hu
      go_wp2_with fail
      refine (reb_any (.node b k v h l' r) _ HM.out.1 HM.out.2.1 (fun b' k' v' h' l2 r2 e => ?_)).mono ?_
      · injection e with e1 e2 e3 e4 e5 e6
        subst e5 e6
        exact ⟨⟨by rw [HM.out.2.2.1]; exact T.right_ins _ _ _ HG.out.lf.right, by
          rw [HM.out.2.2.1]
          have := (T.even_ins (rankOf tb) key val HG.out.lf.right HG.out.lf.even).2
          have := HT.out
          omega⟩, HG.out.rt.part (by have := HT.out; omega)⟩
      rintro e w3 ⟨t', rfl, i1, i2, i3, i4⟩
      have HD : Hid (t'.In w3 ∧ t'.raw = T.reb (N.node b k v h l' r).raw ∧ t'.ids.Perm (N.node b k v h l' r).ids ∧ Fr (· ∈ (N.node b k v h l' r).ids) (w1.setCell ⟨b, 3, none⟩ (.pointer u)) w3) := ⟨i1, i2, i3, i4⟩
      clear i1 i2 i3 i4
      go_wp2_with fail
      go_ret
      obtain ⟨i1, i2, i3, i4⟩ := HD.out
      rw [← HU.out] at i4
      exact ⟨t', rfl, by rw [i2, HR.out]; show T.reb (.node k v h l'.raw r.raw) = _; rw [HM.out.2.2.1], step_left HG.out HM.out.2.2.2 ⟨i1, i3, i4⟩⟩
    · have h1' : ¬ rankOf tb key < rankOf tb k := h1
      by_cases h2 : rankOf tb k < rankOf tb key
      · have HC : Hid (cmp tb key k = 1) := cmp_gt h2
        have HR : Hid (T.ins (rankOf tb) key val (N.node b k v h l r).raw = T.reb (.node k v h l.raw (T.ins (rankOf tb) key val r.raw))) := (if_neg h1).trans (if_pos h2)
        clear h1 h1' h2 ht tn tl tr
        go_enter Try.func83, Try.ntmps83
        go_wp2_with fail
        refine (compare_any lv tb key k _ HL.out.now).mono ?_
        rintro e w1 ⟨rfl, n, rfl⟩
        rw [HC.out]
        go_wp2_with fail
        refine (compare_any lv tb key k _ (HL.out.drewN n).now).mono ?_
        rintro e w1 ⟨rfl, n', rfl⟩
        rw [HC.out]
        go_wp2_with fail
        refine (add_any base tb key val lv r (w.drewN (n + n')) (HG.out.rt.drewN (n + n')) HT.out.2 (by simpa using hbs) (HL.out.drewN (n + n'))).mono ?_
        rintro e w1 ⟨r', rfl, hraw, hput⟩
        have hput' : Put base r r' w w1 := ⟨hput.mem, hput.nodup, hput.ids, ⟨hput.fr.os, hput.fr.tape, hput.fr.output, hput.fr.size, hput.fr.block⟩⟩
        obtain ⟨m1, m2, B1⟩ := mem_right HG.out hput'
        have d4 : w1.cell? ⟨b, 4, none⟩ = some r.ptr := B1.cell 4
        have f4 : w1.frozen? ⟨b, 4, none⟩ = false := B1.free 4
        have HM : Hid ((N.node b k v h l r').In (w1.setCell ⟨b, 4, none⟩ r'.ptr) ∧ (N.node b k v h l r').ids.Nodup ∧ r'.raw = T.ins (rankOf tb) key val r.raw ∧ Put base r r' w w1) := ⟨m1, m2, hraw, hput'⟩
        obtain ⟨u, hu⟩ := r'.ptr_some
        rw [hu] at HM ⊢
        have HU : Hid (r'.ptr = .pointer u) := hu
        clear m1 m2 B1 hraw hput hput' hu
        go_wp2_with fail
        refine (reb_any (.node b k v h l r') _ HM.out.1 HM.out.2.1 (fun b' k' v' h' l2 r2 e => ?_)).mono ?_
        · injection e with e1 e2 e3 e4 e5 e6
          subst e5 e6
          exact ⟨HG.out.lf.part (by have := HT.out; omega), ⟨by rw [HM.out.2.2.1]; exact T.right_ins _ _ _ HG.out.rt.right, by
            rw [HM.out.2.2.1]
            have := (T.even_ins (rankOf tb) key val HG.out.rt.right HG.out.rt.even).2
            have := HT.out
            omega⟩⟩
        rintro e w3 ⟨t', rfl, i1, i2, i3, i4⟩
        have HD : Hid (t'.In w3 ∧ t'.raw = T.reb (N.node b k v h l r').raw ∧ t'.ids.Perm (N.node b k v h l r').ids ∧ Fr (· ∈ (N.node b k v h l r').ids) (w1.setCell ⟨b, 4, none⟩ (.pointer u)) w3) := ⟨i1, i2, i3, i4⟩
        clear i1 i2 i3 i4
        go_wp2_with fail
        go_ret
        obtain ⟨i1, i2, i3, i4⟩ := HD.out
        rw [← HU.out] at i4
        exact ⟨t', rfl, by rw [i2, HR.out]; show T.reb (.node k v h l.raw r'.raw) = _; rw [HM.out.2.2.1], step_right HG.out HM.out.2.2.2 ⟨i1, i3, i4⟩⟩
      · have HC : Hid (cmp tb key k = 0) := cmp_eq h1 h2
        have HR : Hid (T.ins (rankOf tb) key val (N.node b k v h l r).raw = T.reb (.node k val h l.raw r.raw)) := (if_neg h1).trans (if_neg h2)
        have f1 : w.frozen? ⟨b, 1, none⟩ = false := HG.out.mem.1.free 1
        have c1 : w.cell? ⟨b, 1, none⟩ = some (.int .i64 v) := HG.out.mem.1.cell 1
        clear h1 h1' h2 ht tn tl tr
        go_enter Try.func83, Try.ntmps83
        go_wp2_with fail
        refine (compare_any lv tb key k _ HL.out.now).mono ?_
        rintro e w1 ⟨rfl, n, rfl⟩
        rw [HC.out]
        go_wp2_with fail
        refine (compare_any lv tb key k _ (HL.out.drewN n).now).mono ?_
        rintro e w1 ⟨rfl, n', rfl⟩
        rw [HC.out]
        go_wp2_with fail
        have F1 : Fr (· = b) w (w.setCell ⟨b, 1, none⟩ (.int .i64 val)) := Fr.setCell (S := (· = b)) (Fr.refl _ _) (p := ⟨b, 1, none⟩) (fun _ => rfl) _
        have M1 : (N.node b k val h l r).In (w.setCell ⟨b, 1, none⟩ (.int .i64 val)) :=
          ⟨HG.out.mem.1.set 1 _, N.In.fr F1 HG.out.mem.2.1 (fun x hx e => (nodup_node HG.out.nodup).1 (e ▸ hx)), N.In.fr F1 HG.out.mem.2.2 (fun x hx e => (nodup_node HG.out.nodup).2.1 (e ▸ hx))⟩
        refine (reb_any (.node b k val h l r) _ (M1.drewN (n + n')) HG.out.nodup (fun b' k' v' h' l2 r2 e => ?_)).mono ?_
        · injection e with e1 e2 e3 e4 e5 e6
          subst e5 e6
          exact ⟨HG.out.lf.part (by have := HT.out; omega), HG.out.rt.part (by have := HT.out; omega)⟩
        rintro e w3 ⟨t', rfl, i1, i2, i3, i4⟩
        have HD : Hid (t'.In w3 ∧ t'.raw = T.reb (N.node b k val h l r).raw ∧ t'.ids.Perm (N.node b k val h l r).ids ∧ Fr (· ∈ (N.node b k val h l r).ids) ((w.setCell ⟨b, 1, none⟩ (.int .i64 val)).drewN (n + n')) w3 ∧ Fr (· = b) w (w.setCell ⟨b, 1, none⟩ (.int .i64 val))) := ⟨i1, i2, i3, i4, F1⟩
        clear i1 i2 i3 i4 F1 M1
        go_wp2_with fail
        go_ret
        obtain ⟨i1, i2, i3, i4, i5⟩ := HD.out
        exact ⟨t', rfl, by rw [i2, HR.out]; rfl, i1, i3.nodup_iff.2 HG.out.nodup, fun x hx => .inl (i3.mem_iff.1 hx), ((fr_drewN i5 (n + n')).mono (fun x _ e => by rw [e]; simp [N.ids])).trans i4 (fun _ _ h => h)⟩

end Go.Proofs.Ytjlcebgfknfelaa.Avl
