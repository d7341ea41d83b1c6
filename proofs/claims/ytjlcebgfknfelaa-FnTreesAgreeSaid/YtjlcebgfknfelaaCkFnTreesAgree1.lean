/- What the law's row stands on, part 1: contracts of functions, for the arguments and worlds that each one names. -/
import Derived.Test.YtjlcebgfknfelaaCkFnTreesAgree0
import Derived.Deep.CutRange
import Derived.BigRegion
import Derived.Deep.QuietTactic
import Derived.BigQuiet
import Derived.Deep.DeepCutAuto
import Derived.StillTailTactics
namespace Go.Proofs.Ytjlcebgfknfelaa.Avl
open Go Go.RowKit Go.Proofs.Ytjlcebgfknfelaa.Hk Go.Proofs.Ytjlcebgfknfelaa.AvlPure Go.Proofs.Ytjlcebgfknfelaa.Less
theorem reb_any (t : N) (w : World) (hin : t.In w) (nd : t.ids.Nodup) (hp : ∀ b k v h l r, t = .node b k v h l r → Part l ∧ Part r) :
    Calls Try.prog 58 #[t.ptr] w (Done t w) := by
  cases t with
  | nil => exact reb_nil w
  | node b k v h l r =>
    obtain ⟨pl, pr⟩ := hp b k v h l r rfl
    show Calls Try.prog 58 #[.pointer (some ⟨b, 0, none⟩)] w _
    have bl := pl.hb
    have br := pr.hb
    by_cases c1 : l.raw.ht - r.raw.ht ≤ -2
    · cases r with
      | nil => simp only [N.raw, T.ht] at c1 bl; omega
      | node b2 k2 v2 h2 rl rr =>
        have p1 := pr.left.hb
        have p2 := pr.rght.hb
        by_cases c2 : rl.raw.ht > rr.raw.ht
        · cases rl with
          | nil => simp only [N.raw, T.ht] at c2 p2; omega
          | node b3 k3 v3 h3 x y => exact reb_L2 b k v h l b2 k2 v2 h2 b3 k3 v3 h3 x y rr w hin nd pl pr c1 c2
        · exact reb_L1 b k v h l b2 k2 v2 h2 rl rr w hin nd pl pr c1 c2
    · by_cases c3 : l.raw.ht - r.raw.ht ≥ 2
      · cases l with
        | nil => simp only [N.raw, T.ht] at c3 br; omega
        | node b2 k2 v2 h2 ll lr =>
          have p1 := pl.left.hb
          have p2 := pl.rght.hb
          by_cases c2 : lr.raw.ht > ll.raw.ht
          · cases lr with
            | nil => simp only [N.raw, T.ht] at c2 p1; omega
            | node b3 k3 v3 h3 x y => exact reb_R2 b k v h b2 k2 v2 h2 ll b3 k3 v3 h3 x y r w hin nd pl pr c3 c2
          · exact reb_R1 b k v h b2 k2 v2 h2 ll lr r w hin nd pl pr c3 c2
      · exact reb_keep b k v h l r w hin nd pl pr c1 c3
/-- An order that stays as_ long as_ nothing below 'base' turns. -/
def LessS (base : Nat) (w : World) (v : Value) (t : List Int) : Prop := ∀ w', Below base w w' → LessV w' v t
theorem LessS.now {base : Nat} {w : World} {v : Value} {t : List Int} (h : LessS base w v t) : LessV w v t := h w (Below.refl _ _)
theorem LessS.to {base : Nat} {w w1 : World} {v : Value} {t : List Int} (h : LessS base w v t) (hb : Below base w w1) : LessS base w1 v t := fun w' hw => h w' (hb.trans hw)
theorem LessS.drewN {base : Nat} {w : World} {v : Value} {t : List Int} (h : LessS base w v t) (n : Nat) : LessS base (w.drewN n) v t := h.to ⟨rfl, rfl, rfl, Nat.le_refl _, fun _ _ => rfl⟩
theorem LessS.of {w : World} {v : Value} {t : List Int} (h : LessV w v t) : LessS w.heap.size w v t := fun _ hb => h.below hb
theorem fr_drewN {S : Nat → Prop} {a w : World} (h : Fr S a w) (n : Nat) : Fr S a (w.drewN n) := ⟨h.os, h.tape, h.output, h.size, h.block⟩
theorem N.In.drewN {w : World} {t : N} (h : t.In w) (n : Nat) : t.In (w.drewN n) := N.In.heap (w := w) (w' := w.drewN n) rfl h
theorem blk_drewN {w : World} {b : Nat} {cs : Array Value} {t : TypeId} (h : Blk w b cs t) (n : Nat) : Blk (w.drewN n) b cs t := h
/-- A balanced tree with right heights, not too high, all of whose nodes lie from 'base' on. -/
structure Good (base : Nat) (w : World) (t : N) : Prop where
  mem : t.In w
  nodup : t.ids.Nodup
  above : ∀ b ∈ t.ids, base ≤ b
  right : T.Right t.raw
  even : T.Even t.raw
theorem Good.part {base : Nat} {w : World} {t : N} (h : Good base w t) (hl : t.raw.tall ≤ 4294960000) : Part t := ⟨h.right, hl⟩
theorem Good.lf {base : Nat} {w : World} {b : Nat} {k v h : Int} {l r : N} (g : Good base w (.node b k v h l r)) : Good base w l :=
  ⟨g.mem.2.1, (nodup_node g.nodup).2.2.1, fun x hx => g.above x (by simp [N.ids, hx]), g.right.2.1, g.even.2.2.1⟩
theorem Good.rt {base : Nat} {w : World} {b : Nat} {k v h : Int} {l r : N} (g : Good base w (.node b k v h l r)) : Good base w r :=
  ⟨g.mem.2.2, (nodup_node g.nodup).2.2.2.1, fun x hx => g.above x (by simp [N.ids, hx]), g.right.2.2, g.even.2.2.2⟩
theorem Good.drewN {base : Nat} {w : World} {t : N} (g : Good base w t) (n : Nat) : Good base (w.drewN n) t := ⟨g.mem.drewN n, g.nodup, g.above, g.right, g.even⟩
theorem Good.fr {base : Nat} {w w' : World} {t : N} {S : Nat → Prop} (g : Good base w t) (hf : Fr S w w') (hn : ∀ b ∈ t.ids, ¬ S b) : Good base w' t := ⟨N.In.fr hf g.mem hn, g.nodup, g.above, g.right, g.even⟩
/-- What a change of a tree leaves. -/
structure Put (base : Nat) (t t' : N) (w w' : World) : Prop where
  mem : t'.In w'
  nodup : t'.ids.Nodup
  ids : ∀ b ∈ t'.ids, b ∈ t.ids ∨ w.heap.size ≤ b
  fr : Fr (· ∈ t.ids) w w'
/-- A node of which the left part has been changed, and the pointer to it stored: what the step at its root then leaves. -/
theorem step_left {base : Nat} {b : Nat} {k v h : Int} {l r l' : N} {w w1 w3 : World} {t' : N} (g : Good base w (.node b k v h l r)) (hp : Put base l l' w w1)
    (hd : t'.In w3 ∧ t'.ids.Perm (N.node b k v h l' r).ids ∧ Fr (· ∈ (N.node b k v h l' r).ids) (w1.setCell ⟨b, 3, none⟩ l'.ptr) w3) : Put base (.node b k v h l r) t' w w3 := by
  obtain ⟨n1, n2, n3, n4, n5⟩ := nodup_node g.nodup
  have hlt := N.In.lt g.mem
  have nd : (N.node b k v h l' r).ids.Nodup := nodup_mk (fun hm => (hp.ids b hm).elim n1 (fun hq => by have := hlt b (by simp [N.ids]); omega)) n2 hp.nodup n4
    (fun x hx hy => (hp.ids x hx).elim (fun hq => n5 x hq hy) (fun hq => by have := hlt x (by simp [N.ids, hy]); omega))
  refine ⟨hd.1, hd.2.1.nodup_iff.2 nd, fun x hx => ?_, ?_⟩
  · rcases List.mem_cons.1 (hd.2.1.mem_iff.1 hx) with e | e
    · rw [e]; left; simp [N.ids]
    · rcases List.mem_append.1 e with e | e
      · exact (hp.ids x e).imp (fun q => by simp [N.ids, q]) id
      · left; simp [N.ids, e]
  · have f1 : Fr (· ∈ (N.node b k v h l r).ids) w w1 := hp.fr.mono (fun n _ q => by simp [N.ids, q])
    have f2 : Fr (· ∈ (N.node b k v h l r).ids) w (w1.setCell ⟨b, 3, none⟩ l'.ptr) := f1.setCell (p := ⟨b, 3, none⟩) (fun _ => by simp [N.ids]) _
    refine f2.trans hd.2.2 (fun n hn q => ?_)
    rcases List.mem_cons.1 q with e | e
    · rw [e]; simp [N.ids]
    · rcases List.mem_append.1 e with e | e
      · exact (hp.ids n e).elim (fun z => by simp [N.ids, z]) (fun z => by omega)
      · simp [N.ids, e]
theorem step_right {base : Nat} {b : Nat} {k v h : Int} {l r r' : N} {w w1 w3 : World} {t' : N} (g : Good base w (.node b k v h l r)) (hp : Put base r r' w w1)
    (hd : t'.In w3 ∧ t'.ids.Perm (N.node b k v h l r').ids ∧ Fr (· ∈ (N.node b k v h l r').ids) (w1.setCell ⟨b, 4, none⟩ r'.ptr) w3) : Put base (.node b k v h l r) t' w w3 := by
  obtain ⟨n1, n2, n3, n4, n5⟩ := nodup_node g.nodup
  have hlt := N.In.lt g.mem
  have nd : (N.node b k v h l r').ids.Nodup := nodup_mk n1 (fun hm => (hp.ids b hm).elim n2 (fun hq => by have := hlt b (by simp [N.ids]); omega)) n3 hp.nodup
    (fun x hx hy => (hp.ids x hy).elim (fun hq => n5 x hx hq) (fun hq => by have := hlt x (by simp [N.ids, hx]); omega))
  refine ⟨hd.1, hd.2.1.nodup_iff.2 nd, fun x hx => ?_, ?_⟩
  · rcases List.mem_cons.1 (hd.2.1.mem_iff.1 hx) with e | e
    · rw [e]; left; simp [N.ids]
    · rcases List.mem_append.1 e with e | e
      · left; simp [N.ids, e]
      · exact (hp.ids x e).imp (fun q => by simp [N.ids, q]) id
  · have f1 : Fr (· ∈ (N.node b k v h l r).ids) w w1 := hp.fr.mono (fun n _ q => by simp [N.ids, q])
    have f2 : Fr (· ∈ (N.node b k v h l r).ids) w (w1.setCell ⟨b, 4, none⟩ r'.ptr) := f1.setCell (p := ⟨b, 4, none⟩) (fun _ => by simp [N.ids]) _
    refine f2.trans hd.2.2 (fun n hn q => ?_)
    rcases List.mem_cons.1 q with e | e
    · rw [e]; simp [N.ids]
    · rcases List.mem_append.1 e with e | e
      · simp [N.ids, e]
      · exact (hp.ids n e).elim (fun z => by simp [N.ids, z]) (fun z => by omega)
/-- The node behind the store of a changed left part. -/
theorem mem_left {base : Nat} {b : Nat} {k v h : Int} {l r l' : N} {w w1 : World} (g : Good base w (.node b k v h l r)) (hp : Put base l l' w w1) :
    (N.node b k v h l' r).In (w1.setCell ⟨b, 3, none⟩ l'.ptr) ∧ (N.node b k v h l' r).ids.Nodup ∧ Blk w1 b #[.int .i64 k, .int .i64 v, .int .i64 h, l.ptr, r.ptr] 119 := by
  obtain ⟨n1, n2, n3, n4, n5⟩ := nodup_node g.nodup
  have hlt := N.In.lt g.mem
  have hb1 : b ∉ l'.ids := fun hm => (hp.ids b hm).elim n1 (fun hq => by have := hlt b (by simp [N.ids]); omega)
  have B1 : Blk w1 b #[.int .i64 k, .int .i64 v, .int .i64 h, l.ptr, r.ptr] 119 := g.mem.1.fr hp.fr n1
  have f2 : Fr (· = b) w1 (w1.setCell ⟨b, 3, none⟩ l'.ptr) := Fr.setCell (S := (· = b)) (Fr.refl _ _) (p := ⟨b, 3, none⟩) (fun _ => rfl) _
  refine ⟨⟨B1.set 3 _, N.In.fr f2 hp.mem (fun x hx e => hb1 (e ▸ hx)), N.In.fr f2 (N.In.fr hp.fr g.mem.2.2 (fun x hx hy => n5 x hy hx)) (fun x hx e => n2 (e ▸ hx))⟩, ?_, B1⟩
  exact nodup_mk hb1 n2 hp.nodup n4 (fun x hx hy => (hp.ids x hx).elim (fun hq => n5 x hq hy) (fun hq => by have := hlt x (by simp [N.ids, hy]); omega))
theorem mem_right {base : Nat} {b : Nat} {k v h : Int} {l r r' : N} {w w1 : World} (g : Good base w (.node b k v h l r)) (hp : Put base r r' w w1) :
    (N.node b k v h l r').In (w1.setCell ⟨b, 4, none⟩ r'.ptr) ∧ (N.node b k v h l r').ids.Nodup ∧ Blk w1 b #[.int .i64 k, .int .i64 v, .int .i64 h, l.ptr, r.ptr] 119 := by
  obtain ⟨n1, n2, n3, n4, n5⟩ := nodup_node g.nodup
  have hlt := N.In.lt g.mem
  have hb1 : b ∉ r'.ids := fun hm => (hp.ids b hm).elim n2 (fun hq => by have := hlt b (by simp [N.ids]); omega)
  have B1 : Blk w1 b #[.int .i64 k, .int .i64 v, .int .i64 h, l.ptr, r.ptr] 119 := g.mem.1.fr hp.fr n2
  have f2 : Fr (· = b) w1 (w1.setCell ⟨b, 4, none⟩ r'.ptr) := Fr.setCell (S := (· = b)) (Fr.refl _ _) (p := ⟨b, 4, none⟩) (fun _ => rfl) _
  refine ⟨⟨B1.set 4 _, N.In.fr f2 (N.In.fr hp.fr g.mem.2.1 (fun x hx hy => n5 x hx hy)) (fun x hx e => n1 (e ▸ hx)), N.In.fr f2 hp.mem (fun x hx e => hb1 (e ▸ hx))⟩, ?_, B1⟩
  exact nodup_mk n1 hb1 n3 hp.nodup (fun x hx hy => (hp.ids x hy).elim (fun hq => n5 x hx hq) (fun hq => by have := hlt x (by simp [N.ids, hx]); omega))
theorem cmp_lt {t : List Int} {a b : Int} (h : rankOf t a < rankOf t b) : cmp t a b = -1 := if_pos h
theorem cmp_gt {t : List Int} {a b : Int} (h : rankOf t b < rankOf t a) : cmp t a b = 1 := by unfold cmp; rw [if_neg (by omega), if_pos h]
theorem cmp_eq {t : List Int} {a b : Int} (h : ¬ rankOf t a < rankOf t b) (h' : ¬ rankOf t b < rankOf t a) : cmp t a b = 0 := by unfold cmp; rw [if_neg h, if_neg h']
/-- What add leaves. -/
def Added (base : Nat) (tb : List Int) (key val : Int) (t : N) (w : World) (e : Ending) (w' : World) : Prop :=
  ∃ t' : N, e = .returned t'.ptr ∧ t'.raw = T.ins (rankOf tb) key val t.raw ∧ Put base t t' w w'
theorem add_nil (base : Nat) (tb : List Int) (key val : Int) (lv : Value) (w : World) :
    Calls Try.prog 83 #[.pointer none, .int .i64 key, .int .i64 val, lv] w (Added base tb key val .nil w) := by
  go_enter Try.func83, Try.ntmps83
  go_wp2_with fail
  go_ret
  exact ⟨.node w.heap.size key val 1 .nil .nil, rfl, rfl, ⟨Blk.new w _ _, trivial, trivial⟩, by simp [N.ids], fun b hb => .inr (by simp [N.ids] at hb; omega), (Fr.refl _ _).alloc _⟩
set_option maxHeartbeats 1600000 in
theorem add_any (base : Nat) (tb : List Int) (key val : Int) (lv : Value) : ∀ (t : N) (w : World), Good base w t → t.raw.tall ≤ 4294950000 → base ≤ w.heap.size → LessS base w lv tb →
    Calls Try.prog 83 #[t.ptr, .int .i64 key, .int .i64 val, lv] w (Added base tb key val t w)
  | .nil, w, _, _, _, _ => add_nil base tb key val lv w
  | .node b k v h l r, w, g, ht, hbs, hL => by
    have tn : (N.node b k v h l r).raw.tall = 1 + max l.raw.tall r.raw.tall := rfl
    have tl := T.tall_nonneg l.raw
    have tr := T.tall_nonneg r.raw
    have HG : Hid (Good base w (.node b k v h l r)) := g
    have HL : Hid (LessS base w lv tb) := hL
    have c0 : w.cell? ⟨b, 0, none⟩ = some (.int .i64 k) := g.mem.1.cell 0
    have c3 : w.cell? ⟨b, 3, none⟩ = some l.ptr := g.mem.1.cell 3
    have c4 : w.cell? ⟨b, 4, none⟩ = some r.ptr := g.mem.1.cell 4
    have HT : Hid (l.raw.tall ≤ 4294950000 ∧ r.raw.tall ≤ 4294950000) := ⟨by omega, by omega⟩
    clear g hL
    show Calls Try.prog 83 #[.pointer (some ⟨b, 0, none⟩), .int .i64 key, .int .i64 val, lv] w _
    by_cases h1 : rankOf tb key < rankOf tb k
    · have HC : Hid (cmp tb key k = -1) := cmp_lt h1
      have HR : Hid (T.ins (rankOf tb) key val (N.node b k v h l r).raw = T.reb (.node k v h (T.ins (rankOf tb) key val l.raw) r.raw)) := if_pos h1
      clear h1 ht tn tl tr
      go_enter Try.func83, Try.ntmps83
      go_wp2_with fail
      refine (compare_any lv tb key k _ HL.out.now).mono ?_
      rintro e w1 ⟨rfl, n, rfl⟩
      rw [HC.out]
      go_wp2_with fail
      refine (add_any base tb key val lv l (w.drewN n) (HG.out.lf.drewN n) HT.out.1 (by simpa using hbs) (HL.out.drewN n)).mono ?_
      rintro e w1 ⟨l', rfl, hraw, hput⟩
      have hput' : Put base l l' w w1 := ⟨hput.mem, hput.nodup, hput.ids, ⟨hput.fr.os, hput.fr.tape, hput.fr.output, hput.fr.size, hput.fr.block⟩⟩
      obtain ⟨m1, m2, B1⟩ := mem_left HG.out hput'
      have d3 : w1.cell? ⟨b, 3, none⟩ = some l.ptr := B1.cell 3
      have f3 : w1.frozen? ⟨b, 3, none⟩ = false := B1.free 3
      have HM : Hid ((N.node b k v h l' r).In (w1.setCell ⟨b, 3, none⟩ l'.ptr) ∧ (N.node b k v h l' r).ids.Nodup ∧ l'.raw = T.ins (rankOf tb) key val l.raw ∧ Put base l l' w w1) := ⟨m1, m2, hraw, hput'⟩
      obtain ⟨u, hu⟩ := l'.ptr_some
      rw [hu] at HM ⊢
      have HU : Hid (l'.ptr = .pointer u) := hu
      clear m1 m2 B1 hraw hput hput' hu
      go_wp2_with fail
      refine (reb_any (.node b k v h l' r) _ HM.out.1 HM.out.2.1 (fun b' k' v' h' l2 r2 e => ?_)).mono ?_
      · injection e with e1 e2 e3 e4 e5 e6
        subst e5 e6
        exact ⟨⟨by rw [HM.out.2.2.1]; exact T.right_ins _ _ _ HG.out.lf.right, by
          rw [HM.out.2.2.1]
          have := (T.even_ins (rankOf tb) key val HG.out.lf.right HG.out.lf.even).2
          have := HT.out
          omega⟩, HG.out.rt.part (by have := HT.out; omega)⟩
      rintro e w3 ⟨t', rfl, i1, i2, i3, i4⟩
      have HD : Hid (t'.In w3 ∧ t'.raw = T.reb (N.node b k v h l' r).raw ∧ t'.ids.Perm (N.node b k v h l' r).ids ∧ Fr (· ∈ (N.node b k v h l' r).ids) (w1.setCell ⟨b, 3, none⟩ (.pointer u)) w3) := ⟨i1, i2, i3, i4⟩
      clear i1 i2 i3 i4
      go_wp2_with fail
      go_ret
      obtain ⟨i1, i2, i3, i4⟩ := HD.out
      rw [← HU.out] at i4
      exact ⟨t', rfl, by rw [i2, HR.out]; show T.reb (.node k v h l'.raw r.raw) = _; rw [HM.out.2.2.1], step_left HG.out HM.out.2.2.2 ⟨i1, i3, i4⟩⟩
    · have h1' : ¬ rankOf tb key < rankOf tb k := h1
      by_cases h2 : rankOf tb k < rankOf tb key
      · have HC : Hid (cmp tb key k = 1) := cmp_gt h2
        have HR : Hid (T.ins (rankOf tb) key val (N.node b k v h l r).raw = T.reb (.node k v h l.raw (T.ins (rankOf tb) key val r.raw))) := (if_neg h1).trans (if_pos h2)
        clear h1 h1' h2 ht tn tl tr
        go_enter Try.func83, Try.ntmps83
        go_wp2_with fail
        refine (compare_any lv tb key k _ HL.out.now).mono ?_
        rintro e w1 ⟨rfl, n, rfl⟩
        rw [HC.out]
        go_wp2_with fail
        refine (compare_any lv tb key k _ (HL.out.drewN n).now).mono ?_
        rintro e w1 ⟨rfl, n', rfl⟩
        rw [HC.out]
        go_wp2_with fail
        refine (add_any base tb key val lv r (w.drewN (n + n')) (HG.out.rt.drewN (n + n')) HT.out.2 (by simpa using hbs) (HL.out.drewN (n + n'))).mono ?_
        rintro e w1 ⟨r', rfl, hraw, hput⟩
        have hput' : Put base r r' w w1 := ⟨hput.mem, hput.nodup, hput.ids, ⟨hput.fr.os, hput.fr.tape, hput.fr.output, hput.fr.size, hput.fr.block⟩⟩
        obtain ⟨m1, m2, B1⟩ := mem_right HG.out hput'
        have d4 : w1.cell? ⟨b, 4, none⟩ = some r.ptr := B1.cell 4
        have f4 : w1.frozen? ⟨b, 4, none⟩ = false := B1.free 4
        have HM : Hid ((N.node b k v h l r').In (w1.setCell ⟨b, 4, none⟩ r'.ptr) ∧ (N.node b k v h l r').ids.Nodup ∧ r'.raw = T.ins (rankOf tb) key val r.raw ∧ Put base r r' w w1) := ⟨m1, m2, hraw, hput'⟩
        obtain ⟨u, hu⟩ := r'.ptr_some
        rw [hu] at HM ⊢
        have HU : Hid (r'.ptr = .pointer u) := hu
        clear m1 m2 B1 hraw hput hput' hu
        go_wp2_with fail
        refine (reb_any (.node b k v h l r') _ HM.out.1 HM.out.2.1 (fun b' k' v' h' l2 r2 e => ?_)).mono ?_
        · injection e with e1 e2 e3 e4 e5 e6
          subst e5 e6
          exact ⟨HG.out.lf.part (by have := HT.out; omega), ⟨by rw [HM.out.2.2.1]; exact T.right_ins _ _ _ HG.out.rt.right, by
            rw [HM.out.2.2.1]
            have := (T.even_ins (rankOf tb) key val HG.out.rt.right HG.out.rt.even).2
            have := HT.out
            omega⟩⟩
        rintro e w3 ⟨t', rfl, i1, i2, i3, i4⟩
        have HD : Hid (t'.In w3 ∧ t'.raw = T.reb (N.node b k v h l r').raw ∧ t'.ids.Perm (N.node b k v h l r').ids ∧ Fr (· ∈ (N.node b k v h l r').ids) (w1.setCell ⟨b, 4, none⟩ (.pointer u)) w3) := ⟨i1, i2, i3, i4⟩
        clear i1 i2 i3 i4
        go_wp2_with fail
        go_ret
        obtain ⟨i1, i2, i3, i4⟩ := HD.out
        rw [← HU.out] at i4
        exact ⟨t', rfl, by rw [i2, HR.out]; show T.reb (.node k v h l.raw r'.raw) = _; rw [HM.out.2.2.1], step_right HG.out HM.out.2.2.2 ⟨i1, i3, i4⟩⟩
      · have HC : Hid (cmp tb key k = 0) := cmp_eq h1 h2
        have HR : Hid (T.ins (rankOf tb) key val (N.node b k v h l r).raw = T.reb (.node k val h l.raw r.raw)) := (if_neg h1).trans (if_neg h2)
        have f1 : w.frozen? ⟨b, 1, none⟩ = false := HG.out.mem.1.free 1
        have c1 : w.cell? ⟨b, 1, none⟩ = some (.int .i64 v) := HG.out.mem.1.cell 1
        clear h1 h1' h2 ht tn tl tr
        go_enter Try.func83, Try.ntmps83
        go_wp2_with fail
        refine (compare_any lv tb key k _ HL.out.now).mono ?_
        rintro e w1 ⟨rfl, n, rfl⟩
        rw [HC.out]
        go_wp2_with fail
        refine (compare_any lv tb key k _ (HL.out.drewN n).now).mono ?_
        rintro e w1 ⟨rfl, n', rfl⟩
        rw [HC.out]
        go_wp2_with fail
        have F1 : Fr (· = b) w (w.setCell ⟨b, 1, none⟩ (.int .i64 val)) := Fr.setCell (S := (· = b)) (Fr.refl _ _) (p := ⟨b, 1, none⟩) (fun _ => rfl) _
        have M1 : (N.node b k val h l r).In (w.setCell ⟨b, 1, none⟩ (.int .i64 val)) :=
          ⟨HG.out.mem.1.set 1 _, N.In.fr F1 HG.out.mem.2.1 (fun x hx e => (nodup_node HG.out.nodup).1 (e ▸ hx)), N.In.fr F1 HG.out.mem.2.2 (fun x hx e => (nodup_node HG.out.nodup).2.1 (e ▸ hx))⟩
        refine (reb_any (.node b k val h l r) _ (M1.drewN (n + n')) HG.out.nodup (fun b' k' v' h' l2 r2 e => ?_)).mono ?_
        · injection e with e1 e2 e3 e4 e5 e6
          subst e5 e6
          exact ⟨HG.out.lf.part (by have := HT.out; omega), HG.out.rt.part (by have := HT.out; omega)⟩
        rintro e w3 ⟨t', rfl, i1, i2, i3, i4⟩
        have HD : Hid (t'.In w3 ∧ t'.raw = T.reb (N.node b k val h l r).raw ∧ t'.ids.Perm (N.node b k val h l r).ids ∧ Fr (· ∈ (N.node b k val h l r).ids) ((w.setCell ⟨b, 1, none⟩ (.int .i64 val)).drewN (n + n')) w3 ∧ Fr (· = b) w (w.setCell ⟨b, 1, none⟩ (.int .i64 val))) := ⟨i1, i2, i3, i4, F1⟩
        clear i1 i2 i3 i4 F1 M1
        go_wp2_with fail
        go_ret
        obtain ⟨i1, i2, i3, i4, i5⟩ := HD.out
        exact ⟨t', rfl, by rw [i2, HR.out]; rfl, i1, i3.nodup_iff.2 HG.out.nodup, fun x hx => .inl (i3.mem_iff.1 hx), ((fr_drewN i5 (n + n')).mono (fun x _ e => by rw [e]; simp [N.ids])).trans i4 (fun _ _ h => h)⟩
end Go.Proofs.Ytjlcebgfknfelaa.Avl

namespace Go.Proofs.Ytjlcebgfknfelaa.Bt
open Go Go.RowKit Go.IntWalk Go.Proofs.Ytjlcebgfknfelaa.Hk Go.Proofs.Ytjlcebgfknfelaa.BtPure Go.Proofs.Ytjlcebgfknfelaa.Less Go.Proofs.YtjlcebgfknfelaaW.PrintWords Go.Proofs.YtjlcebgfknfelaaW.PrintLast Go.Proofs.YtjlcebgfknfelaaW.PrintMore
open Go.Proofs.Ytjlcebgfknfelaa.Avl (LessS cmp_lt cmp_gt cmp_eq)
/-- A tree of so many levels, with the blocks in which its nodes lie. -/
def N : Nat → Type
  | 0 => Nat × List E
  | h + 1 => Nat × List (Int × N h)
def N.blk : (h : Nat) → N h → Nat
  | 0, (t : Nat × List E) => t.1
  | _ + 1, (t : Nat × List (Int × N _)) => t.1
def N.len : (h : Nat) → N h → Nat
  | 0, (t : Nat × List E) => t.2.length
  | _ + 1, (t : Nat × List (Int × N _)) => t.2.length
def N.raw : (h : Nat) → N h → T h
  | 0, (t : Nat × List E) => t.2
  | h + 1, (t : Nat × List (Int × N h)) => t.2.map (fun c => (c.1, N.raw h c.2))
def N.ids : (h : Nat) → N h → List Nat
  | 0, (t : Nat × List E) => [t.1]
  | h + 1, (t : Nat × List (Int × N h)) => t.1 :: t.2.flatMap (fun c => N.ids h c.2)
/-- What the places of a node hold, of a leaf's entries, or of an inner node's parts. -/
def Rep0 (q : Q) (x : E) : Prop := q.k = x.1 ∧ q.v = x.2.1 ∧ q.ok = x.2.2
def Rep1 {h : Nat} (q : Q) (c : Int × N h) : Prop := q.k = c.1 ∧ q.p = some ⟨N.blk h c.2, 0, none⟩
def Rep {α : Type} (R : Q → α → Prop) (g : Nat → Q) (l : List α) : Prop := ∀ i x, l[i]? = some x → R (g i) x
def N.In (w : World) : (h : Nat) → N h → Prop
  | 0, (t : Nat × List E) => ∃ g, Nd w t.1 t.2.length g ∧ Rep Rep0 g t.2
  | h + 1, (t : Nat × List (Int × N h)) => (∃ g, Nd w t.1 t.2.length g ∧ Rep Rep1 g t.2) ∧ ∀ c ∈ t.2, N.In w h c.2
/-- Each node has sixty-three entries at most, and each inner node one at least. -/
def N.Fit : (h : Nat) → N h → Prop
  | 0, (t : Nat × List E) => t.2.length ≤ 63
  | h + 1, (t : Nat × List (Int × N h)) => t.2.length ≤ 63 ∧ 1 ≤ t.2.length ∧ ∀ c ∈ t.2, N.Fit h c.2
theorem N.blk_in : ∀ {h : Nat} (t : N h), N.blk h t ∈ N.ids h t
  | 0, t => by show t.1 ∈ [t.1]; simp
  | h + 1, t => by show t.1 ∈ t.1 :: _; simp
theorem N.In.lt {w : World} : ∀ {h : Nat} {t : N h}, N.In w h t → ∀ b ∈ N.ids h t, b < w.heap.size
  | 0, t, ⟨g, hN, _⟩, b, hb => by
    have hb' : b ∈ [t.1] := hb
    rw [List.mem_singleton.1 hb']; exact hN.lt
  | h + 1, t, ⟨⟨g, hN, _⟩, hc⟩, b, hb => by
    have hb' : b ∈ t.1 :: t.2.flatMap (fun c => N.ids h c.2) := hb
    rcases List.mem_cons.1 hb' with rfl | hb'
    · exact hN.lt
    · obtain ⟨c, hm, hb'⟩ := List.mem_flatMap.1 hb'
      exact N.In.lt (hc c hm) b hb'
theorem N.In.kept {w w' : World} : ∀ {h : Nat} {t : N h}, N.In w h t → (∀ b ∈ N.ids h t, w'.heap[b]? = w.heap[b]?) → N.In w' h t
  | 0, t, ⟨g, hN, hR⟩, hk => ⟨g, (hk t.1 (by show t.1 ∈ [t.1]; simp)).trans hN, hR⟩
  | h + 1, t, ⟨⟨g, hN, hR⟩, hc⟩, hk => ⟨⟨g, (hk t.1 (by show t.1 ∈ t.1 :: _; simp)).trans hN, hR⟩, fun c hm => N.In.kept (hc c hm) (fun b hb => hk b (by
    show b ∈ t.1 :: t.2.flatMap (fun c => N.ids h c.2)
    exact List.mem_cons_of_mem _ (List.mem_flatMap.2 ⟨c, hm, hb⟩)))⟩
theorem N.In.fr {S : Nat → Prop} {w w' : World} {h : Nat} {t : N h} (hi : N.In w h t) (hf : Fr S w w') (hn : ∀ b ∈ N.ids h t, ¬ S b) : N.In w' h t :=
  hi.kept (fun b hb => hf.block b (hi.lt b hb) (hn b hb))
theorem N.In.below {w w' : World} {h : Nat} {t : N h} (hi : N.In w h t) (hb : Below w.heap.size w w') : N.In w' h t :=
  hi.kept (fun b hm => hb.block b (hi.lt b hm))
theorem arr_cells (g : Nat → Q) : ∀ j v, (arrC g).toList[j]? = some v → j < 256 ∧ (arrC g)[j]? = some v := fun j v hv => by
  rw [Array.getElem?_toList] at hv
  have := (Array.getElem?_eq_some_iff.1 hv).1
  rw [arr_size] at this
  exact ⟨this, hv⟩
theorem Nd.arr {w : World} {b : Nat} {m : Int} {g : Nat → Q} (h : Nd w b m g) : w.rangeAt b 1 (arrC g).toList := fun j v hv => by
  obtain ⟨hj, hv⟩ := arr_cells g j v hv
  rw [Blk.cell h, show 1 + j = j + 1 by omega, cells_arr m g j hj, hv]
theorem zero_arr : Try.zeroCells111 = arrC (fun _ => q0) := by kernel_rfl
/-- The copy of a node's array. -/
def Cp (w : World) (b : Nat) (g : Nat → Q) : Prop := Blk w b (arrC g) 111
theorem Cp.at {w : World} {b : Nat} {g : Nat → Q} (h : Cp w b g) (x f : Nat) (hx : x < 64) (hf : f < 4) : w.cell? ⟨b, x * 4 + f, none⟩ = some ((g x).cell f) := by
  rw [Blk.cell h, show x * 4 + f = 4 * x + f by omega, arr_at _ _ _ hx hf]
theorem one_arr (g : Nat → Q) : (arrC g).all (·.oneCell') = true := by
  refine Array.all_eq_true_iff_forall_mem.2 (fun v hv => ?_)
  obtain ⟨i, hi⟩ := Array.mem_iff_getElem?.1 hv
  have h256 := (Array.getElem?_eq_some_iff.1 hi).1
  rw [arr_size] at h256
  have h1 := arr_at g (i / 4) (i % 4) (by omega) (by omega)
  rw [show 4 * (i / 4) + i % 4 = i by omega, hi] at h1
  obtain rfl := Option.some.inj h1
  have : ∀ (q : Q) (f : Nat), (q.cell f).oneCell' = true := fun q f => by
    match f with
    | 0 => rfl
    | 1 => rfl
    | 2 => rfl
    | _ + 3 => rfl
  exact this _ _
theorem below_le {a base : Nat} {w w' : World} (h : Below a w w') (hb : base ≤ a) : Below base w w' := ⟨h.os, h.tape, h.output, h.size, fun k hk => h.block k (Nat.lt_of_lt_of_le hk hb)⟩
theorem below_dr {base : Nat} {a w : World} (h : Below base a w) : Below base a w.drew := ⟨h.os, h.tape, h.output, h.size, h.block⟩
theorem Nd.below {w w' : World} {b base : Nat} {m : Int} {g : Nat → Q} (h : Nd w b m g) (hb : Below base w w') (hn : b < base) : Nd w' b m g := Blk.below h hb hn
section
variable {P : Program} {ops : Array Oper} {Q : Exit → Act → World → Prop} {op : Oper} {rest : List Oper} {a a' : Act} {w w' : World} {v : Value} {M : Option Tmp}
theorem l_val (hg : op.guard = none) (hN : op.dst = M) (hrun : (execOp a.eval op).run P w = .ok (.value v) w') (ha : a.put M v = a') (h : wpList P ops Q rest a' w') : wpList P ops Q (op :: rest) a w :=
  wpList_plain hg fun K hK => by
    unfold Oper.wp
    rw [hrun]
    subst hN ha
    exact hK _ _ h
theorem l_skip (hg : op.guard = none) (hN : op.dst = none) (hrun : (execOp a.eval op).run P w = .ok .skip w') (h : wpList P ops Q rest a w') : wpList P ops Q (op :: rest) a w :=
  wpList_plain hg fun K hK => by
    unfold Oper.wp
    rw [hrun]
    show K (a.put op.dst undef) w'
    rw [hN]
    exact hK _ _ h
end
/-- The copy is laid into the block that was made last. -/
theorem copy_ {ops : Array Oper} {Qx : Exit → Act → World → Prop} {op : Oper} {rest : List Oper} {a : Act} {w : World} {g : Nat → Q} (hg : op.guard = none) (hd : op.dst = none) (ho : op.op = .store 111 (.tmp 10) (.tmp 17)) (hx : a.eval (.tmp 10) = .pointer (some ⟨w.heap.size, 0, none⟩)) (hy : a.eval (.tmp 17) = .agg (arrC g).toList.toArray)
    (hz : (Try.prog.info? 111).map (·.size) = some 256) (h : wpList Try.prog ops Qx rest a (w.alloc (.cells (arrC g) 111))) : wpList Try.prog ops Qx (op :: rest) a (w.alloc (.cells Try.zeroCells111 111)) := by
  rw [Array.toArray_toList] at hy
  refine l_skip hg hd ?_ h
  simp only [execOp, ho, hx, hy]
  have := run_storeAt_new (P := Try.prog) w 111 Try.zeroCells111 (arrC g) (by rw [arr_size]; exact hz) (by rw [zero_arr, arr_size, arr_size]) (one_arr g)
  simp [this, Result.andThen]
theorem find_at {tb : List Int} (key : Int) : ∀ {es : List E} {i : Nat} {x : E}, (∀ y e, y < i → es[y]? = some e → rankOf tb key ≠ rankOf tb e.1) → es[i]? = some x → rankOf tb key = rankOf tb x.1 → findL (rankOf tb) key es = some x
  | [], _, _, _, h, _ => by simp at h
  | e :: es, 0, x, _, h, hk => by
    obtain rfl : e = x := by simpa using h
    unfold findL
    rw [List.find?_cons_of_pos (by simpa using hk)]
  | e :: es, i + 1, x, hn, h, hk => by
    have h0 := hn 0 e (by omega) rfl
    have ih := find_at key (es := es) (i := i) (fun y e' hy he => hn (y + 1) e' (by omega) (by simpa using he)) (by simpa using h) hk
    unfold findL at ih ⊢
    rw [List.find?_cons_of_neg (by simpa using h0)]
    exact ih
theorem pick_at {α : Type} {r : Int → Int} (k : Int) : ∀ {cs : List (Int × α)} {j : Nat} {c : Int × α}, (∀ y d, 1 ≤ y → y ≤ j → cs[y]? = some d → ¬ r k < r d.1) → cs[j]? = some c → (j + 1 = cs.length ∨ ∃ d, cs[j + 1]? = some d ∧ r k < r d.1) → pick r k cs = some c.2
  | [], _, _, _, h, _ => by simp at h
  | [c'], 0, c, _, h, _ => by
    obtain rfl : c' = c := by simpa using h
    rfl
  | [c'], j + 1, c, _, h, _ => by simp at h
  | c' :: d :: cs, 0, c, _, h, hd => by
    obtain rfl : c' = c := by simpa using h
    rw [pick, if_pos]
    rcases hd with hd | ⟨d', h1, h2⟩
    · simp at hd
    · obtain rfl : d = d' := by simpa using h1
      exact h2
  | c' :: d :: cs, j + 1, c, hn, h, hd => by
    have h1 := hn 1 d (Nat.le_refl _) (by omega) rfl
    rw [pick, if_neg h1]
    refine pick_at k (cs := d :: cs) (j := j) (fun y e hy hle he => hn (y + 1) e (by omega) (by omega) (by simpa using he)) (by simpa using h) ?_
    rcases hd with hd | ⟨d', h2, h3⟩
    · left; simp only [List.length_cons] at hd ⊢; omega
    · exact .inr ⟨d', by simpa using h2, h3⟩
set_option maxHeartbeats 4000000 in
set_option maxRecDepth 100000 in
theorem search_leaf (base R : Nat) (tb : List Int) (key n H : Int) (rp lv : Value) (t : N 0) (w : World) (hI : N.In w 0 t) (hF : N.Fit 0 t) (hR : Blk w R #[rp, .int .i64 H, .int .i64 n, lv] 115) (hL : LessS base w lv tb) (hb : base ≤ w.heap.size) :
    Calls Try.prog 93 #[.pointer (some ⟨R, 0, none⟩), .pointer (some ⟨N.blk 0 t, 0, none⟩), .int .i64 key, .int .i64 0] w fun e w' =>
      e = .returned (.tuple #[.int .i64 (tell (T.find (rankOf tb) key 0 (N.raw 0 t))).1, .bool (tell (T.find (rankOf tb) key 0 (N.raw 0 t))).2]) ∧ Below w.heap.size w w' := by
  obtain ⟨b, es⟩ := t
  obtain ⟨g, hN, hP⟩ := hI
  have HN : Hid (Nd w b es.length g) := hN
  have HP : Hid (Rep Rep0 g es) := hP
  have HF : Hid (es.length ≤ 63) := hF
  have HR := hid hR
  have HL := hid hL
  have HB := hid hb
  clear hN hP hF hR hL hb
  show Calls Try.prog 93 #[.pointer (some ⟨R, 0, none⟩), .pointer (some ⟨b, 0, none⟩), .int .i64 key, .int .i64 0] w fun e w' => e = .returned (.tuple #[.int .i64 (tell (findL (rankOf tb) key es)).1, .bool (tell (findL (rankOf tb) key es)).2]) ∧ Below w.heap.size w w'
  have HZ : Hid ((Try.prog.info? 111).map (·.size) = some 256) := (by kernel_rfl : (Try.prog.info? 111).map (·.size) = some 256)
  go_enter Try.func93, Try.ntmps93
  go_upto_region 1 with fail
  refine wp_region_lit ?_
  refine l_val (v := .pointer (some ⟨b, 0, none⟩)) rfl rfl (by rfl) rfl ?_
  refine l_val rfl rfl (by rfl) rfl ?_
  refine l_val (v := .pointer (some ⟨b, 1, none⟩)) (w' := w) rfl rfl ?_ rfl ?_
  · go_simp
  refine wpList_load_mid rfl 111 (.tmp 16) rfl b 1 rfl (arrC g).toList (.array 64 110) HN.out.arr Try.underlying111 rfl (by rw [Array.length_toList, arr_size]; exact HZ.out) ?_
  refine l_val (v := .pointer (some ⟨w.heap.size, 0, none⟩)) (w' := w.alloc (.cells Try.zeroCells111 111)) rfl rfl ?_ rfl ?_
  · go_simp
  refine copy_ (g := g) rfl rfl rfl rfl rfl HZ.out ?_
  refine wpList_nil ?_
  simp only [Act.put, List.setIfInBounds_toArray, List.set_cons_zero, List.set_cons_succ]
  have HC : Hid (Cp (w.alloc (.cells (arrC g) 111)) w.heap.size g) := Blk.new w _ _
  have HW : Hid (Below w.heap.size w (w.alloc (.cells (arrC g) 111))) := (Below.refl _ _).alloc (Nat.le_refl _) _
  generalize (arrC g).toList.toArray = AG
  generalize w.alloc (.cells (arrC g) 111) = W at HC HW ⊢
  go_wp2_with fail
  go_loopg [11] es.length (fun n_ v11 wr => ∃ i : Nat, v11 = .int .i64 i ∧ i ≤ es.length ∧ Hid (n_ + i = es.length) ∧ Hid (Below w.heap.size w wr ∧ Cp wr w.heap.size g ∧ ∀ x e, x < i → es[x]? = some e → rankOf tb key ≠ rankOf tb e.1))
  case atStart => exact ⟨0, rfl, Nat.zero_le _, Nat.add_zero _, HW.out, HC.out, fun x e hx => absurd hx (Nat.not_lt_zero _)⟩
  case round =>
    obtain ⟨i, rfl, hi, HG, HI⟩ := hrel
    have c0 : wr.cell? ⟨b, 0, none⟩ = some (.int .i64 es.length) := (Nd.below HN.out HI.out.1 HN.out.lt).m0
    by_cases hlt : i < es.length
    · have hx : es[i]? = some es[i] := List.getElem?_eq_getElem hlt
      have h64 : i < 64 := by have := HF.out; omega
      generalize es[i] = x at hx
      have hk := (HP.out i x hx).1
      have hv := (HP.out i x hx).2.1
      have ho := (HP.out i x hx).2.2
      have a0 : wr.cell? ⟨w.heap.size, i * 4, none⟩ = some (.int .i64 x.1) := by rw [← hk]; exact HI.out.2.1.at i 0 h64 (by omega)
      have a1 : wr.cell? ⟨w.heap.size, i * 4 + 1, none⟩ = some (.int .i64 x.2.1) := by rw [← hv]; exact HI.out.2.1.at i 1 h64 (by omega)
      have a2 : wr.cell? ⟨w.heap.size, i * 4 + 2, none⟩ = some (.bool x.2.2) := by rw [← ho]; exact HI.out.2.1.at i 2 h64 (by omega)
      have c3 : wr.cell? ⟨R, 3, none⟩ = some lv := (HR.out.below HI.out.1 HR.out.lt).cell 3
      have HX := hid hx
      have HLV : Hid (LessV wr.drew lv tb) := (HL.out.to (below_le HI.out.1 HB.out)).drewN 1 |>.now
      clear hk hv ho hx
      have r1 : (i : Int) < 64 := by omega
      have hlti : (i : Int) < es.length := by omega
      go_upto_region 6 with fail
      refine still_tail_drew 9 (by kernel_rfl) (by kernel_rfl) ?_
      simp only [List.take_succ_cons, List.take_zero, List.drop_succ_cons, List.drop_zero]
      repeat still_step
      refine wpStill_nil ?_
      go_wp2_with fail
      refine (compare_any lv tb key x.1 _ HLV.out).mono ?_
      rintro e w1 ⟨rfl, q, rfl⟩
      have HS : Hid (Below w.heap.size w (wr.drew.drewN q)) := ⟨HI.out.1.os, HI.out.1.tape, HI.out.1.output, HI.out.1.size, HI.out.1.block⟩
      have HC2 : Hid (Cp (wr.drew.drewN q) w.heap.size g) := HI.out.2.1
      by_cases he : rankOf tb key = rankOf tb x.1
      · have hc : cmp tb key x.1 = 0 := cmp_eq (by omega) (by omega)
        rw [hc]
        have HE := hid he
        clear hc he
        have a1' : (wr.drew.drewN q).cell? ⟨w.heap.size, i * 4 + 1, none⟩ = some (.int .i64 x.2.1) := a1
        have a2' : (wr.drew.drewN q).cell? ⟨w.heap.size, i * 4 + 2, none⟩ = some (.bool x.2.2) := a2
        clear a0 a1 a2 c0 c3
        generalize wr.drew.drewN q = W2 at HS HC2 a1' a2' ⊢
        go_upto_region 7 with fail
        go_region
        go_wp2_with fail
        go_ret2
        rw [find_at key HI.out.2.2 HX.out HE.out]
        exact ⟨rfl, below_dr HS.out⟩
      · have hc : cmp tb key x.1 ≠ 0 := fun h => he (by unfold cmp at h; split at h <;> (try split at h) <;> omega)
        have hc2 : (cmp tb key x.1 == 0) = false := beq_eq_false_iff_ne.2 hc
        have HE := hid he
        clear he a0 a1 a2 c0 c3
        generalize cmp tb key x.1 = cv at hc hc2 ⊢
        generalize wr.drew.drewN q = W2 at HS HC2 ⊢
        go_wp2_with fail
        have hg0 := HG.out
        obtain ⟨k1, rfl⟩ : ∃ k1, gk = k1 + 1 := ⟨gk - 1, by omega⟩
        go_roundg k1
        case measure => omega
        case rel => exact ⟨i + 1, rfl, hlt, by show k1 + (i + 1) = es.length; omega, HS.out, HC2.out, fun y e hy hq => by
          by_cases hyi : y = i
          · subst hyi; rw [HX.out] at hq; obtain rfl := Option.some.inj hq; exact HE.out
          · exact HI.out.2.2 y e (by omega) hq⟩
    · have HNL := hid hlt
      have hlti : ¬ (i : Int) < es.length := by omega
      go_wp2_with fail
      go_ret2
      have hn : findL (rankOf tb) key es = none := List.find?_eq_none.2 (fun e he => by
        obtain ⟨y, hy, rfl⟩ := List.getElem_of_mem he
        simpa using HI.out.2.2 y _ (by omega) (List.getElem?_eq_getElem hy))
      exact ⟨by rw [hn]; rfl, HI.out.1⟩
set_option maxHeartbeats 4000000 in
set_option maxRecDepth 100000 in
theorem search_any (base R : Nat) (tb : List Int) (key n H : Int) (rp lv : Value) : ∀ (h : Nat) (t : N h) (w : World), N.In w h t → N.Fit h t → Blk w R #[rp, .int .i64 H, .int .i64 n, lv] 115 → LessS base w lv tb → base ≤ w.heap.size → h ≤ 1099511627776 →
    Calls Try.prog 93 #[.pointer (some ⟨R, 0, none⟩), .pointer (some ⟨N.blk h t, 0, none⟩), .int .i64 key, .int .i64 h] w fun e w' =>
      e = .returned (.tuple #[.int .i64 (tell (T.find (rankOf tb) key h (N.raw h t))).1, .bool (tell (T.find (rankOf tb) key h (N.raw h t))).2]) ∧ Below w.heap.size w w'
  | 0, t, w, hI, hF, hR, hL, hb, _ => search_leaf base R tb key n H rp lv t w hI hF hR hL hb
  | h + 1, (b, cs), w, hI, hF, hR, hL, hb, hh => by
    obtain ⟨⟨g, hN, hP⟩, hI'⟩ := hI
    have ih := search_any base R tb key n H rp lv h
    have HIH := hid ih
    have HN : Hid (Nd w b cs.length g) := hN
    have HP : Hid (Rep Rep1 g cs) := hP
    have HI1 : Hid (∀ c ∈ cs, N.In w h c.2) := hI'
    have HF : Hid (cs.length ≤ 63 ∧ 1 ≤ cs.length ∧ ∀ c ∈ cs, N.Fit h c.2) := hF
    have HR := hid hR
    have HL := hid hL
    have HB := hid hb
    have HH := hid hh
    clear hN hP hF hR hL hb hI' ih hh
    have HT : ∀ j c, (∀ y d, 1 ≤ y → y ≤ j → cs[y]? = some d → ¬ rankOf tb key < rankOf tb d.1) → cs[j]? = some c → (j + 1 = cs.length ∨ ∃ d, cs[j + 1]? = some d ∧ rankOf tb key < rankOf tb d.1) → T.find (rankOf tb) key (h + 1) (N.raw (h + 1) (b, cs)) = T.find (rankOf tb) key h (N.raw h c.2) := fun j c h1 h2 h3 => by
      show (pick (rankOf tb) key (cs.map (fun c => (c.1, N.raw h c.2)))).bind (fun t => T.find (rankOf tb) key h t) = _
      have p1 : ∀ y d, 1 ≤ y → y ≤ j → (cs.map (fun c => (c.1, N.raw h c.2)))[y]? = some d → ¬ rankOf tb key < rankOf tb d.1 := fun y d hy hle he => by
        rw [List.getElem?_map] at he
        obtain ⟨d', hd, rfl⟩ := Option.map_eq_some_iff.1 he
        exact h1 y d' hy hle hd
      have p2 : (cs.map (fun c => (c.1, N.raw h c.2)))[j]? = some (c.1, N.raw h c.2) := by rw [List.getElem?_map, h2]; rfl
      have p3 : j + 1 = (cs.map (fun c => (c.1, N.raw h c.2))).length ∨ ∃ d, (cs.map (fun c => (c.1, N.raw h c.2)))[j + 1]? = some d ∧ rankOf tb key < rankOf tb d.1 := by
        rcases h3 with h3 | ⟨d, h3, h4⟩
        · exact .inl (by rw [List.length_map]; exact h3)
        · exact .inr ⟨(d.1, N.raw h d.2), by rw [List.getElem?_map, h3]; rfl, h4⟩
      rw [pick_at key p1 p2 p3]
      rfl
    have HTT := hid HT
    clear HT
    show Calls Try.prog 93 #[.pointer (some ⟨R, 0, none⟩), .pointer (some ⟨b, 0, none⟩), .int .i64 key, .int .i64 ((h + 1 : Nat) : Int)] w _
    generalize T.find (rankOf tb) key (h + 1) (N.raw (h + 1) (b, cs)) = FF at HTT ⊢
    have hz : (((h + 1 : Nat) : Int) == 0) = false := beq_eq_false_iff_ne.2 (by omega)
    have hz2 : wrap64 (((h + 1 : Nat) : Int) - 1) = (h : Int) := by have := HH.out; rw [wrap64_in _ (by omega)]; omega
    have HZ : Hid ((Try.prog.info? 111).map (·.size) = some 256) := (by kernel_rfl : (Try.prog.info? 111).map (·.size) = some 256)
    obtain ⟨hv, hhv⟩ : ∃ hv : Int, hv = ((h + 1 : Nat) : Int) := ⟨_, rfl⟩
    rw [← hhv] at hz hz2 ⊢
    have HHV := hid hhv
    clear hhv
    go_enter Try.func93, Try.ntmps93
    go_upto_region 1 with fail
    refine wp_region_lit ?_
    refine l_val (v := .pointer (some ⟨b, 0, none⟩)) rfl rfl (by rfl) rfl ?_
    refine l_val rfl rfl (by rfl) rfl ?_
    refine l_val (v := .pointer (some ⟨b, 1, none⟩)) (w' := w) rfl rfl ?_ rfl ?_
    · go_simp
    refine wpList_load_mid rfl 111 (.tmp 16) rfl b 1 rfl (arrC g).toList (.array 64 110) HN.out.arr Try.underlying111 rfl (by rw [Array.length_toList, arr_size]; exact HZ.out) ?_
    refine l_val (v := .pointer (some ⟨w.heap.size, 0, none⟩)) (w' := w.alloc (.cells Try.zeroCells111 111)) rfl rfl ?_ rfl ?_
    · go_simp
    refine copy_ (g := g) rfl rfl rfl rfl rfl HZ.out ?_
    refine wpList_nil ?_
    simp only [Act.put, List.setIfInBounds_toArray, List.set_cons_zero, List.set_cons_succ]
    have HC : Hid (Cp (w.alloc (.cells (arrC g) 111)) w.heap.size g) := Blk.new w _ _
    have HW : Hid (Below w.heap.size w (w.alloc (.cells (arrC g) 111))) := (Below.refl _ _).alloc (Nat.le_refl _) _
    generalize (arrC g).toList.toArray = AG
    generalize w.alloc (.cells (arrC g) 111) = W at HC HW ⊢
    go_wp2_with fail
    go_loopg [12] cs.length (fun n_ v12 wr => ∃ i : Nat, v12 = .int .i64 i ∧ i < cs.length ∧ Hid (n_ + i = cs.length) ∧ Hid (Below w.heap.size w wr ∧ Cp wr w.heap.size g ∧ ∀ y d, 1 ≤ y → y ≤ i → cs[y]? = some d → ¬ rankOf tb key < rankOf tb d.1))
    case atStart => exact ⟨0, rfl, HF.out.2.1, Nat.add_zero _, HW.out, HC.out, fun y d h1 h2 => by omega⟩
    case round =>
      obtain ⟨i, rfl, hlt, HG, HI⟩ := hrel
      have c0 : wr.cell? ⟨b, 0, none⟩ = some (.int .i64 cs.length) := (Nd.below HN.out HI.out.1 HN.out.lt).m0
      have hx : cs[i]? = some cs[i] := List.getElem?_eq_getElem hlt
      have h63 := HF.out.1
      have hcm : cs[i] ∈ cs := List.getElem_mem hlt
      generalize cs[i] = x at hx hcm
      have hp := (HP.out i x hx).2
      have c3 : wr.cell? ⟨R, 3, none⟩ = some lv := (HR.out.below HI.out.1 HR.out.lt).cell 3
      have HX := hid hx
      have HXF : Hid (N.Fit h x.2 ∧ N.In w h x.2) := ⟨HF.out.2.2 x hcm, HI1.out x hcm⟩
      have HLV : Hid (LessV wr.drew lv tb) := (HL.out.to (below_le HI.out.1 HB.out)).drewN 1 |>.now
      have hlti : (i : Int) < cs.length := by omega
      have hw1 : IntKind.i64.wrap ((i : Int) + 1) = ((i + 1 : Nat) : Int) := by rw [i64_in _ (by omega)]; rfl
      have r1 : (i : Int) < 64 := by omega
      have hp3 : wr.cell? ⟨w.heap.size, i * 4 + 3, none⟩ = some (.pointer (some ⟨N.blk h x.2, 0, none⟩)) := by rw [← hp]; exact HI.out.2.1.at i 3 (by omega) (by omega)
      clear hp hx hcm
      by_cases hl : i + 1 = cs.length
      · have hm : ((cs.length : Int) == ((i + 1 : Nat) : Int)) = true := by rw [hl]; simp
        go_wp2_with fail
        go_quiet ((fail))
        go_wp2_with fail
        have HXD := hid (HXF.out.2.below HI.out.1)
        have HXR : Hid (Blk wr R #[rp, .int .i64 H, .int .i64 n, lv] 115 ∧ LessS base wr lv tb ∧ base ≤ wr.heap.size) := ⟨HR.out.below HI.out.1 HR.out.lt, HL.out.to (below_le HI.out.1 HB.out), Nat.le_trans HB.out HI.out.1.size⟩
        refine (HIH.out x.2 (wr.drewN nq) (N.In.kept HXD.out (fun _ _ => rfl)) HXF.out.1 HXR.out.1 (HXR.out.2.1.drewN nq) HXR.out.2.2 (by have := HH.out; omega)).mono ?_
        rintro e w2 ⟨rfl, hB2⟩
        have HB2 := hid hB2
        clear hB2
        go_wp2_with fail
        go_ret2
        have hB3 : Below w.heap.size w w2 := HI.out.1.trans (below_le ⟨HB2.out.os, HB2.out.tape, HB2.out.output, HB2.out.size, HB2.out.block⟩ HI.out.1.size)
        exact ⟨by rw [HTT.out i x HI.out.2.2 HX.out (.inl hl)]; rfl, hB3⟩
      · have hm : ((cs.length : Int) == ((i + 1 : Nat) : Int)) = false := beq_eq_false_iff_ne.2 (by omega)
        have hl2 : i + 1 < cs.length := by omega
        have hm2 : ((cs.length : Int) == (i : Int) + 1) = false := beq_eq_false_iff_ne.2 (by omega)
        have hm3 : ¬ (cs.length : Int) = (i : Int) + 1 := by omega
        have hm4 : (cs.length == i + 1) = false := beq_eq_false_iff_ne.2 (by omega)
        have hm5 : ¬ cs.length = i + 1 := by omega
        have hx2 : cs[i + 1]? = some cs[i + 1] := List.getElem?_eq_getElem hl2
        generalize cs[i + 1] = x2 at hx2
        have hk2 := (HP.out (i + 1) x2 hx2).1
        have a0 : wr.cell? ⟨w.heap.size, (i + 1) * 4, none⟩ = some (.int .i64 x2.1) := by rw [← hk2]; exact HI.out.2.1.at (i + 1) 0 (by omega) (by omega)
        have HX2 := hid hx2
        clear hk2 hx2
        have HLS : Hid (LessS base wr lv tb) := HL.out.to (below_le HI.out.1 HB.out)
        have r2 : 0 ≤ (i : Int) + 1 ∧ (i : Int) + 1 < 64 := by omega
        have t0 : ((i : Int) + 1).toNat = i + 1 := by omega
        go_wp2_with fail
        go_quiet ((exact Calls.quiet_of (compare_any lv tb key x2.1 _ (HLS.out.drewN _).now)))
        have HXD := hid (HXF.out.2.below HI.out.1)
        have HXR : Hid (Blk wr R #[rp, .int .i64 H, .int .i64 n, lv] 115 ∧ LessS base wr lv tb ∧ base ≤ wr.heap.size) := ⟨HR.out.below HI.out.1 HR.out.lt, HL.out.to (below_le HI.out.1 HB.out), Nat.le_trans HB.out HI.out.1.size⟩
        by_cases hc : rankOf tb key < rankOf tb x2.1
        · have HCC := hid hc
          rw [cmp_lt hc]
          clear hc
          go_wp2_with fail
          refine (HIH.out x.2 (wr.drewN nq) (N.In.kept HXD.out (fun _ _ => rfl)) HXF.out.1 HXR.out.1 (HXR.out.2.1.drewN nq) HXR.out.2.2 (by have := HH.out; omega)).mono ?_
          rintro e w2 ⟨rfl, hB2⟩
          have HB2 := hid hB2
          clear hB2
          go_wp2_with fail
          go_ret2
          have hB3 : Below w.heap.size w w2 := HI.out.1.trans (below_le ⟨HB2.out.os, HB2.out.tape, HB2.out.output, HB2.out.size, HB2.out.block⟩ HI.out.1.size)
          exact ⟨by rw [HTT.out i x HI.out.2.2 HX.out (.inr ⟨x2, HX2.out, HCC.out⟩)]; rfl, hB3⟩
        · have HCC := hid hc
          have hcz : (0 : Int) ≤ cmp tb key x2.1 := by unfold cmp; rw [if_neg hc]; split <;> omega
          have hcz2 : ¬ cmp tb key x2.1 < 0 := by omega
          have hcz3 : decide (cmp tb key x2.1 < 0) = false := decide_eq_false hcz2
          clear hc
          generalize cmp tb key x2.1 = cv at hcz hcz2 hcz3 ⊢
          go_wp2_with fail
          have hg0 := HG.out
          obtain ⟨k1, rfl⟩ : ∃ k1, gk = k1 + 1 := ⟨gk - 1, by omega⟩
          go_roundg k1
          case measure => omega
          case rel => exact ⟨i + 1, rfl, hl2, by show k1 + (i + 1) = cs.length; omega, ⟨HI.out.1.os, HI.out.1.tape, HI.out.1.output, HI.out.1.size, HI.out.1.block⟩, HI.out.2.1, fun y d h1 h2 hd => by
            by_cases hyi : y = i + 1
            · subst hyi; rw [HX2.out] at hd; obtain rfl := Option.some.inj hd; exact HCC.out
            · exact HI.out.2.2 y d h1 (by omega) hd⟩
end Go.Proofs.Ytjlcebgfknfelaa.Bt

namespace Go.Proofs.Ytjlcebgfknfelaa.Bt
open Go Go.RowKit Go.IntWalk Go.Proofs.Ytjlcebgfknfelaa.Hk Go.Proofs.Ytjlcebgfknfelaa.BtPure Go.Proofs.Ytjlcebgfknfelaa.Less Go.Proofs.YtjlcebgfknfelaaW.PrintWords Go.Proofs.YtjlcebgfknfelaaW.PrintLast Go.Proofs.YtjlcebgfknfelaaW.PrintMore
open Go.Proofs.Ytjlcebgfknfelaa.Avl (LessS cmp_lt cmp_gt cmp_eq)
/-- The places behind one at which another entry has been put. -/
def shift (g : Nat → Q) (j : Nat) (q : Q) : Nat → Q := fun x => if x < j then g x else if x = j then q else g (x - 1)
/-- .. while the places are moved, from the last one down to i. -/
def moved (g : Nat → Q) (m i : Nat) : Nat → Q := fun x => if i < x ∧ x ≤ m then g (x - 1) else g x
/-- What is told, and left, when an entry has been put at a place of a node. -/
def Tail (b m : Nat) (g : Nat → Q) (j : Nat) (q : Q) (W : World) (e : Ending) (w' : World) : Prop :=
  (m + 1 < 64 ∧ e = .returned (.pointer none) ∧ (∃ g', Nd w' b ((m + 1 : Nat) : Int) g' ∧ ∀ x, x ≤ m → g' x = shift g j q x) ∧ Fr (· = b) W w') ∨
  (m + 1 = 64 ∧ ∃ c, e = .returned (.pointer (some ⟨c, 0, none⟩)) ∧ W.heap.size ≤ c ∧ (∃ g', Nd w' b 32 g' ∧ ∀ x, x < 32 → g' x = shift g j q x) ∧ (∃ g', Nd w' c 32 g' ∧ ∀ x, x < 32 → g' x = shift g j q (32 + x)) ∧ Fr (· = b) W w')
def uptr {h : Nat} : Option (N h) → Value
  | none => .pointer none
  | some u => .pointer (some ⟨N.blk h u, 0, none⟩)
def uids {h : Nat} : Option (N h) → List Nat
  | none => []
  | some u => N.ids h u
/-- A tree that fits, all of whose nodes lie from 'base' on. -/
structure Good (base : Nat) (tb : List Int) (w : World) {h : Nat} (t : N h) : Prop where
  mem : N.In w h t
  nodup : (N.ids h t).Nodup
  above : ∀ b ∈ N.ids h t, base ≤ b
  row : Row (rankOf tb) h (N.raw h t)
  len : T.len h (N.raw h t) ≤ 63
  one : h ≠ 0 → 1 ≤ T.len h (N.raw h t)
/-- What an insertion leaves. -/
structure Out (tb : List Int) (key val : Int) (ok : Bool) {h : Nat} (t t' : N h) (u : Option (N h)) (w w' : World) : Prop where
  raw : (N.raw h t', u.map (N.raw h)) = T.ins (rankOf tb) key val ok h (N.raw h t)
  blk : N.blk h t' = N.blk h t
  mem : N.In w' h t'
  memu : ∀ x, u = some x → N.In w' h x
  nodup : (N.ids h t' ++ uids u).Nodup
  ids : ∀ x ∈ N.ids h t' ++ uids u, x ∈ N.ids h t ∨ w.heap.size ≤ x
  fr : Fr (· ∈ N.ids h t) w w'
def Done (tb : List Int) (key val : Int) (ok : Bool) {h : Nat} (t : N h) (w : World) (e : Ending) (w' : World) : Prop := ∃ t' u, e = .returned (uptr u) ∧ Out tb key val ok t t' u w w'
theorem ins_at {r : Int → Int} {k v : Int} {ok : Bool} : ∀ {es : List E} {j : Nat}, (∀ y e, y < j → es[y]? = some e → r e.1 < r k) → j ≤ es.length → (j = es.length ∨ ∃ x, es[j]? = some x ∧ r k < r x.1) → insL r k v ok es = es.take j ++ (k, v, ok) :: es.drop j
  | [], j, _, hj, _ => by
    obtain rfl : j = 0 := by simpa using hj
    rfl
  | e :: es, 0, _, _, h => by
    rcases h with h | ⟨x, hx, hk⟩
    · simp at h
    · obtain rfl : e = x := by simpa using hx
      rw [insL, if_neg (by omega), if_pos hk]
      rfl
  | e :: es, j + 1, hn, hj, h => by
    have h0 := hn 0 e (by omega) rfl
    have ih := ins_at (k := k) (v := v) (ok := ok) (es := es) (j := j) (fun y e' hy he => hn (y + 1) e' (by omega) (by simpa using he)) (by simpa using hj) (by
      rcases h with h | ⟨x, hx, hk⟩
      · left; simpa using h
      · exact .inr ⟨x, by simpa using hx, hk⟩)
    rw [insL, if_neg (by omega), if_neg (by omega), ih]
    rfl
theorem ins_same {r : Int → Int} {k v : Int} {ok : Bool} : ∀ {es : List E} {j : Nat} {x : E}, (∀ y e, y < j → es[y]? = some e → r e.1 < r k) → es[j]? = some x → r k = r x.1 → insL r k v ok es = es.set j (x.1, v, ok)
  | [], _, _, _, h, _ => by simp at h
  | e :: es, 0, x, _, h, hk => by
    obtain rfl : e = x := by simpa using h
    rw [insL, if_pos hk]
    rfl
  | e :: es, j + 1, x, hn, h, hk => by
    have h0 := hn 0 e (by omega) rfl
    have ih := ins_same (k := k) (v := v) (ok := ok) (es := es) (j := j) (x := x) (fun y e' hy he => hn (y + 1) e' (by omega) (by simpa using he)) (by simpa using h) hk
    rw [insL, if_neg (by omega), if_neg (by omega), ih]
    rfl
theorem insC_at {α : Type} {r : Int → Int} {f : α → α × Option α} {fst : α → Int} (k : Int) : ∀ {cs : List (Int × α)} {j : Nat} {c : Int × α}, (∀ y d, 1 ≤ y → y ≤ j → cs[y]? = some d → ¬ r k < r d.1) → cs[j]? = some c → (j + 1 = cs.length ∨ ∃ d, cs[j + 1]? = some d ∧ r k < r d.1) →
    insC r f fst k cs = cs.take j ++ (c.1, (f c.2).1) :: (((f c.2).2.map (fun u => (fst u, u))).toList ++ cs.drop (j + 1))
  | [], _, _, _, h, _ => by simp at h
  | [c'], 0, c, _, h, _ => by
    obtain rfl : c' = c := by simpa using h
    simp [insC]
  | [c'], j + 1, c, _, h, _ => by simp at h
  | c' :: d :: cs, 0, c, _, h, hd => by
    obtain rfl : c' = c := by simpa using h
    rw [insC, if_pos]
    · rfl
    rcases hd with hd | ⟨d', h1, h2⟩
    · simp at hd
    · obtain rfl : d = d' := by simpa using h1
      exact h2
  | c' :: d :: cs, j + 1, c, hn, h, hd => by
    have h1 := hn 1 d (Nat.le_refl _) (by omega) rfl
    rw [insC, if_neg h1]
    rw [insC_at k (cs := d :: cs) (j := j) (c := c) (fun y e hy hle he => hn (y + 1) e (by omega) (by omega) (by simpa using he)) (by simpa using h) (by
      rcases hd with hd | ⟨d', h2, h3⟩
      · left; simp only [List.length_cons] at hd ⊢; omega
      · exact .inr ⟨d', by simpa using h2, h3⟩)]
    rfl
section
variable {α : Type} {R : Q → α → Prop} {g g' : Nat → Q} {l : List α}
theorem Rep.same (h : Rep R g l) (hg : ∀ i, i < l.length → g' i = g i) : Rep R g' l := fun i x hx => by
  rw [hg i (List.getElem?_eq_some_iff.1 hx).1]; exact h i x hx
theorem Rep.shift {j : Nat} {q : Q} {x : α} (h : Rep R g l) (hq : R q x) (hj : j ≤ l.length) : Rep R (shift g j q) (l.take j ++ x :: l.drop j) := fun i y hy => by
  have hl : (l.take j).length = j := by rw [List.length_take]; omega
  unfold Bt.shift
  by_cases h1 : i < j
  · rw [if_pos h1]
    rw [List.getElem?_append_left (by omega), List.getElem?_take, if_pos h1] at hy
    exact h i y hy
  · rw [if_neg h1]
    rw [List.getElem?_append_right (by omega), hl] at hy
    by_cases h2 : i = j
    · rw [if_pos h2]
      rw [h2, Nat.sub_self] at hy
      obtain rfl : x = y := by simpa using hy
      exact hq
    · rw [if_neg h2]
      obtain ⟨d, rfl⟩ : ∃ d, i = j + d + 1 := ⟨i - j - 1, by omega⟩
      rw [show j + d + 1 - j = d + 1 by omega, List.getElem?_cons_succ, List.getElem?_drop] at hy
      exact h _ y hy
theorem Rep.take (h : Rep R g l) (n : Nat) : Rep R g (l.take n) := fun i x hx => by
  rw [List.getElem?_take] at hx
  split at hx
  · exact h i x hx
  · cases hx
theorem Rep.drop (h : Rep R g l) (n : Nat) (hg : ∀ i, i + n < l.length → g' i = g (n + i)) : Rep R g' (l.drop n) := fun i x hx => by
  rw [List.getElem?_drop] at hx
  rw [hg i (by have := (List.getElem?_eq_some_iff.1 hx).1; omega)]
  exact h _ x hx
theorem Rep.set {i : Nat} {x : α} (h : Rep R g l) (hx : i < l.length → R (g i) x) : Rep R g (l.set i x) := fun j y hy => by
  rw [List.getElem?_set] at hy
  split at hy
  · rename_i e
    subst e
    split at hy
    · obtain rfl := Option.some.inj hy
      exact hx (by assumption)
    · cases hy
  · exact h j y hy
/-- What stands in memory when an entry has been put. -/
theorem Tail.rep {b j : Nat} {q : Q} {x : α} {W w' : World} {e : Ending} (hT : Tail b l.length g j q W e w') (h : Rep R g l) (hq : R q x) (hj : j ≤ l.length) :
    (((l.take j ++ x :: l.drop j).length < 64) ∧ e = .returned (.pointer none) ∧ (∃ g', Nd w' b ((l.take j ++ x :: l.drop j).length : Nat) g' ∧ Rep R g' (l.take j ++ x :: l.drop j)) ∧ Fr (· = b) W w') ∨
    (((l.take j ++ x :: l.drop j).length = 64) ∧ ∃ c, e = .returned (.pointer (some ⟨c, 0, none⟩)) ∧ W.heap.size ≤ c ∧ (∃ g', Nd w' b (((l.take j ++ x :: l.drop j).take 32).length : Nat) g' ∧ Rep R g' ((l.take j ++ x :: l.drop j).take 32)) ∧
      (∃ g', Nd w' c (((l.take j ++ x :: l.drop j).drop 32).length : Nat) g' ∧ Rep R g' ((l.take j ++ x :: l.drop j).drop 32)) ∧ Fr (· = b) W w') := by
  have hs := h.shift hq hj
  have hlen : (l.take j ++ x :: l.drop j).length = l.length + 1 := by simp; omega
  generalize l.take j ++ x :: l.drop j = L at hs hlen ⊢
  rcases hT with ⟨h1, h2, ⟨g', h3, h4⟩, h5⟩ | ⟨h1, c, h2, h3, ⟨g', h4, h5⟩, ⟨g'', h6, h7⟩, h8⟩
  · exact .inl ⟨by omega, h2, ⟨g', by rw [hlen]; exact h3, hs.same (fun i hi => h4 i (by omega))⟩, h5⟩
  · refine .inr ⟨by omega, c, h2, h3, ⟨g', ?_, (hs.take 32).same (fun i hi => h5 i (by rw [List.length_take] at hi; omega))⟩, ⟨g'', ?_, hs.drop 32 (fun i hi => h7 i (by omega))⟩, h8⟩
    · rw [show (L.take 32).length = 32 by rw [List.length_take]; omega]; exact h4
    · rw [show (L.drop 32).length = 32 by rw [List.length_drop]; omega]; exact h6
end
/-- An entry's value, and whether it is there, are stored. -/
theorem two_set {w : World} {b : Nat} {m : Int} {g : Nat → Q} (h : Nd w b m g) (x : Nat) (v : Int) (ok : Bool) (hx : x < 64) : Nd ((w.setCell ⟨b, 1 + x * 4 + 1, none⟩ (.int .i64 v)).setCell ⟨b, 1 + x * 4 + 2, none⟩ (.bool ok)) b m (upd g x ⟨(g x).k, v, ok, (g x).p⟩) := by
  have h1 := h.set x 1 (.int .i64 v) ⟨(g x).k, v, (g x).ok, (g x).p⟩ hx (by omega) rfl (fun i hi hn => by match i, hi, hn with | 0, _, _ => rfl | 2, _, _ => rfl | 3, _, _ => rfl)
  have h2 := h1.set x 2 (.bool ok) ⟨(g x).k, v, ok, (g x).p⟩ hx (by omega) rfl (fun i hi hn => by rw [upd_same]; match i, hi, hn with | 0, _, _ => rfl | 1, _, _ => rfl | 3, _, _ => rfl)
  rw [upd_upd] at h2
  rw [show 4 * x + 1 + 1 = 1 + x * 4 + 1 by omega] at h2
  exact h2
theorem cut_small {α : Type} {l : List α} (h : l.length < 64) : cutL l = (l, none) := if_pos h
theorem cut_great {α : Type} {l : List α} (h : l.length = 64) : cutL l = (l.take 32, some (l.drop 32)) := if_neg (by omega)
/-- A leaf behind an insertion at a new place. -/
theorem leaf_done {tb : List Int} {key val : Int} {ok : Bool} {b : Nat} {es : List E} {g : Nat → Q} {j : Nat} {w W w' : World} {e : Ending} (hw : Below w.heap.size w W) (hb : b < w.heap.size) (hP : Rep Rep0 g es) (hj : j ≤ es.length)
    (hi : insL (rankOf tb) key val ok es = es.take j ++ (key, val, ok) :: es.drop j) (hT : Tail b es.length g j ⟨key, val, ok, none⟩ W e w') : Done tb key val ok (h := 0) ((b, es) : Nat × List E) w e w' := by
  have hfr : ∀ {W'}, Fr (· = b) W W' → Fr (· ∈ N.ids 0 ((b, es) : Nat × List E)) w W' := fun h => (Fr.new hw).trans h (fun n _ e => by show n ∈ [b]; rw [e]; simp)
  have hr : T.ins (rankOf tb) key val ok 0 (N.raw 0 ((b, es) : Nat × List E)) = cutL (es.take j ++ (key, val, ok) :: es.drop j) := congrArg cutL hi
  rcases hT.rep (x := (key, val, ok)) hP ⟨rfl, rfl, rfl⟩ hj with ⟨h1, h2, h3, h4⟩ | ⟨h1, c, h2, h3, h4, h5, h6⟩
  · refine ⟨(b, es.take j ++ (key, val, ok) :: es.drop j), none, h2, ⟨?_, rfl, h3, fun _ h => (by cases h), by show ([b] ++ []).Nodup; simp, fun x hx => .inl hx, hfr h4⟩⟩
    rw [hr, cut_small h1]; rfl
  · refine ⟨(b, (es.take j ++ (key, val, ok) :: es.drop j).take 32), some (c, (es.take j ++ (key, val, ok) :: es.drop j).drop 32), h2, ⟨?_, rfl, h4, fun x hx => ?_, ?_, fun x hx => ?_, hfr h6⟩⟩
    · rw [hr, cut_great h1]; rfl
    · obtain rfl := Option.some.inj hx; exact h5
    · have : b ≠ c := by have := hw.size; omega
      show ([b] ++ [c]).Nodup
      simpa using this
    · have hx' : x ∈ [b] ++ [c] := hx
      simp only [List.cons_append, List.nil_append, List.mem_cons, List.not_mem_nil, or_false] at hx'
      rcases hx' with rfl | rfl
      · left; show x ∈ [x]; simp
      · right; have := hw.size; omega
/-- .. at a place that is there. -/
theorem leaf_same {tb : List Int} {key val : Int} {ok : Bool} {b : Nat} {es : List E} {g : Nat → Q} {j : Nat} {x : E} {w w' : World} (hP : Rep Rep0 g es) (hl : es.length ≤ 63) (hx : es[j]? = some x)
    (hi : insL (rankOf tb) key val ok es = es.set j (x.1, val, ok)) (hN : Nd w' b es.length (upd g j ⟨(g j).k, val, ok, (g j).p⟩)) (hf : Fr (· = b) w w') : Done tb key val ok (h := 0) ((b, es) : Nat × List E) w (.returned (.pointer none)) w' := by
  refine ⟨(b, es.set j (x.1, val, ok)), none, rfl, ⟨?_, rfl, ⟨upd g j ⟨(g j).k, val, ok, (g j).p⟩, by rw [List.length_set]; exact hN, fun i y hy => ?_⟩, fun _ h => (by cases h), by show ([b] ++ []).Nodup; simp, fun x hx => .inl hx, hf.mono (fun n _ e => by show n ∈ [b]; rw [e]; simp)⟩⟩
  · show _ = cutL (insL _ _ _ _ es)
    rw [hi, cut_small (by rw [List.length_set]; omega)]; rfl
  · rw [List.getElem?_set] at hy
    by_cases e : j = i
    · subst e
      rw [if_pos rfl, if_pos (List.getElem?_eq_some_iff.1 hx).1] at hy
      obtain rfl := Option.some.inj hy
      rw [upd_same]
      exact ⟨(hP j x hx).1, rfl, rfl⟩
    · rw [if_neg e] at hy
      simp only [upd]
      rw [if_neg (fun h => e h.symm)]
      exact hP i y hy
def fids {h : Nat} (l : List (Int × N h)) : List Nat := l.flatMap (fun c => N.ids h c.2)
theorem fids_app {h : Nat} (a b : List (Int × N h)) : fids (a ++ b) = fids a ++ fids b := List.flatMap_append ..
theorem fids_cons {h : Nat} (c : Int × N h) (l : List (Int × N h)) : fids (c :: l) = N.ids h c.2 ++ fids l := List.flatMap_cons ..
theorem mem_fids {h : Nat} {l : List (Int × N h)} {c : Int × N h} (hc : c ∈ l) {x : Nat} (hx : x ∈ N.ids h c.2) : x ∈ fids l := List.mem_flatMap.2 ⟨c, hc, hx⟩
abbrev rawC {h : Nat} (c : Int × N h) : Int × T h := (c.1, N.raw h c.2)
theorem first_cell : ∀ {h : Nat} {w : World} {t : N h}, N.In w h t → 1 ≤ T.len h (N.raw h t) → w.cell? ⟨N.blk h t, 1, none⟩ = some (.int .i64 (T.first h (N.raw h t)))
  | 0, w, (b, es), ⟨g, hN, hP⟩, hl => by
    cases es with
    | nil => exact absurd hl (by simp [T.len, N.raw])
    | cons x es =>
      have h0 := Nd.at' hN 0 0 (by omega) (by omega)
      have hk := (hP 0 x rfl).1
      show w.cell? ⟨b, 1, none⟩ = some (.int .i64 x.1)
      rw [← hk]
      exact h0
  | h + 1, w, (b, cs), ⟨⟨g, hN, hP⟩, _⟩, hl => by
    cases cs with
    | nil => exact absurd hl (by simp [T.len, N.raw])
    | cons x cs =>
      have h0 := Nd.at' hN 0 0 (by omega) (by omega)
      have hk := (hP 0 x rfl).1
      show w.cell? ⟨b, 1, none⟩ = some (.int .i64 x.1)
      rw [← hk]
      exact h0
/-- An inner node behind an insertion. -/
theorem inner_done {tb : List Int} {key val : Int} {ok : Bool} {h b : Nat} {cs L : List (Int × N h)} {w wc w' : World} {e : Ending}
    (hr : T.ins (rankOf tb) key val ok (h + 1) (N.raw (h + 1) ((b, cs) : Nat × List (Int × N h))) = cutL (L.map rawC)) (hin : ∀ c ∈ L, N.In wc h c.2) (hnd : (b :: fids L).Nodup) (hid : ∀ x ∈ fids L, x ∈ N.ids (h + 1) ((b, cs) : Nat × List (Int × N h)) ∨ w.heap.size ≤ x)
    (hfr : Fr (· ∈ N.ids (h + 1) ((b, cs) : Nat × List (Int × N h))) w wc) (hbw : b < wc.heap.size)
    (hc : (L.length < 64 ∧ e = .returned (.pointer none) ∧ (∃ g', Nd w' b (L.length : Nat) g' ∧ Rep Rep1 g' L) ∧ Fr (· = b) wc w') ∨
      (L.length = 64 ∧ ∃ c, e = .returned (.pointer (some ⟨c, 0, none⟩)) ∧ wc.heap.size ≤ c ∧ (∃ g', Nd w' b ((L.take 32).length : Nat) g' ∧ Rep Rep1 g' (L.take 32)) ∧ (∃ g', Nd w' c ((L.drop 32).length : Nat) g' ∧ Rep Rep1 g' (L.drop 32)) ∧ Fr (· = b) wc w')) :
    Done tb key val ok (h := h + 1) ((b, cs) : Nat × List (Int × N h)) w e w' := by
  obtain ⟨hb0, hn0⟩ := List.nodup_cons.1 hnd
  have hin' : Fr (· = b) wc w' → ∀ c ∈ L, N.In w' h c.2 := fun hf c hc => (hin c hc).fr hf (fun x hx e => hb0 (e ▸ mem_fids hc hx))
  have hlt : ∀ x ∈ fids L, x < wc.heap.size := fun x hx => by
    obtain ⟨c, hc, hx⟩ := List.mem_flatMap.1 hx
    exact (hin c hc).lt x hx
  have hfr2 : Fr (· = b) wc w' → Fr (· ∈ N.ids (h + 1) ((b, cs) : Nat × List (Int × N h))) w w' := fun hf => hfr.trans hf (fun n _ e => by rw [e]; show b ∈ b :: fids cs; simp)
  rcases hc with ⟨h1, h2, h3, h4⟩ | ⟨h1, c, h2, h3, h4, h5, h6⟩
  · refine ⟨(b, L), none, h2, ⟨?_, rfl, ⟨h3, hin' h4⟩, fun _ h => (by cases h), ?_, fun x hx => ?_, hfr2 h4⟩⟩
    · rw [hr, cut_small (by rw [List.length_map]; exact h1)]; rfl
    · show (b :: fids L ++ []).Nodup
      rw [List.append_nil]; exact hnd
    · have hx' : x ∈ b :: fids L ++ [] := hx
      rw [List.append_nil] at hx'
      rcases List.mem_cons.1 hx' with rfl | hx'
      · left; show x ∈ x :: fids cs; simp
      · exact hid x hx'
  · have e0 : fids (L.take 32) ++ fids (L.drop 32) = fids L := by rw [← fids_app, List.take_append_drop]
    refine ⟨(b, L.take 32), some (c, L.drop 32), h2, ⟨?_, rfl, ⟨h4, fun d hd => hin' h6 d (List.mem_of_mem_take hd)⟩, fun x hx => ?_, ?_, fun x hx => ?_, hfr2 h6⟩⟩
    · rw [hr, cut_great (by rw [List.length_map]; exact h1), ← List.map_take, ← List.map_drop]; rfl
    · obtain rfl := Option.some.inj hx
      exact ⟨h5, fun d hd => hin' h6 d (List.mem_of_mem_drop hd)⟩
    · show (b :: fids (L.take 32) ++ (c :: fids (L.drop 32))).Nodup
      rw [← e0] at hn0 hb0 hlt
      obtain ⟨n1, n2, n3⟩ := List.nodup_append.1 hn0
      refine List.nodup_append.2 ⟨List.nodup_cons.2 ⟨fun h => hb0 (List.mem_append_left _ h), n1⟩, List.nodup_cons.2 ⟨fun h => by have := hlt c (List.mem_append_right _ h); omega, n2⟩, fun x hx y hy e => ?_⟩
      subst e
      rcases List.mem_cons.1 hx with rfl | hx
      · rcases List.mem_cons.1 hy with e | hy
        · omega
        · exact hb0 (List.mem_append_right _ hy)
      · rcases List.mem_cons.1 hy with rfl | hy
        · have := hlt x (List.mem_append_left _ hx); omega
        · exact n3 x hx x hy rfl
    · have hx' : x ∈ b :: fids (L.take 32) ++ (c :: fids (L.drop 32)) := hx
      rcases List.mem_append.1 hx' with hx' | hx'
      · rcases List.mem_cons.1 hx' with rfl | hx'
        · left; show x ∈ x :: fids cs; simp
        · exact hid x (by rw [← e0]; exact List.mem_append_left _ hx')
      · rcases List.mem_cons.1 hx' with rfl | hx'
        · right; have := hfr.size; omega
        · exact hid x (by rw [← e0]; exact List.mem_append_right _ hx')
/-- A part of a tree that fits, fits. -/
theorem Good.kid {base : Nat} {tb : List Int} {w : World} {h b : Nat} {A B : List (Int × N h)} {x : Int × N h} (G : Good base tb w (h := h + 1) ((b, A ++ x :: B) : Nat × List (Int × N h))) : Good base tb w x.2 := by
  have hnd : (b :: fids (A ++ x :: B)).Nodup := G.nodup
  have hrow : (∀ c ∈ (A ++ x :: B).map rawC, Part (rankOf tb) c) ∧ Ch (rankOf tb) ((A ++ x :: B).map rawC) := G.row
  have hp := hrow.1 (rawC x) (List.mem_map.2 ⟨x, by simp, rfl⟩)
  rw [fids_app, fids_cons] at hnd
  refine ⟨G.mem.2 x (by simp), (List.nodup_append.1 (List.nodup_append.1 (List.nodup_cons.1 hnd).2).2.1).1, fun y hy => G.above y ?_, hp.1, hp.2.1, fun _ => hp.2.2⟩
  show y ∈ b :: fids (A ++ x :: B)
  exact List.mem_cons_of_mem _ (mem_fids (by simp) hy)
/-- What stands behind an insertion into a part. -/
theorem Good.below {base : Nat} {tb : List Int} {w w' : World} {h : Nat} {t : N h} (G : Good base tb w t) (hb : Below w.heap.size w w') : Good base tb w' t := ⟨G.mem.below hb, G.nodup, G.above, G.row, G.len, G.one⟩
theorem fr_dn {S : Nat → Prop} {a w : World} {n : Nat} (h : Fr S (a.drewN n) w) : Fr S a w := ⟨h.os, h.tape, h.output, h.size, h.block⟩
theorem split_at {α : Type} {l : List α} {i : Nat} {x : α} (h : l[i]? = some x) : ∃ A B, l = A ++ x :: B ∧ A.length = i := by
  obtain ⟨hi, rfl⟩ := List.getElem?_eq_some_iff.1 h
  exact ⟨l.take i, l.drop (i + 1), by rw [← List.drop_eq_getElem_cons hi, List.take_append_drop], by rw [List.length_take]; omega⟩
/-- What an insertion makes of a node, out of what it makes of the part. -/
theorem ins_kid {tb : List Int} {key val : Int} {ok : Bool} {h b i : Nat} {A B : List (Int × N h)} {x : Int × N h} {x' : N h} {u : Option (N h)} (hA : A.length = i) (hx : (A ++ x :: B)[i]? = some x)
    (hn : ∀ y d, 1 ≤ y → y ≤ i → (A ++ x :: B)[y]? = some d → ¬ rankOf tb key < rankOf tb d.1) (hp : i + 1 = (A ++ x :: B).length ∨ ∃ d, (A ++ x :: B)[i + 1]? = some d ∧ rankOf tb key < rankOf tb d.1)
    (hr : (N.raw h x', u.map (N.raw h)) = T.ins (rankOf tb) key val ok h (N.raw h x.2)) :
    T.ins (rankOf tb) key val ok (h + 1) (N.raw (h + 1) ((b, A ++ x :: B) : Nat × List (Int × N h))) = cutL ((A ++ (x.1, x') :: ((u.map (fun u => (T.first h (N.raw h u), u))).toList ++ B)).map rawC) := by
  have e := insC_at (r := rankOf tb) (f := T.ins (rankOf tb) key val ok h) (fst := T.first h) key (cs := (A ++ x :: B).map rawC) (j := i) (c := rawC x) (fun y d h1 h2 hd => by
    rw [List.getElem?_map] at hd
    obtain ⟨d', hd', rfl⟩ := Option.map_eq_some_iff.1 hd
    exact hn y d' h1 h2 hd') (by rw [List.getElem?_map, hx]; rfl) (by
    rcases hp with hp | ⟨d, h1, h2⟩
    · left; rw [List.length_map]; exact hp
    · exact .inr ⟨rawC d, by rw [List.getElem?_map, h1]; rfl, h2⟩)
  show cutL (insC (rankOf tb) (T.ins (rankOf tb) key val ok h) (T.first h) key ((A ++ x :: B).map rawC)) = _
  rw [e]
  congr 1
  rw [show (rawC x).2 = N.raw h x.2 from rfl, ← hr]
  have t1 : ((A ++ x :: B).map rawC).take i = A.map rawC := by rw [← List.map_take, ← hA, List.take_left']; rfl
  have t2 : ((A ++ x :: B).map rawC).drop (i + 1) = B.map rawC := by
    rw [← List.map_drop, ← hA, show A ++ x :: B = (A ++ [x]) ++ B by simp, show A.length + 1 = (A ++ [x]).length by simp, List.drop_left]
  rw [t1, t2]
  cases u <;> simp [rawC]
theorem kid_in {w : World} {h : Nat} {A B : List (Int × N h)} {k : Int} {x' : N h} (h1 : ∀ c ∈ A ++ B, N.In w h c.2) (h2 : N.In w h x') : ∀ c ∈ A ++ (k, x') :: B, N.In w h c.2 := fun c hc => by
  rcases List.mem_append.1 hc with hc | hc
  · exact h1 c (List.mem_append_left _ hc)
  · rcases List.mem_cons.1 hc with rfl | hc
    · exact h2
    · exact h1 c (List.mem_append_right _ hc)
theorem kid_nd {h b : Nat} {A B : List (Int × N h)} {k : Int} {x' : N h} (h1 : (b :: (fids A ++ ((N.ids h x' ++ uids (none : Option (N h))) ++ fids B))).Nodup) : (b :: fids (A ++ (k, x') :: B)).Nodup := by
  rw [fids_app, fids_cons]
  simpa [uids] using h1
theorem kid_ids {w W : World} {h b : Nat} {cs A B : List (Int × N h)} {k : Int} {x' : N h} (hW : Below w.heap.size w W) (h1 : ∀ y ∈ fids A ++ ((N.ids h x' ++ uids (none : Option (N h))) ++ fids B), y ∈ b :: fids cs ∨ W.heap.size ≤ y) :
    ∀ y ∈ fids (A ++ (k, x') :: B), y ∈ N.ids (h + 1) ((b, cs) : Nat × List (Int × N h)) ∨ w.heap.size ≤ y := fun y hy => by
  rw [fids_app, fids_cons] at hy
  have := hW.size
  rcases h1 y (by simpa [uids] using hy) with h | h
  · exact .inl h
  · right; omega
theorem kid2_in {w : World} {h : Nat} {A B : List (Int × N h)} {k k2 : Int} {x' u : N h} (h1 : ∀ c ∈ A ++ B, N.In w h c.2) (h2 : N.In w h x') (h3 : N.In w h u) : ∀ c ∈ A ++ (k, x') :: (k2, u) :: B, N.In w h c.2 := fun c hc => by
  rcases List.mem_append.1 hc with hc | hc
  · exact h1 c (List.mem_append_left _ hc)
  · rcases List.mem_cons.1 hc with rfl | hc
    · exact h2
    · rcases List.mem_cons.1 hc with rfl | hc
      · exact h3
      · exact h1 c (List.mem_append_right _ hc)
theorem kid2_nd {h b : Nat} {A B : List (Int × N h)} {k k2 : Int} {x' u : N h} (h1 : (b :: (fids A ++ ((N.ids h x' ++ uids (some u)) ++ fids B))).Nodup) : (b :: fids (A ++ (k, x') :: (k2, u) :: B)).Nodup := by
  rw [fids_app, fids_cons, fids_cons]
  simpa [uids] using h1
theorem kid2_ids {W : World} {h b : Nat} {cs A B : List (Int × N h)} {k k2 : Int} {x' u : N h} (h1 : ∀ y ∈ fids A ++ ((N.ids h x' ++ uids (some u)) ++ fids B), y ∈ b :: fids cs ∨ W.heap.size ≤ y) :
    ∀ y ∈ fids (A ++ (k, x') :: (k2, u) :: B), y ∈ N.ids (h + 1) ((b, cs) : Nat × List (Int × N h)) ∨ W.heap.size ≤ y := fun y hy => by
  rw [fids_app, fids_cons, fids_cons] at hy
  exact h1 y (by simpa [uids] using hy)
theorem kid_rep {h : Nat} {g : Nat → Q} {A B : List (Int × N h)} {x : Int × N h} {x' : N h} (hP : Rep Rep1 g (A ++ x :: B)) (hb : N.blk h x' = N.blk h x.2) : Rep Rep1 g (A ++ (x.1, x') :: B) := fun i y hy => by
  by_cases e : i = A.length
  · subst e
    have h0 := hP A.length x (by simp)
    obtain rfl : (x.1, x') = y := by simpa using hy
    exact ⟨h0.1, by rw [h0.2]; exact congrArg (fun z => some (⟨z, 0, none⟩ : Addr)) hb.symm⟩
  · refine hP i y ?_
    by_cases h1 : i < A.length
    · rw [List.getElem?_append_left h1] at hy ⊢; exact hy
    · rw [List.getElem?_append_right (by omega)] at hy ⊢
      obtain ⟨d, hd⟩ : ∃ d, i - A.length = d + 1 := ⟨i - A.length - 1, by omega⟩
      rw [hd] at hy ⊢
      simpa using hy
theorem made_u {base : Nat} {tb : List Int} {key val : Int} {ok : Bool} {w : World} {h : Nat} {x x' u : N h} (G : Good base tb w x) (hr : (N.raw h x', (some u).map (N.raw h)) = T.ins (rankOf tb) key val ok h (N.raw h x)) : 1 ≤ T.len h (N.raw h u) :=
  ((ins_made (k := key) (v := val) (ok := ok) G.row G.len G.one).some_ _ (by rw [← hr]; rfl)).1.2.2
theorem Out.blk_ne {tb : List Int} {key val : Int} {ok : Bool} {h n e : Nat} {x x' u : N h} {w w1 : World} (O : Out tb key val ok x x' (some u) (w.drewN n) w1) (hs : w.heap.size = e + 1) (hn : e ∉ N.ids h x) : N.blk h u ≠ e := fun hh => by
  rcases O.ids (N.blk h u) (List.mem_append_right _ (N.blk_in u)) with h1 | h1
  · exact hn (hh ▸ h1)
  · have : w.heap.size ≤ N.blk h u := h1
    omega
theorem kid_left {base : Nat} {tb : List Int} {key val : Int} {ok : Bool} {w W w1 : World} {h b : Nat} {A B : List (Int × N h)} {x : Int × N h} {x' : N h} {u : Option (N h)} (G : Good base tb w (h := h + 1) ((b, A ++ x :: B) : Nat × List (Int × N h))) (hW : Below w.heap.size w W)
    (O : Out tb key val ok x.2 x' u W w1) :
    (b ∉ N.ids h x.2) ∧ (∀ c ∈ A ++ B, N.In w1 h c.2) ∧ (b :: (fids A ++ ((N.ids h x' ++ uids u) ++ fids B))).Nodup ∧ (∀ y ∈ fids A ++ ((N.ids h x' ++ uids u) ++ fids B), y ∈ b :: fids (A ++ x :: B) ∨ W.heap.size ≤ y) ∧ Fr (· ∈ b :: fids (A ++ x :: B)) w w1 := by
  have hnd : (b :: fids (A ++ x :: B)).Nodup := G.nodup
  rw [fids_app, fids_cons] at hnd
  obtain ⟨b1, n1⟩ := List.nodup_cons.1 hnd
  obtain ⟨nA, n2, n3⟩ := List.nodup_append.1 n1
  obtain ⟨nx, nB, n4⟩ := List.nodup_append.1 n2
  have lt : ∀ y ∈ b :: fids (A ++ x :: B), y < w.heap.size := fun y hy => N.In.lt (h := h + 1) (t := (b, A ++ x :: B)) G.mem y hy
  have ltA : ∀ y ∈ fids A, y < w.heap.size := fun y hy => lt y (by rw [fids_app]; simp [hy])
  have ltB : ∀ y ∈ fids B, y < w.heap.size := fun y hy => lt y (by rw [fids_app, fids_cons]; simp [hy])
  have ltb : b < w.heap.size := lt b (by simp)
  have hs := hW.size
  have nw : ∀ y ∈ N.ids h x' ++ uids u, y ∈ N.ids h x.2 ∨ W.heap.size ≤ y := O.ids
  refine ⟨fun hm => b1 (by simp [hm]), fun c hc => ?_, ?_, fun y hy => ?_, ?_⟩
  · refine ((G.mem.2 c (by simp at hc ⊢; rcases hc with hc | hc <;> simp [hc])).below hW).fr O.fr (fun y hy hx => ?_)
    rcases List.mem_append.1 hc with hc | hc
    · exact n3 y (mem_fids hc hy) y (List.mem_append_left _ hx) rfl
    · exact n4 y hx y (mem_fids hc hy) rfl
  · refine List.nodup_cons.2 ⟨fun hm => ?_, List.nodup_append.2 ⟨nA, List.nodup_append.2 ⟨O.nodup, nB, fun y hy z hz e => ?_⟩, fun y hy z hz e => ?_⟩⟩
    · rcases List.mem_append.1 hm with hm | hm
      · exact b1 (by simp [hm])
      · rcases List.mem_append.1 hm with hm | hm
        · rcases nw b hm with h1 | h1
          · exact b1 (by simp [h1])
          · omega
        · exact b1 (by simp [hm])
    · subst e
      rcases nw y hy with h1 | h1
      · exact n4 y h1 y hz rfl
      · have := ltB y hz; omega
    · subst e
      rcases List.mem_append.1 hz with hz | hz
      · rcases nw y hz with h1 | h1
        · exact n3 y hy y (List.mem_append_left _ h1) rfl
        · have := ltA y hy; omega
      · exact n3 y hy y (List.mem_append_right _ hz) rfl
  · rw [fids_app, fids_cons]
    rcases List.mem_append.1 hy with hy | hy
    · left; simp [hy]
    · rcases List.mem_append.1 hy with hy | hy
      · rcases nw y hy with h1 | h1
        · left; simp [h1]
        · exact .inr h1
      · left; simp [hy]
  · refine (Fr.new hW).trans O.fr (fun n _ hn => ?_)
    rw [fids_app, fids_cons]
    simp [hn]
set_option maxHeartbeats 16000000 in
set_option maxRecDepth 100000 in
theorem insert_step (base R : Nat) (tb : List Int) (key val n H : Int) (ok : Bool) (rp lv : Value) (h : Nat) (t : N h) (w : World)
    (ih : ∀ h', h = h' + 1 → ∀ (t : N h') (w : World), Good base tb w t → Blk w R #[rp, .int .i64 H, .int .i64 n, lv] 115 → R ∉ N.ids h' t → LessS base w lv tb → base ≤ w.heap.size → h' ≤ 1099511627776 →
      Calls Try.prog 92 #[.pointer (some ⟨R, 0, none⟩), .pointer (some ⟨N.blk h' t, 0, none⟩), .int .i64 key, .int .i64 val, .int .i64 h', .bool ok] w (Done tb key val ok t w))
    (hG : Good base tb w t) (hR : Blk w R #[rp, .int .i64 H, .int .i64 n, lv] 115) (hRn : R ∉ N.ids h t) (hL : LessS base w lv tb) (hb : base ≤ w.heap.size) (hh : h ≤ 1099511627776) :
    Calls Try.prog 92 #[.pointer (some ⟨R, 0, none⟩), .pointer (some ⟨N.blk h t, 0, none⟩), .int .i64 key, .int .i64 val, .int .i64 h, .bool ok] w (Done tb key val ok t w) := by
    have HIH := hid ih
    clear ih
    have HG := hid hG
    have HR := hid hR
    have HRN := hid hRn
    have HL := hid hL
    have HB := hid hb
    have HH := hid hh
    clear hG hR hRn hL hb hh
    obtain ⟨b, hbk⟩ : ∃ b, N.blk h t = b := ⟨_, rfl⟩
    rw [hbk]
    have HBK := hid hbk
    clear hbk
    obtain ⟨hv, hhv⟩ : ∃ hv : Int, (h : Int) = hv := ⟨_, rfl⟩
    rw [hhv]
    have HHV := hid hhv
    clear hhv
    have HE : Hid (Blk (w.alloc (.cells #[.int .i64 key, .int .i64 val, .bool ok, .pointer none] 110)) w.heap.size #[.int .i64 key, .int .i64 val, .bool ok, .pointer none] 110) := Blk.new w _ _
    have HW : Hid (Below w.heap.size w (w.alloc (.cells #[.int .i64 key, .int .i64 val, .bool ok, .pointer none] 110))) := (Below.refl _ _).alloc (Nat.le_refl _) _
    have HSZ : Hid ((w.alloc (.cells #[.int .i64 key, .int .i64 val, .bool ok, .pointer none] 110)).heap.size = w.heap.size + 1) := alloc_size _ _
    go_enter Try.func92, Try.ntmps92
    go_upto_region 2 with fail
    generalize w.alloc (.cells #[.int .i64 key, .int .i64 val, .bool ok, .pointer none] 110) = W at HE HW HSZ ⊢
    go_upto_if 22 with fail
    go_cut [14, 15] from 22 to 132 (fun v14 v15 wc => ∃ (j m : Nat) (g : Nat → Q) (q : Q), v14 = .int .i64 j ∧ j ≤ m ∧ m ≤ 63 ∧ Hid (Nd wc b m g ∧ Blk wc w.heap.size #[.int .i64 q.k, .int .i64 q.v, .bool q.ok, .pointer q.p] 110 ∧ b ≠ w.heap.size ∧ Blk wc R #[rp, .int .i64 H, .int .i64 n, lv] 115 ∧ ∀ e w', Tail b m g j q wc e w' → Done tb key val ok t w e w'))
    case first =>
      cases h with
      | zero =>
        obtain rfl : hv = 0 := by have := HHV.out; omega
        obtain ⟨b', es⟩ := t
        obtain rfl : b' = b := HBK.out
        obtain ⟨g, hN0, hP0⟩ := HG.out.mem
        have HN : Hid (Nd w b' es.length g) := hN0
        have HP : Hid (Rep Rep0 g es) := hP0
        have HF : Hid (es.length ≤ 63) := HG.out.len
        clear hN0 hP0
        go_wp2_with fail
        go_loopg [14] es.length (fun n_ v14 wr => ∃ i : Nat, v14 = .int .i64 i ∧ i ≤ es.length ∧ Hid (n_ + i = es.length) ∧ Hid ((∃ q, wr = W.drewN q) ∧ ∀ y e, y < i → es[y]? = some e → rankOf tb e.1 < rankOf tb key))
        case atStart => exact ⟨0, rfl, Nat.zero_le _, Nat.add_zero _, ⟨0, rfl⟩, fun y e hy => absurd hy (Nat.not_lt_zero _)⟩
        case round =>
          obtain ⟨i, rfl, hi, HGK, HI⟩ := hrel
          have HNW : Hid (Nd wr b' es.length g) := by obtain ⟨q, hq⟩ := HI.out.1; rw [hq]; exact Nd.below HN.out (below_dN HW.out q) HN.out.lt
          have HRW : Hid (Blk wr R #[rp, .int .i64 H, .int .i64 n, lv] 115) := by obtain ⟨q, hq⟩ := HI.out.1; rw [hq]; exact HR.out.below (below_dN HW.out q) HR.out.lt
          have HEW : Hid (Blk wr w.heap.size #[.int .i64 key, .int .i64 val, .bool ok, .pointer none] 110) := by obtain ⟨q, hq⟩ := HI.out.1; rw [hq]; exact HE.out
          have HBW : Hid (Below w.heap.size w wr) := by obtain ⟨q, hq⟩ := HI.out.1; rw [hq]; exact below_dN HW.out q
          have HNE : Hid (b' ≠ w.heap.size) := hid (Nat.ne_of_lt HN.out.lt)
          have c0 : wr.cell? ⟨b', 0, none⟩ = some (.int .i64 es.length) := HNW.out.m0
          by_cases hlt : i < es.length
          · have hx : es[i]? = some es[i] := List.getElem?_eq_getElem hlt
            have h64 : i < 64 := by have := HF.out; omega
            generalize es[i] = x at hx
            have hk := (HP.out i x hx).1
            have a0 : wr.cell? ⟨b', 1 + i * 4, none⟩ = some (.int .i64 x.1) := by rw [← hk]; exact HNW.out.at' i 0 h64 (by omega)
            have c3 : wr.cell? ⟨R, 3, none⟩ = some lv := HRW.out.cell 3
            have HX := hid hx
            have HLS : Hid (LessS base wr lv tb) := hid (HL.out.to (below_le HBW.out HB.out))
            clear hk hx
            have r1 : (i : Int) < 64 := by omega
            have hlti : (i : Int) < es.length := by omega
            go_upto_region 7 with fail
            refine still_tail_drew 12 (by kernel_rfl) (by kernel_rfl) ?_
            simp only [List.take_succ_cons, List.take_zero, List.drop_succ_cons, List.drop_zero]
            repeat still_step
            refine wpStill_nil ?_
            go_wp2_with fail
            refine (compare_any lv tb key x.1 _ (HLS.out.drewN 1).now).mono ?_
            rintro e w1 ⟨rfl, q1, hq1⟩
            have HQ1 : Hid (∃ q, w1 = wr.drewN q) := ⟨1 + q1, by rw [hq1]; simp⟩
            clear hq1
            by_cases he : rankOf tb key = rankOf tb x.1
            · rw [cmp_eq (by omega) (by omega)]
              have HEQ := hid he
              clear he a0 c3 c0
              have HN1 : Hid (Nd w1 b' es.length g ∧ Below w.heap.size w w1) := by obtain ⟨q, hq⟩ := HQ1.out; rw [hq]; exact ⟨HNW.out, below_dN HBW.out q⟩
              have a1 : w1.cell? ⟨b', 1 + i * 4 + 1, none⟩ = some (.int .i64 (g i).v) := HN1.out.1.at' i 1 h64 (by omega)
              have a2 : w1.cell? ⟨b', 1 + i * 4 + 2, none⟩ = some (.bool (g i).ok) := HN1.out.1.at' i 2 h64 (by omega)
              have f1 : w1.frozen? ⟨b', 1 + i * 4 + 1, none⟩ = false := HN1.out.1.free _
              have f2 : w1.frozen? ⟨b', 1 + i * 4 + 2, none⟩ = false := HN1.out.1.free _
              have HS : Hid (Nd ((w1.setCell ⟨b', 1 + i * 4 + 1, none⟩ (.int .i64 val)).setCell ⟨b', 1 + i * 4 + 2, none⟩ (.bool ok)) b' es.length (upd g i ⟨(g i).k, val, ok, (g i).p⟩)) := two_set HN1.out.1 i val ok h64
              have HS2 : Hid (Fr (· = b') w ((w1.setCell ⟨b', 1 + i * 4 + 1, none⟩ (.int .i64 val)).setCell ⟨b', 1 + i * 4 + 2, none⟩ (.bool ok))) := Fr.setCell (S := (· = b')) (Fr.setCell (S := (· = b')) (Fr.new HN1.out.2) (p := ⟨b', 1 + i * 4 + 1, none⟩) (fun _ => rfl) _) (p := ⟨b', 1 + i * 4 + 2, none⟩) (fun _ => rfl) _
              go_wp2_with fail
              go_ret
              exact leaf_same HP.out HF.out HX.out (ins_same HI.out.2 HX.out HEQ.out) HS.out HS2.out
            · have hc : cmp tb key x.1 ≠ 0 := fun h => he (by unfold cmp at h; split at h <;> (try split at h) <;> omega)
              have hc2 : (cmp tb key x.1 == 0) = false := beq_eq_false_iff_ne.2 hc
              have HNQ := hid he
              clear he
              have HN1 : Hid (Nd w1 b' es.length g ∧ Below w.heap.size w w1 ∧ Blk w1 w.heap.size #[.int .i64 key, .int .i64 val, .bool ok, .pointer none] 110 ∧ Blk w1 R #[rp, .int .i64 H, .int .i64 n, lv] 115 ∧ LessS base w1 lv tb) := by obtain ⟨q, hq⟩ := HQ1.out; rw [hq]; exact ⟨HNW.out, below_dN HBW.out q, HEW.out, HRW.out, HLS.out.drewN q⟩
              clear a0 c3 c0
              have a0 : w1.cell? ⟨b', 1 + i * 4, none⟩ = some (.int .i64 x.1) := by rw [← (HP.out i x HX.out).1]; exact HN1.out.1.at' i 0 h64 (by omega)
              have c3 : w1.cell? ⟨R, 3, none⟩ = some lv := HN1.out.2.2.2.1.cell 3
              obtain ⟨cv, hcv⟩ : ∃ cv, cmp tb key x.1 = cv := ⟨_, rfl⟩
              have HCV := hid hcv
              rw [hcv] at hc hc2 ⊢
              clear hcv
              go_upto_region 11 with fail
              refine still_tail_drew 12 (by kernel_rfl) (by kernel_rfl) ?_
              simp only [List.take_succ_cons, List.take_zero, List.drop_succ_cons, List.drop_zero]
              repeat still_step
              refine wpStill_nil ?_
              go_wp2_with fail
              refine (compare_any lv tb key x.1 _ (HN1.out.2.2.2.2.drewN 1).now).mono ?_
              rintro e w2 ⟨rfl, q2, hq2⟩
              have HN2 : Hid (Nd w2 b' es.length g ∧ Below w.heap.size w w2 ∧ Blk w2 w.heap.size #[.int .i64 key, .int .i64 val, .bool ok, .pointer none] 110 ∧ Blk w2 R #[rp, .int .i64 H, .int .i64 n, lv] 115) := by rw [hq2]; exact ⟨HN1.out.1, below_dN (below_dr HN1.out.2.1) q2, HN1.out.2.2.1, HN1.out.2.2.2.1⟩
              have HQ2 : Hid (∃ q, w2 = W.drewN q) := by
                obtain ⟨qa, ha⟩ := HI.out.1
                obtain ⟨qb, hb⟩ := HQ1.out
                exact ⟨qa + qb + 1 + q2, by rw [hq2, hb, ha]; simp [Nat.add_assoc]⟩
              clear hq2 a0 c3
              by_cases hc3 : rankOf tb key < rankOf tb x.1
              · rw [cmp_lt hc3]
                have HC3 := hid hc3
                clear hc3 hc hc2
                go_wp2_with fail
                go_meet
                case rel => exact ⟨i, es.length, g, ⟨key, val, ok, none⟩, rfl, hi, HF.out, HN2.out.1, HN2.out.2.2.1, HNE.out, HN2.out.2.2.2, fun e w' hT => leaf_done HN2.out.2.1 HN.out.lt HP.out hi (ins_at HI.out.2 hi (.inr ⟨x, HX.out, HC3.out⟩)) hT⟩
              · have HC3 : Hid (rankOf tb x.1 < rankOf tb key) := hid (by have := HNQ.out; omega)
                rw [cmp_gt HC3.out]
                clear hc3 hc hc2
                go_wp2_with fail
                have hg0 := HGK.out
                obtain ⟨k1, rfl⟩ : ∃ k1, gk = k1 + 1 := ⟨gk - 1, by omega⟩
                go_roundg k1
                case measure => omega
                case rel => exact ⟨i + 1, rfl, hlt, by show k1 + (i + 1) = es.length; omega, HQ2.out, fun y e hy hq => by
                  by_cases hyi : y = i
                  · subst hyi; rw [HX.out] at hq; obtain rfl := Option.some.inj hq; exact HC3.out
                  · exact HI.out.2 y e (by omega) hq⟩
          · obtain rfl : i = es.length := by omega
            have hlti : ¬ (es.length : Int) < es.length := by omega
            go_wp2_with fail
            go_meet
            case rel => exact ⟨es.length, es.length, g, ⟨key, val, ok, none⟩, rfl, Nat.le_refl _, HF.out, HNW.out, HEW.out, HNE.out, HRW.out, fun e w' hT => leaf_done HBW.out HN.out.lt HP.out (Nat.le_refl _) (ins_at HI.out.2 (Nat.le_refl _) (.inl rfl)) hT⟩
      | succ h =>
        obtain ⟨b', cs⟩ := t
        obtain rfl : b' = b := HBK.out
        obtain ⟨⟨g, hN0, hP0⟩, hI0⟩ := HG.out.mem
        have HN : Hid (Nd w b' cs.length g) := hN0
        have HP : Hid (Rep Rep1 g cs) := hP0
        have hlen0 : (cs.map rawC).length ≤ 63 := HG.out.len
        have hone0 : 1 ≤ (cs.map rawC).length := HG.out.one (by omega)
        rw [List.length_map] at hlen0 hone0
        have HF : Hid (cs.length ≤ 63 ∧ 1 ≤ cs.length) := ⟨hlen0, hone0⟩
        clear hN0 hP0 hI0 hlen0 hone0
        have hz : (hv == 0) = false := beq_eq_false_iff_ne.2 (by have := HHV.out; omega)
        have hz2 : IntKind.i64.wrap (hv - 1) = (h : Int) := by have := HHV.out; have := HH.out; rw [i64_in _ (by omega)]; omega
        rw [hz]
        clear hz
        go_wp2_with fail
        go_loopg [14, 15] cs.length (fun n_ v14 v15 wr => ∃ i : Nat, v14 = .int .i64 i ∧ i < cs.length ∧ Hid (n_ + i = cs.length) ∧ Hid ((∃ q, wr = W.drewN q) ∧ ∀ y d, 1 ≤ y → y ≤ i → cs[y]? = some d → ¬ rankOf tb key < rankOf tb d.1))
        case atStart => exact ⟨0, rfl, HF.out.2, Nat.add_zero _, ⟨0, rfl⟩, fun y d h1 h2 => by omega⟩
        case round =>
          obtain ⟨i, rfl, hlt, HGK, HI⟩ := hrel
          have HNW : Hid (Nd wr b' cs.length g) := by obtain ⟨q, hq⟩ := HI.out.1; rw [hq]; exact Nd.below HN.out (below_dN HW.out q) HN.out.lt
          have HRW : Hid (Blk wr R #[rp, .int .i64 H, .int .i64 n, lv] 115) := by obtain ⟨q, hq⟩ := HI.out.1; rw [hq]; exact HR.out.below (below_dN HW.out q) HR.out.lt
          have HEW : Hid (Blk wr w.heap.size #[.int .i64 key, .int .i64 val, .bool ok, .pointer none] 110) := by obtain ⟨q, hq⟩ := HI.out.1; rw [hq]; exact HE.out
          have HBW : Hid (Below w.heap.size w wr ∧ wr.heap.size = w.heap.size + 1) := by obtain ⟨q, hq⟩ := HI.out.1; rw [hq]; exact ⟨below_dN HW.out q, HSZ.out⟩
          have HNE : Hid (b' ≠ w.heap.size) := hid (Nat.ne_of_lt HN.out.lt)
          have c0 : wr.cell? ⟨b', 0, none⟩ = some (.int .i64 cs.length) := HNW.out.m0
          have hx : cs[i]? = some cs[i] := List.getElem?_eq_getElem hlt
          have h63 := HF.out.1
          generalize cs[i] = x at hx
          have hp := (HP.out i x hx).2
          have c3 : wr.cell? ⟨R, 3, none⟩ = some lv := HRW.out.cell 3
          have HX := hid hx
          have HLS : Hid (LessS base wr lv tb) := hid (HL.out.to (below_le HBW.out.1 HB.out))
          have hlti : (i : Int) < cs.length := by omega
          have hw1 : IntKind.i64.wrap ((i : Int) + 1) = ((i + 1 : Nat) : Int) := by rw [i64_in _ (by omega)]; rfl
          have r1 : (i : Int) < 64 := by omega
          have hp3 : wr.cell? ⟨b', 1 + i * 4 + 3, none⟩ = some (.pointer (some ⟨N.blk h x.2, 0, none⟩)) := by rw [← hp]; exact HNW.out.at' i 3 (by omega) (by omega)
          clear hp hx
          by_cases hl : i + 1 = cs.length
          · have hm : ((cs.length : Int) == ((i + 1 : Nat) : Int)) = true := by rw [hl]; simp
            have hm' : (((i + 1 : Nat) : Int) == (cs.length : Int)) = true := by rw [hl]; simp
            have HPK : Hid (i + 1 = cs.length ∨ ∃ d, cs[i + 1]? = some d ∧ rankOf tb key < rankOf tb d.1) := .inl hl
            go_wp2_with fail
            go_quiet ((fail))
            go_wp2_with fail
            clear hl hm hm'
            clear c0 c3 hp3
            obtain ⟨A, B, hcs, hA⟩ : ∃ A B, cs = A ++ x :: B ∧ A.length = i := split_at HX.out
            have HHA := hid hA
            subst hcs
            have HW2 : Hid (Below w.heap.size w (wr.drewN nq)) := hid (below_dN HBW.out.1 nq)
            have HKD : Hid (Good base tb (wr.drewN nq) x.2) := hid (HG.out.kid.below HW2.out)
            have HNR : Hid (R ∉ N.ids h x.2) := hid (fun hm => HRN.out (by show R ∈ b' :: fids (A ++ x :: B); exact List.mem_cons_of_mem _ (mem_fids (by simp) hm)))
            have HNEB : Hid (w.heap.size ∉ N.ids h x.2) := hid (fun hm => by have := HG.out.kid.mem.lt _ hm; omega)
            clear hA
            refine (HIH.out h rfl x.2 (wr.drewN nq) HKD.out HRW.out HNR.out (HLS.out.drewN nq) (by have := HB.out; have := HW2.out.size; omega) (by have := HH.out; omega)).mono ?_
            rintro e w1 ⟨x', u, rfl, O⟩
            have HO := hid O
            have HKL := hid (kid_left HG.out HW2.out O)
            have HIK := hid (ins_kid (b := b') HHA.out HX.out (fun y d h1 h2 hd => by have := HI.out.2 y d h1 h2 hd; omega) HPK.out O.raw)
            have HN1 : Hid (Nd w1 b' (A ++ x :: B).length g) := hid (Blk.fr (S := (· ∈ N.ids h x.2)) HNW.out (Fr.into (Z := (· ∈ N.ids h x.2)) (fr_dn O.fr) (fun _ h => h)) HKL.out.1)
            have HE1 : Hid (Blk w1 w.heap.size #[.int .i64 key, .int .i64 val, .bool ok, .pointer none] 110) := hid (Blk.fr (S := (· ∈ N.ids h x.2)) HEW.out (fr_dn O.fr) HNEB.out)
            have HR1 : Hid (Blk w1 R #[rp, .int .i64 H, .int .i64 n, lv] 115) := hid (Blk.fr (S := (· ∈ N.ids h x.2)) HRW.out (fr_dn O.fr) HNR.out)
            clear O
            cases u with
            | none =>
              rw [show uptr (none : Option (N h)) = .pointer none from rfl]
              go_wp2_with fail
              go_ret
              exact inner_done (L := A ++ (x.1, x') :: B) HIK.out (kid_in HKL.out.2.1 HO.out.mem) (kid_nd HKL.out.2.2.1) (fun y hy => kid_ids (hW := HW2.out) HKL.out.2.2.2.1 y hy) HKL.out.2.2.2.2 HN1.out.lt
                (.inl ⟨by have := HF.out.1; simp at this ⊢; omega, rfl, ⟨g, by rw [show (A ++ (x.1, x') :: B).length = (A ++ x :: B).length by simp]; exact HN1.out, kid_rep HP.out HO.out.blk⟩, Fr.refl _ _⟩)
            | some u =>
              rw [show uptr (some u) = .pointer (some ⟨N.blk h u, 0, none⟩) from rfl]
              have HMU := hid (made_u HKD.out HO.out.raw)
              have c1 : w1.cell? ⟨N.blk h u, 1, none⟩ = some (.int .i64 (T.first h (N.raw h u))) := first_cell (HO.out.memu u rfl) HMU.out
              have hub : N.blk h u ≠ w.heap.size := HO.out.blk_ne HBW.out.2 HNEB.out
              have e0 : w1.cell? ⟨w.heap.size, 0, none⟩ = some (.int .i64 key) := HE1.out.cell 0
              have e2 : w1.cell? ⟨w.heap.size, 2, none⟩ = some (.bool ok) := HE1.out.cell 2
              have e3 : w1.cell? ⟨w.heap.size, 3, none⟩ = some (.pointer none) := HE1.out.cell 3
              have f0 : w1.frozen? ⟨w.heap.size, 0, none⟩ = false := HE1.out.free 0
              have f2 : w1.frozen? ⟨w.heap.size, 2, none⟩ = false := HE1.out.free 2
              have f3 : w1.frozen? ⟨w.heap.size, 3, none⟩ = false := HE1.out.free 3
              obtain ⟨fu, hfu⟩ : ∃ fu, T.first h (N.raw h u) = fu := ⟨_, rfl⟩
              obtain ⟨bu, hbu⟩ : ∃ bu, N.blk h u = bu := ⟨_, rfl⟩
              rw [hfu, hbu] at c1
              rw [hbu] at hub ⊢
              have HFU := hid (And.intro hfu hbu)
              clear hfu hbu
              go_wp2_with fail
              have HZ0 : Hid (Fr (· = w.heap.size) w1 (((w1.setCell ⟨w.heap.size, 0, none⟩ (.int .i64 fu)).setCell ⟨w.heap.size, 2, none⟩ (.bool false)).setCell ⟨w.heap.size, 3, none⟩ (.pointer (some ⟨bu, 0, none⟩)))) :=
                hid (Fr.setCell (S := (· = w.heap.size)) (Fr.setCell (S := (· = w.heap.size)) (Fr.setCell (S := (· = w.heap.size)) (Fr.refl _ _) (p := ⟨w.heap.size, 0, none⟩) (fun _ => rfl) _) (p := ⟨w.heap.size, 2, none⟩) (fun _ => rfl) _) (p := ⟨w.heap.size, 3, none⟩) (fun _ => rfl) _)
              have HZ1 : Hid (Blk (((w1.setCell ⟨w.heap.size, 0, none⟩ (.int .i64 fu)).setCell ⟨w.heap.size, 2, none⟩ (.bool false)).setCell ⟨w.heap.size, 3, none⟩ (.pointer (some ⟨bu, 0, none⟩))) w.heap.size #[.int .i64 fu, .int .i64 val, .bool false, .pointer (some ⟨bu, 0, none⟩)] 110) := hid (((HE1.out.set 0 _).set 2 _).set 3 _)
              generalize ((w1.setCell ⟨w.heap.size, 0, none⟩ (.int .i64 fu)).setCell ⟨w.heap.size, 2, none⟩ (.bool false)).setCell ⟨w.heap.size, 3, none⟩ (.pointer (some ⟨bu, 0, none⟩)) = wz at HZ0 HZ1 ⊢
              go_meet
              case rel => exact ⟨i + 1, (A ++ x :: B).length, g, ⟨fu, val, false, some ⟨bu, 0, none⟩⟩, rfl, hlt, HF.out.1, Blk.fr HN1.out HZ0.out HNE.out, HZ1.out, HNE.out, Blk.fr HR1.out HZ0.out (Nat.ne_of_lt HR.out.lt), fun e w' hT => by
                obtain ⟨rfl, rfl⟩ := HFU.out
                have hl1 : (A ++ x :: B).length = (A ++ (x.1, x') :: B).length := by simp
                rw [hl1] at hT
                have hT2 := hT.rep (x := (T.first h (N.raw h u), u)) (kid_rep HP.out HO.out.blk) ⟨rfl, rfl⟩ (by rw [← hl1]; exact hlt)
                have hL : (A ++ (x.1, x') :: B).take (i + 1) ++ (T.first h (N.raw h u), u) :: (A ++ (x.1, x') :: B).drop (i + 1) = A ++ (x.1, x') :: (T.first h (N.raw h u), u) :: B := by
                  rw [← HHA.out, show A ++ (x.1, x') :: B = (A ++ [(x.1, x')]) ++ B by simp, show A.length + 1 = (A ++ [(x.1, x')]).length by simp, List.take_left, List.drop_left]
                  simp
                rw [hL] at hT2
                have hk := kid2_ids (k := x.1) (k2 := T.first h (N.raw h u)) HKL.out.2.2.2.1
                refine inner_done (L := A ++ (x.1, x') :: (T.first h (N.raw h u), u) :: B) HIK.out (fun c hc => (kid2_in HKL.out.2.1 HO.out.mem (HO.out.memu u rfl) c hc).fr HZ0.out (fun y hy e => ?_)) (kid2_nd HKL.out.2.2.1) (fun y hy => ?_) (HKL.out.2.2.2.2.trans HZ0.out (fun n hn e => absurd hn (by omega))) (Nat.lt_of_lt_of_le HN1.out.lt HZ0.out.size) hT2
                · have h2 : wr.heap.size = w.heap.size + 1 := HBW.out.2
                  rcases hk y (mem_fids hc hy) with h1 | h1
                  · have := N.In.lt (h := h + 1) HG.out.mem y h1; omega
                  · have : wr.heap.size ≤ y := h1; omega
                · have h2 : wr.heap.size = w.heap.size + 1 := HBW.out.2
                  rcases hk y hy with h1 | h1
                  · exact .inl h1
                  · right; have : wr.heap.size ≤ y := h1; omega⟩
          · have hm2 : ((cs.length : Int) == (i : Int) + 1) = false := beq_eq_false_iff_ne.2 (by omega)
            have hm2' : ((i : Int) + 1 == (cs.length : Int)) = false := beq_eq_false_iff_ne.2 (by omega)
            have hm3 : ¬ (cs.length : Int) = (i : Int) + 1 := by omega
            have hm3' : ¬ (i : Int) + 1 = (cs.length : Int) := by omega
            have hm4 : (cs.length == i + 1) = false := beq_eq_false_iff_ne.2 (by omega)
            have hm4' : (i + 1 == cs.length) = false := beq_eq_false_iff_ne.2 (by omega)
            have hm5 : ¬ cs.length = i + 1 := by omega
            have hl2 : i + 1 < cs.length := by omega
            have hx2 : cs[i + 1]? = some cs[i + 1] := List.getElem?_eq_getElem hl2
            generalize cs[i + 1] = x2 at hx2
            have hk2 := (HP.out (i + 1) x2 hx2).1
            have a0 : wr.cell? ⟨b', 1 + (i + 1) * 4, none⟩ = some (.int .i64 x2.1) := by rw [← hk2]; exact HNW.out.at' (i + 1) 0 (by omega) (by omega)
            have HX2 := hid hx2
            clear hk2 hx2
            have r2 : 0 ≤ (i : Int) + 1 ∧ (i : Int) + 1 < 64 := by omega
            have t0 : ((i : Int) + 1).toNat = i + 1 := by omega
            go_wp2_with fail
            go_quiet ((exact Calls.quiet_of (compare_any lv tb key x2.1 _ (HLS.out.drewN _).now)))
            by_cases hc : rankOf tb key < rankOf tb x2.1
            · have HPK : Hid (i + 1 = cs.length ∨ ∃ d, cs[i + 1]? = some d ∧ rankOf tb key < rankOf tb d.1) := .inr ⟨x2, HX2.out, hc⟩
              rw [cmp_lt hc]
              clear hc a0 hm2 hm2' hm3 hm3' hm4 hm4' hm5 hl2 r2 t0
              go_wp2_with fail
              clear c0 c3 hp3
              obtain ⟨A, B, hcs, hA⟩ : ∃ A B, cs = A ++ x :: B ∧ A.length = i := split_at HX.out
              have HHA := hid hA
              subst hcs
              have HW2 : Hid (Below w.heap.size w (wr.drewN nq)) := hid (below_dN HBW.out.1 nq)
              have HKD : Hid (Good base tb (wr.drewN nq) x.2) := hid (HG.out.kid.below HW2.out)
              have HNR : Hid (R ∉ N.ids h x.2) := hid (fun hm => HRN.out (by show R ∈ b' :: fids (A ++ x :: B); exact List.mem_cons_of_mem _ (mem_fids (by simp) hm)))
              have HNEB : Hid (w.heap.size ∉ N.ids h x.2) := hid (fun hm => by have := HG.out.kid.mem.lt _ hm; omega)
              clear hA
              refine (HIH.out h rfl x.2 (wr.drewN nq) HKD.out HRW.out HNR.out (HLS.out.drewN nq) (by have := HB.out; have := HW2.out.size; omega) (by have := HH.out; omega)).mono ?_
              rintro e w1 ⟨x', u, rfl, O⟩
              have HO := hid O
              have HKL := hid (kid_left HG.out HW2.out O)
              have HIK := hid (ins_kid (b := b') HHA.out HX.out (fun y d h1 h2 hd => by have := HI.out.2 y d h1 h2 hd; omega) HPK.out O.raw)
              have HN1 : Hid (Nd w1 b' (A ++ x :: B).length g) := hid (Blk.fr (S := (· ∈ N.ids h x.2)) HNW.out (Fr.into (Z := (· ∈ N.ids h x.2)) (fr_dn O.fr) (fun _ h => h)) HKL.out.1)
              have HE1 : Hid (Blk w1 w.heap.size #[.int .i64 key, .int .i64 val, .bool ok, .pointer none] 110) := hid (Blk.fr (S := (· ∈ N.ids h x.2)) HEW.out (fr_dn O.fr) HNEB.out)
              have HR1 : Hid (Blk w1 R #[rp, .int .i64 H, .int .i64 n, lv] 115) := hid (Blk.fr (S := (· ∈ N.ids h x.2)) HRW.out (fr_dn O.fr) HNR.out)
              clear O
              cases u with
              | none =>
                rw [show uptr (none : Option (N h)) = .pointer none from rfl]
                go_wp2_with fail
                go_ret
                exact inner_done (L := A ++ (x.1, x') :: B) HIK.out (kid_in HKL.out.2.1 HO.out.mem) (kid_nd HKL.out.2.2.1) (fun y hy => kid_ids (hW := HW2.out) HKL.out.2.2.2.1 y hy) HKL.out.2.2.2.2 HN1.out.lt
                  (.inl ⟨by have := HF.out.1; simp at this ⊢; omega, rfl, ⟨g, by rw [show (A ++ (x.1, x') :: B).length = (A ++ x :: B).length by simp]; exact HN1.out, kid_rep HP.out HO.out.blk⟩, Fr.refl _ _⟩)
              | some u =>
                rw [show uptr (some u) = .pointer (some ⟨N.blk h u, 0, none⟩) from rfl]
                have HMU := hid (made_u HKD.out HO.out.raw)
                have c1 : w1.cell? ⟨N.blk h u, 1, none⟩ = some (.int .i64 (T.first h (N.raw h u))) := first_cell (HO.out.memu u rfl) HMU.out
                have hub : N.blk h u ≠ w.heap.size := HO.out.blk_ne HBW.out.2 HNEB.out
                have e0 : w1.cell? ⟨w.heap.size, 0, none⟩ = some (.int .i64 key) := HE1.out.cell 0
                have e2 : w1.cell? ⟨w.heap.size, 2, none⟩ = some (.bool ok) := HE1.out.cell 2
                have e3 : w1.cell? ⟨w.heap.size, 3, none⟩ = some (.pointer none) := HE1.out.cell 3
                have f0 : w1.frozen? ⟨w.heap.size, 0, none⟩ = false := HE1.out.free 0
                have f2 : w1.frozen? ⟨w.heap.size, 2, none⟩ = false := HE1.out.free 2
                have f3 : w1.frozen? ⟨w.heap.size, 3, none⟩ = false := HE1.out.free 3
                obtain ⟨fu, hfu⟩ : ∃ fu, T.first h (N.raw h u) = fu := ⟨_, rfl⟩
                obtain ⟨bu, hbu⟩ : ∃ bu, N.blk h u = bu := ⟨_, rfl⟩
                rw [hfu, hbu] at c1
                rw [hbu] at hub ⊢
                have HFU := hid (And.intro hfu hbu)
                clear hfu hbu
                go_wp2_with fail
                have HZ0 : Hid (Fr (· = w.heap.size) w1 (((w1.setCell ⟨w.heap.size, 0, none⟩ (.int .i64 fu)).setCell ⟨w.heap.size, 2, none⟩ (.bool false)).setCell ⟨w.heap.size, 3, none⟩ (.pointer (some ⟨bu, 0, none⟩)))) :=
                  hid (Fr.setCell (S := (· = w.heap.size)) (Fr.setCell (S := (· = w.heap.size)) (Fr.setCell (S := (· = w.heap.size)) (Fr.refl _ _) (p := ⟨w.heap.size, 0, none⟩) (fun _ => rfl) _) (p := ⟨w.heap.size, 2, none⟩) (fun _ => rfl) _) (p := ⟨w.heap.size, 3, none⟩) (fun _ => rfl) _)
                have HZ1 : Hid (Blk (((w1.setCell ⟨w.heap.size, 0, none⟩ (.int .i64 fu)).setCell ⟨w.heap.size, 2, none⟩ (.bool false)).setCell ⟨w.heap.size, 3, none⟩ (.pointer (some ⟨bu, 0, none⟩))) w.heap.size #[.int .i64 fu, .int .i64 val, .bool false, .pointer (some ⟨bu, 0, none⟩)] 110) := hid (((HE1.out.set 0 _).set 2 _).set 3 _)
                generalize ((w1.setCell ⟨w.heap.size, 0, none⟩ (.int .i64 fu)).setCell ⟨w.heap.size, 2, none⟩ (.bool false)).setCell ⟨w.heap.size, 3, none⟩ (.pointer (some ⟨bu, 0, none⟩)) = wz at HZ0 HZ1 ⊢
                go_meet
                case rel => exact ⟨i + 1, (A ++ x :: B).length, g, ⟨fu, val, false, some ⟨bu, 0, none⟩⟩, rfl, hlt, HF.out.1, Blk.fr HN1.out HZ0.out HNE.out, HZ1.out, HNE.out, Blk.fr HR1.out HZ0.out (Nat.ne_of_lt HR.out.lt), fun e w' hT => by
                  obtain ⟨rfl, rfl⟩ := HFU.out
                  have hl1 : (A ++ x :: B).length = (A ++ (x.1, x') :: B).length := by simp
                  rw [hl1] at hT
                  have hT2 := hT.rep (x := (T.first h (N.raw h u), u)) (kid_rep HP.out HO.out.blk) ⟨rfl, rfl⟩ (by rw [← hl1]; exact hlt)
                  have hL : (A ++ (x.1, x') :: B).take (i + 1) ++ (T.first h (N.raw h u), u) :: (A ++ (x.1, x') :: B).drop (i + 1) = A ++ (x.1, x') :: (T.first h (N.raw h u), u) :: B := by
                    rw [← HHA.out, show A ++ (x.1, x') :: B = (A ++ [(x.1, x')]) ++ B by simp, show A.length + 1 = (A ++ [(x.1, x')]).length by simp, List.take_left, List.drop_left]
                    simp
                  rw [hL] at hT2
                  have hk := kid2_ids (k := x.1) (k2 := T.first h (N.raw h u)) HKL.out.2.2.2.1
                  refine inner_done (L := A ++ (x.1, x') :: (T.first h (N.raw h u), u) :: B) HIK.out (fun c hc => (kid2_in HKL.out.2.1 HO.out.mem (HO.out.memu u rfl) c hc).fr HZ0.out (fun y hy e => ?_)) (kid2_nd HKL.out.2.2.1) (fun y hy => ?_) (HKL.out.2.2.2.2.trans HZ0.out (fun n hn e => absurd hn (by omega))) (Nat.lt_of_lt_of_le HN1.out.lt HZ0.out.size) hT2
                  · have h2 : wr.heap.size = w.heap.size + 1 := HBW.out.2
                    rcases hk y (mem_fids hc hy) with h1 | h1
                    · have := N.In.lt (h := h + 1) HG.out.mem y h1; omega
                    · have : wr.heap.size ≤ y := h1; omega
                  · have h2 : wr.heap.size = w.heap.size + 1 := HBW.out.2
                    rcases hk y hy with h1 | h1
                    · exact .inl h1
                    · right; have : wr.heap.size ≤ y := h1; omega⟩
            · have HCC := hid hc
              have hcz : (0 : Int) ≤ cmp tb key x2.1 := by unfold cmp; rw [if_neg hc]; split <;> omega
              have hcz2 : ¬ cmp tb key x2.1 < 0 := by omega
              have hcz3 : decide (cmp tb key x2.1 < 0) = false := decide_eq_false hcz2
              clear hc
              generalize cmp tb key x2.1 = cv at hcz hcz2 hcz3 ⊢
              go_wp2_with fail
              have hg0 := HGK.out
              obtain ⟨k1, rfl⟩ : ∃ k1, gk = k1 + 1 := ⟨gk - 1, by omega⟩
              go_roundg k1
              case measure => omega
              case rel => exact ⟨i + 1, rfl, hl2, by show k1 + (i + 1) = cs.length; omega, by obtain ⟨q, hq⟩ := HI.out.1; exact ⟨q + nq, by rw [hq]; simp⟩, fun y d h1 h2 hd => by
                by_cases hyi : y = i + 1
                · subst hyi; rw [HX2.out] at hd; obtain rfl := Option.some.inj hd; exact HCC.out
                · exact HI.out.2 y d h1 (by omega) hd⟩
    case rest =>
      obtain ⟨j, m, g, q, rfl, hj, hm, HT⟩ := hcut
      have c0 := HT.out.1.m0
      clear HE HW HSZ
      go_wp2_with fail
      clear c0
      go_loopg [16] (m - j) (fun n_ v16 wr => ∃ (i : Nat) (gi : Nat → Q), v16 = .int .i64 i ∧ j ≤ i ∧ i ≤ m ∧ Hid (n_ + j = i) ∧ Hid (Nd wr b m gi ∧ (∀ x, x ≤ 63 → gi x = moved g m i x) ∧ Blk wr w.heap.size #[.int .i64 q.k, .int .i64 q.v, .bool q.ok, .pointer q.p] 110 ∧ Fr (· = b) wc wr))
      case atStart => exact ⟨m, g, rfl, hj, Nat.le_refl _, Nat.sub_add_cancel hj, HT.out.1, fun x _ => by unfold moved; rw [if_neg (by omega)], HT.out.2.1, Fr.refl _ _⟩
      case round =>
        obtain ⟨i, gi, rfl, hji, him, HGK, HI⟩ := hrel
        by_cases hlt : j < i
        · obtain ⟨i, rfl⟩ : ∃ i', i = i' + 1 := ⟨i - 1, by omega⟩
          have HJI := hid hji
          have a0 : wr.cell? ⟨b, 1 + i * 4, none⟩ = some (.int .i64 (gi i).k) := HI.out.1.at' i 0 (by omega) (by omega)
          have a1 : wr.cell? ⟨b, 1 + i * 4 + 1, none⟩ = some (.int .i64 (gi i).v) := HI.out.1.at' i 1 (by omega) (by omega)
          have a2 : wr.cell? ⟨b, 1 + i * 4 + 2, none⟩ = some (.bool (gi i).ok) := HI.out.1.at' i 2 (by omega) (by omega)
          have a3 : wr.cell? ⟨b, 1 + i * 4 + 3, none⟩ = some (.pointer (gi i).p) := HI.out.1.at' i 3 (by omega) (by omega)
          have r0 : (i : Int) < 64 ∧ (i : Int) + 1 < 64 ∧ 0 ≤ (i : Int) + 1 := by omega
          have w0 : IntKind.i64.wrap (i : Int) = (i : Int) := i64_in _ (by omega)
          have t0 : ((i : Int) + 1).toNat = i + 1 := by omega
          have l0 : (j : Int) < (i : Int) + 1 := by omega
          go_upto_region 26 with fail
          refine still_tail_drew 12 (by kernel_rfl) (by kernel_rfl) ?_
          simp only [List.take_succ_cons, List.take_zero, List.drop_succ_cons, List.drop_zero]
          repeat still_step
          refine wpStill_nil ?_
          change wpList _ _ _ _ _ wr.drew
          refine wpList_store_mid rfl 110 (.tmp 153) (.tmp 150) rfl b (1 + (i + 1) * 4) _ rfl rfl (Nd.there (w := wr.drew) HI.out.1 (i + 1) (by omega)) (by kernel_rfl) (by simp [Value.oneCell']) ?_
          change wpList _ _ _ _ _ (wr.drew.setCells b (1 + (i + 1) * 4) (cellsQ (gi i)))
          have HI2 := hid (Nd.puts (w := wr.drew) HI.out.1 (i + 1) (gi i) (by omega))
          have HI3 : Hid (Blk (wr.drew.setCells b (1 + (i + 1) * 4) (cellsQ (gi i))) w.heap.size #[.int .i64 q.k, .int .i64 q.v, .bool q.ok, .pointer q.p] 110) := Blk.sets (w := wr.drew) HI.out.2.2.1 b (1 + (i + 1) * 4) (cellsQ (gi i)) (fun e => HT.out.2.2.1 e.symm)
          have HI4 := hid (fr_sets (S := (· = b)) (b := b) (fun _ => rfl) HI.out.2.2.2.drew (1 + (i + 1) * 4) (cellsQ (gi i)))
          clear a0 a1 a2 a3
          generalize wr.drew.setCells b (1 + (i + 1) * 4) (cellsQ (gi i)) = W4 at HI2 HI3 HI4 ⊢
          go_wp2_with fail
          have hg0 := HGK.out
          obtain ⟨k1, rfl⟩ : ∃ k1, gk = k1 + 1 := ⟨gk - 1, by omega⟩
          go_roundg k1
          case measure => omega
          case rel => exact ⟨i, _, rfl, by omega, by omega, by show k1 + j = i; omega, HI2.out, fun x hx => by
            have h1 := HI.out.2.1 i (by omega)
            have h2 := HI.out.2.1 x hx
            unfold moved at h1 h2 ⊢
            simp only [upd]
            by_cases e : x = i + 1
            · subst e
              rw [if_pos rfl, h1, if_neg (by omega), if_pos (by omega)]
              rfl
            · rw [if_neg e, h2]
              by_cases e2 : i + 1 < x ∧ x ≤ m
              · rw [if_pos e2, if_pos (by omega)]
              · rw [if_neg e2, if_neg (by omega)], HI3.out, HI4.out⟩
        · obtain rfl : i = j := by omega
          have l0 : ¬ (i : Int) < (i : Int) := by omega
          have e0 : wr.cell? ⟨w.heap.size, 0, none⟩ = some (.int .i64 q.k) := HI.out.2.2.1.cell 0
          have e1 : wr.cell? ⟨w.heap.size, 1, none⟩ = some (.int .i64 q.v) := HI.out.2.2.1.cell 1
          have e2 : wr.cell? ⟨w.heap.size, 2, none⟩ = some (.bool q.ok) := HI.out.2.2.1.cell 2
          have e3 : wr.cell? ⟨w.heap.size, 3, none⟩ = some (.pointer q.p) := HI.out.2.2.1.cell 3
          have r0 : (i : Int) < 64 := by omega
          go_upto_region 27 with fail
          refine still_tail_drew 6 (by kernel_rfl) (by kernel_rfl) ?_
          simp only [List.take_succ_cons, List.take_zero, List.drop_succ_cons, List.drop_zero]
          repeat still_step
          refine wpStill_nil ?_
          change wpList _ _ _ _ _ wr.drew
          refine wpList_store_mid rfl 110 (.tmp 159) (.tmp 156) rfl b (1 + i * 4) _ rfl rfl (Nd.there (w := wr.drew) HI.out.1 i (by omega)) (by kernel_rfl) (by simp [Value.oneCell']) ?_
          change wpList _ _ _ _ _ (wr.drew.setCells b (1 + i * 4) (cellsQ q))
          have HI2 := hid (Nd.puts (w := wr.drew) HI.out.1 i q (by omega))
          have HI4 := hid (fr_sets (S := (· = b)) (b := b) (fun _ => rfl) HI.out.2.2.2.drew (1 + i * 4) (cellsQ q))
          clear e0 e1 e2 e3
          generalize wr.drew.setCells b (1 + i * 4) (cellsQ q) = W4 at HI2 HI4 ⊢
          have c0 := HI2.out.m0
          have f0 := HI2.out.free 0
          have w0 : IntKind.i64.wrap ((m : Int) + 1) = ((m + 1 : Nat) : Int) := by rw [i64_in _ (by omega)]; rfl
          have HI5 := hid (HI2.out.setm ((m : Int) + 1))
          have HI6 := hid (HI4.out.setCell (p := ⟨b, 0, none⟩) (fun _ => rfl) (.int .i64 ((m : Int) + 1)))
          go_upto_region 29 with fail
          have HPL : Hid (∀ x, x ≤ m → upd gi i q x = shift g i q x) := hid (fun x hx => by
            have h2 := HI.out.2.1 x (by omega)
            unfold moved at h2
            unfold shift
            simp only [upd]
            by_cases e : x = i
            · rw [if_pos e, if_neg (by omega), if_pos e]
            · rw [if_neg e, h2]
              by_cases e2 : x < i
              · rw [if_pos e2, if_neg (by omega)]
              · rw [if_neg e2, if_neg e, if_pos (by omega)])
          clear c0 f0
          generalize W4.setCell ⟨b, 0, none⟩ (.int .i64 ((m : Int) + 1)) = W5 at HI5 HI6 ⊢
          have c0 := HI5.out.m0
          by_cases hm2 : m + 1 < 64
          · have hm3 : (m : Int) + 1 < 64 := by omega
            go_wp2_with fail
            go_ret
            exact HT.out.2.2.2.2 _ _ (.inl ⟨hm2, rfl, ⟨_, HI5.out, HPL.out⟩, HI6.out⟩)
          · obtain rfl : m = 63 := by omega
            have HN5 : Hid (Nd W5 b 64 (upd gi i q)) := HI5.out
            clear HI5 c0
            have c0 : W5.cell? ⟨b, 0, none⟩ = some (.int .i64 64) := HN5.out.m0
            go_wp2_with fail
            refine (split_any R b (upd gi i q) W5 HN5.out).mono ?_
            rintro e w2 ⟨c, rfl, hc1, hc2, ⟨gc, hc3, hc4⟩, hc5⟩
            have HC := hid (And.intro hc1 (And.intro hc2 (And.intro hc3 (And.intro hc4 hc5))))
            clear hc1 hc2 hc3 hc4 hc5
            go_wp2_with fail
            go_ret
            refine HT.out.2.2.2.2 _ _ (.inr ⟨rfl, c, rfl, Nat.le_trans HI6.out.size HC.out.1, ⟨_, HC.out.2.1, fun x hx => HPL.out x (by omega)⟩, ⟨gc, HC.out.2.2.1, fun x hx => ?_⟩, HI6.out.trans HC.out.2.2.2.2 (fun _ _ h => h)⟩)
            rw [HC.out.2.2.2.1 x hx, HPL.out (32 + x) (by omega)]
theorem insert_any (base R : Nat) (tb : List Int) (key val n H : Int) (ok : Bool) (rp lv : Value) : ∀ (h : Nat) (t : N h) (w : World), Good base tb w t → Blk w R #[rp, .int .i64 H, .int .i64 n, lv] 115 → R ∉ N.ids h t → LessS base w lv tb → base ≤ w.heap.size → h ≤ 1099511627776 →
    Calls Try.prog 92 #[.pointer (some ⟨R, 0, none⟩), .pointer (some ⟨N.blk h t, 0, none⟩), .int .i64 key, .int .i64 val, .int .i64 h, .bool ok] w (Done tb key val ok t w)
  | 0, t, w, h1, h2, h3, h4, h5, h6 => insert_step base R tb key val n H ok rp lv 0 t w (fun h' e => by omega) h1 h2 h3 h4 h5 h6
  | h + 1, t, w, h1, h2, h3, h4, h5, h6 => insert_step base R tb key val n H ok rp lv (h + 1) t w (fun h' e => by
    obtain rfl : h = h' := by omega
    exact insert_any base R tb key val n H ok rp lv h) h1 h2 h3 h4 h5 h6
end Go.Proofs.Ytjlcebgfknfelaa.Bt

namespace Go.Proofs.Ytjlcebgfknfelaa.Avl
open Go Go.RowKit Go.Deep Go.Proofs.Ytjlcebgfknfelaa.Hk Go.Proofs.Ytjlcebgfknfelaa.AvlPure Go.Proofs.Ytjlcebgfknfelaa.Less
/-- The node that a search comes to. -/
def N.sub (rk : Int → Int) (key : Int) : N → N
  | .nil => .nil
  | .node b k v h l r => if rk key < rk k then N.sub rk key l else if rk k < rk key then N.sub rk key r else .node b k v h l r
theorem sub_find (rk : Int → Int) (key : Int) : ∀ t : N, T.find rk key t.raw = match N.sub rk key t with | .nil => none | .node _ k v _ _ _ => some (k, v)
  | .nil => rfl
  | .node b k v h l r => by
    simp only [N.raw, T.find, N.sub]
    split
    · exact sub_find rk key l
    · split
      · exact sub_find rk key r
      · rfl
theorem sub_in {w : World} (rk : Int → Int) (key : Int) : ∀ {t : N}, t.In w → (N.sub rk key t).In w
  | .nil, _ => trivial
  | .node b k v h l r, hin => by
    simp only [N.sub]
    split
    · exact sub_in rk key hin.2.1
    · split
      · exact sub_in rk key hin.2.2
      · exact hin
def Found (tb : List Int) (key : Int) (t : N) (w : World) (e : Ending) (w' : World) : Prop := e = .returned (N.sub (rankOf tb) key t).ptr ∧ ∃ n, w' = w.drewN n
set_option maxHeartbeats 800000 in
theorem search_any (base : Nat) (tb : List Int) (key : Int) (lv : Value) : ∀ (t : N) (w : World), t.In w → LessS base w lv tb →
    Calls Try.prog 85 #[t.ptr, .int .i64 key, lv] w (Found tb key t w)
  | .nil, w, _, _ => by
    show Calls Try.prog 85 #[.pointer none, .int .i64 key, lv] w _
    go_enter Try.func85, Try.ntmps85
    go_wp2_with fail
    go_ret
    exact ⟨rfl, 0, rfl⟩
  | .node b k v h l r, w, hin, hL => by
    have HI : Hid ((N.node b k v h l r).In w) := hin
    have HL : Hid (LessS base w lv tb) := hL
    have c0 : w.cell? ⟨b, 0, none⟩ = some (.int .i64 k) := hin.1.cell 0
    have c3 : w.cell? ⟨b, 3, none⟩ = some l.ptr := hin.1.cell 3
    have c4 : w.cell? ⟨b, 4, none⟩ = some r.ptr := hin.1.cell 4
    clear hin hL
    show Calls Try.prog 85 #[.pointer (some ⟨b, 0, none⟩), .int .i64 key, lv] w _
    by_cases h1 : rankOf tb key < rankOf tb k
    · have HC : Hid (cmp tb key k = -1) := cmp_lt h1
      have HR : Hid (N.sub (rankOf tb) key (N.node b k v h l r) = N.sub (rankOf tb) key l) := if_pos h1
      clear h1
      go_enter Try.func85, Try.ntmps85
      go_wp2_with fail
      refine (compare_any lv tb key k _ HL.out.now).mono ?_
      rintro e w1 ⟨rfl, n, rfl⟩
      rw [HC.out]
      go_wp2_with fail
      refine (search_any base tb key lv l (w.drewN n) (HI.out.2.1.drewN n) (HL.out.drewN n)).mono ?_
      rintro e w1 ⟨rfl, m, rfl⟩
      go_wp2_with fail
      go_ret
      exact ⟨by rw [HR.out]; rfl, n + m, by simp⟩
    · by_cases h2 : rankOf tb k < rankOf tb key
      · have HC : Hid (cmp tb key k = 1) := cmp_gt h2
        have HR : Hid (N.sub (rankOf tb) key (N.node b k v h l r) = N.sub (rankOf tb) key r) := (if_neg h1).trans (if_pos h2)
        clear h1 h2
        go_enter Try.func85, Try.ntmps85
        go_wp2_with fail
        refine (compare_any lv tb key k _ HL.out.now).mono ?_
        rintro e w1 ⟨rfl, n, rfl⟩
        rw [HC.out]
        go_wp2_with fail
        refine (compare_any lv tb key k _ (HL.out.drewN n).now).mono ?_
        rintro e w1 ⟨rfl, n', rfl⟩
        rw [HC.out]
        go_wp2_with fail
        refine (search_any base tb key lv r (w.drewN (n + n')) (HI.out.2.2.drewN (n + n')) (HL.out.drewN (n + n'))).mono ?_
        rintro e w1 ⟨rfl, m, rfl⟩
        go_wp2_with fail
        go_ret
        exact ⟨by rw [HR.out]; rfl, n + n' + m, by simp⟩
      · have HC : Hid (cmp tb key k = 0) := cmp_eq h1 h2
        have HR : Hid (N.sub (rankOf tb) key (N.node b k v h l r) = N.node b k v h l r) := (if_neg h1).trans (if_neg h2)
        clear h1 h2
        go_enter Try.func85, Try.ntmps85
        go_wp2_with fail
        refine (compare_any lv tb key k _ HL.out.now).mono ?_
        rintro e w1 ⟨rfl, n, rfl⟩
        rw [HC.out]
        go_wp2_with fail
        refine (compare_any lv tb key k _ (HL.out.drewN n).now).mono ?_
        rintro e w1 ⟨rfl, n', rfl⟩
        rw [HC.out]
        go_wp2_with fail
        go_ret
        exact ⟨by rw [HR.out]; rfl, n + n', by simp⟩
set_option maxHeartbeats 800000 in
set_option maxRecDepth 100000 in
theorem size_any : ∀ (t : N) (w : World), t.In w → t.raw.size ≤ 4611686018427387 →
    Calls Try.prog 86 #[t.ptr] w fun e w' => e = .returned (.int .i64 t.raw.size) ∧ ∃ n, w' = w.drewN n
  | .nil, w, _, _ => by
    show Calls Try.prog 86 #[.pointer none] w _
    go_enter Try.func86, Try.ntmps86
    go_wp2_with fail
    go_ret
    exact ⟨rfl, 0, rfl⟩
  | .node b k v h l r, w, hin, hs => by
    have e0 : (N.node b k v h l r).raw.size = 1 + l.raw.size + r.raw.size := rfl
    have s1 := T.size_nonneg l.raw
    have s2 := T.size_nonneg r.raw
    rw [e0] at hs ⊢
    have hl := size_any l
    have hr := size_any r
    have HH : Hid ((∀ (w : World), l.In w → l.raw.size ≤ 4611686018427387 → Calls Try.prog 86 #[l.ptr] w fun e w' => e = .returned (.int .i64 l.raw.size) ∧ ∃ n, w' = w.drewN n) ∧
      (∀ (w : World), r.In w → r.raw.size ≤ 4611686018427387 → Calls Try.prog 86 #[r.ptr] w fun e w' => e = .returned (.int .i64 r.raw.size) ∧ ∃ n, w' = w.drewN n)) := ⟨hl, hr⟩
    have HI : Hid ((N.node b k v h l r).In w ∧ l.raw.size ≤ 4611686018427387 ∧ r.raw.size ≤ 4611686018427387) := ⟨hin, by omega, by omega⟩
    have c3 : w.cell? ⟨b, 3, none⟩ = some l.ptr := hin.1.cell 3
    have c4 : w.cell? ⟨b, 4, none⟩ = some r.ptr := hin.1.cell 4
    clear hin e0 hl hr
    show Calls Try.prog 86 #[.pointer (some ⟨b, 0, none⟩)] w _
    go_enter Try.func86, Try.ntmps86
    go_wp2_with fail
    go_quiet (first | (go_at_call_of 86 (N.ptr l); refine Calls.quiet_of (HH.out.1 _ ?_ HI.out.2.1); exact HI.out.1.2.1.drewN _) | (go_at_call_of 86 (N.ptr r); refine Calls.quiet_of (HH.out.2 _ ?_ HI.out.2.2); exact HI.out.1.2.2.drewN _))
    go_wp2
    go_ret
    exact ⟨rfl, _, rfl⟩
end Go.Proofs.Ytjlcebgfknfelaa.Avl

namespace Go.Proofs.Ytjlcebgfknfelaa.Hk
open Go
/-- The operations of a region, in which number n waits for number 0, too. -/
def tied (n : Nat) (l : List Oper) : List Oper := l.modify n (fun o => { o with after := o.after.push ⟨0, .data⟩ })
theorem tied_get (n : Nat) (l : List Oper) (i : Nat) : (tied n l)[i]? = if n = i then (l[i]?).map (fun o => { o with after := o.after.push ⟨0, .data⟩ }) else l[i]? := by
  unfold tied
  rw [List.getElem?_modify]
  split <;> simp_all
theorem tied_size (n : Nat) (l : List Oper) : (tied n l).toArray.size = l.toArray.size := by simp [tied]
theorem tied_ready {md : Region.Mode} {n : Nat} {l : List Oper} {listed : Array Bool} (h0 : listed.getD 0 false = true) : Region.ready md (tied n l).toArray listed = Region.ready md l.toArray listed := by
  unfold Region.ready
  rw [tied_size]
  refine List.filter_congr (fun i _ => ?_)
  simp only [List.getElem?_toArray, tied_get]
  split
  · cases l[i]? with
    | none => rfl
    | some o =>
      simp only [Option.map_some, Option.getD_some]
      rw [Array.all_push]
      simp [h0]
  · rfl
theorem tied_yielded (n : Nat) (l : List Oper) (t : Array Value) : yielded (tied n l).toArray t = yielded l.toArray t := by
  funext j
  have e : ((tied n l).toArray[j]?).bind (·.dst) = (l.toArray[j]?).bind (·.dst) := by
    simp only [List.getElem?_toArray, tied_get]
    split
    · cases l[j]? <;> rfl
    · rfl
  unfold yielded
  rw [e]
theorem tied_op {P : Program} {n : Nat} {l : List Oper} {Q : Exit → Act → World → Prop} {i : Nat} {K : Act → World → Prop} {a : Act} {w : World} :
    wpOp P (tied n l).toArray Q i K a w = wpOp P l.toArray Q i K a w := by
  unfold wpOp
  rw [tied_yielded]
  simp only [List.getElem?_toArray, tied_get]
  by_cases hn : n = i
  · rw [if_pos hn]
    cases l[i]? with
    | none => rfl
    | some o => rfl
  · rw [if_neg hn]
theorem tied_any {P : Program} {md : Region.Mode} {n : Nat} {l : List Oper} {Q : Exit → Act → World → Prop} : ∀ (f : Nat) (listed : Array Bool) (a : Act) (w : World), listed.getD 0 false = true →
    wpAny P md (tied n l).toArray Q f listed a w → wpAny P md l.toArray Q f listed a w
  | 0, listed, a, w, h0, h => by
    obtain ⟨h1, h2⟩ := h
    rw [tied_ready h0] at h1
    exact ⟨h1, h2⟩
  | f + 1, listed, a, w, h0, h => by
    obtain ⟨h1, h2⟩ := h
    rw [tied_ready h0] at h1 h2
    refine ⟨h1, fun i hi => ?_⟩
    have := h2 i hi
    rw [tied_op] at this
    exact wpOp_mono (fun a' w' h' => tied_any f _ a' w' (getD_set_true h0) h') this
/-- A region whose first operation is a plain move, for which nobody but a late one waits; all that comes ahead of number n only reads, and number n and those behind it come in one order. -/
theorem wp_first_tail {P : Program} {id : Nat} {Q : Exit → Act → World → Prop} {a : Act} {w : World} {o0 : Oper} {l : List Oper} (x : Operand) (d : Option Tmp) (n : Nat) (hm : P.follows .mixedOrders = true)
    (h0 : o0.op = .move x ∧ o0.guard = none ∧ o0.dst = d)
    (hsel : Region.noSelect (o0 :: l).toArray = true) (hf : Region.free .any (o0 :: l).toArray (Array.replicate (o0 :: l).toArray.size false) 0 = true)
    (hr : (Region.ready .any (o0 :: l).toArray (Array.replicate (o0 :: l).toArray.size false)).contains 0 = true)
    (hQ : ∀ c a' w', Q (.panic c) (a'.put d (a.eval x)) w' → Q (.panic c) a' w')
    (hB : (Region.noSelect (tied n (o0 :: l)).toArray && decide (0 < n) && decide (n < (tied n (o0 :: l)).toArray.size) && Region.sinkB .any (tied n (o0 :: l)).toArray n && Region.chainB .any (tied n (o0 :: l)).toArray n &&
      Region.lexHead .any (tied n (o0 :: l)).toArray ((tied n (o0 :: l)).toArray.size - n) (n - 1) 1 ((Array.replicate (o0 :: l).toArray.size false).setIfInBounds 0 true)) = true)
    (h : wpStill P (tied n (o0 :: l)).toArray w.drew (fun a' => wpList P (tied n (o0 :: l)).toArray Q ((tied n (o0 :: l)).drop n) a' w.drew) (((tied n (o0 :: l)).take n).drop 1) (a.put d (a.eval x))) :
    (Code.region id (o0 :: l).toArray true).wp P Q a w := by
  simp only [Bool.and_eq_true, decide_eq_true_eq] at hB
  obtain ⟨⟨⟨⟨⟨hsel', hn0⟩, hn⟩, hs⟩, hc⟩, hlex⟩ := hB
  refine wp_region_any hm ?_
  obtain ⟨e1, e2, e3⟩ := h0
  subst e3
  have hsz : (o0 :: l).toArray.size = l.length + 1 := by simp
  have hsz' : (tied n (o0 :: l)).toArray.size = l.length + 1 := by rw [tied_size]; exact hsz
  rw [hsz]
  refine wpAny_take (i := 0) (oi := o0) (v := a.eval x) (by simp) hsel (by rw [hsz] at hf; exact hf) (by rw [hsz] at hr; exact hr) hQ (.inl ⟨by simp [Region.wanted, e2], fun w' => by simp [execOp, e1]⟩) ?_
  refine tied_any (n := n) _ _ _ _ (by simp) ?_
  have htl : (((tied n (o0 :: l)).take n).drop 1).length = n - 1 := by
    have := hsz'; simp at this ⊢; omega
  have hdl : ((tied n (o0 :: l)).drop n).length = (tied n (o0 :: l)).toArray.size - n := by simp
  rw [hsz] at hlex
  have inv0 : HeadInv .any (tied n (o0 :: l)).toArray n ((Array.replicate (l.length + 1) false).setIfInBounds 0 true) := by
    have inv00 : HeadInv .any (tied n (o0 :: l)).toArray n (Array.replicate (l.length + 1) false) :=
      ⟨by rw [hsz']; simp, fun j oj _ hl => (by rw [getD_replicate_false] at hl; cases hl), fun t _ ht => getD_in (by rw [hsz'] at ht; simpa using ht) (getD_replicate_false _ _)⟩
    refine inv00.set ?_ hn0
    rw [List.contains_iff_mem, mem_ready] at hr
    obtain ⟨r1, o, r2, r3⟩ := hr
    rw [mem_ready]
    refine ⟨by rw [hsz] at r1; exact r1, o, ?_, fun e he hb => by have := r3 e he hb; rw [hsz] at this; exact this⟩
    rw [List.getElem?_toArray, tied_get, if_neg (by omega), ← List.getElem?_toArray]
    exact r2
  have H := wpAnyL_lex (md := .any) (g := (tied n (o0 :: l)).toArray.size - n) hsel' hs hc hn (((tied n (o0 :: l)).take n).drop 1) 1 _ _ (fun j hj => by
    rw [htl] at hj
    simp only [List.getElem?_drop, List.getElem?_take, List.getElem?_toArray]
    rw [if_pos (by omega)]) (by rw [htl]; omega) inv0 (by rw [htl]; exact hlex) h
  have := wpAny_of_head (Q' := Q) (g := (tied n (o0 :: l)).toArray.size - n) (fun listed a' hL => by
    have := wpAny_of_seq (md := .any) (Q' := Q) ((tied n (o0 :: l)).drop n) n listed a' w.drew (fun j => by simp [List.getElem?_drop]) (by rw [hdl]; exact hL.1) hL.2
    rwa [hdl] at this) _ _ _ H
  rw [htl, hsz', show n - 1 + (l.length + 1 - n) = l.length by rw [hsz'] at hn; omega] at this
  exact this
end Go.Proofs.Ytjlcebgfknfelaa.Hk

namespace Go.Proofs.Ytjlcebgfknfelaa.Avl
open Go Go.RowKit Go.Proofs.Ytjlcebgfknfelaa.Hk Go.Proofs.Ytjlcebgfknfelaa.AvlPure Go.Proofs.Ytjlcebgfknfelaa.Less
/-- The leftmost node. -/
def N.first : N → N
  | .nil => .nil
  | .node b k v h .nil r => .node b k v h .nil r
  | .node _ _ _ _ (.node b k v h l r) _ => N.first (.node b k v h l r)
theorem first_least : ∀ t : N, t ≠ .nil → ∃ b h l r, N.first t = .node b (T.least t.raw).1 (T.least t.raw).2 h l r
  | .nil, h => absurd rfl h
  | .node b _ _ h .nil r, _ => ⟨b, h, .nil, r, rfl⟩
  | .node _ _ _ _ (.node b k v h l r) _, _ => first_least (.node b k v h l r) (fun e => by cases e)
theorem first_in {w : World} : ∀ {t : N}, t.In w → (N.first t).In w
  | .nil, _ => trivial
  | .node _ _ _ _ .nil _, hin => hin
  | .node _ _ _ _ (.node b k v h l r) _, hin => first_in (t := .node b k v h l r) hin.2.1
theorem first_ids : ∀ {t : N} {b : Nat} {k v h : Int} {l r : N}, N.first t = .node b k v h l r → b ∈ t.ids
  | .nil, _, _, _, _, _, _, e => by cases e
  | .node _ _ _ _ .nil _, _, _, _, _, _, _, e => by injection e with e1; rw [← e1]; simp [N.ids]
  | .node _ _ _ _ (.node b k v h l r) _, _, _, _, _, _, _, e => by
    have := first_ids (t := .node b k v h l r) e
    simp only [N.ids, List.mem_cons, List.mem_append] at this ⊢
    right; left; exact this
theorem smallest_any : ∀ (t : N) (w : World), t.In w → t ≠ .nil →
    Calls Try.prog 97 #[t.ptr] w fun e w' => e = .returned (N.first t).ptr ∧ w' = w
  | .nil, _, _, h => absurd rfl h
  | .node b k v h .nil r, w, hin, _ => by
    have c3 : w.cell? ⟨b, 3, none⟩ = some (.pointer none) := hin.1.cell 3
    clear hin
    show Calls Try.prog 97 #[.pointer (some ⟨b, 0, none⟩)] w _
    go_enter Try.func97, Try.ntmps97
    go_wp2_with fail
    go_ret
    exact ⟨rfl, rfl⟩
  | .node b k v h (.node b2 k2 v2 h2 l2 r2) r, w, hin, _ => by
    have c3 : w.cell? ⟨b, 3, none⟩ = some (.pointer (some ⟨b2, 0, none⟩)) := hin.1.cell 3
    have HI : Hid ((N.node b2 k2 v2 h2 l2 r2).In w) := hin.2.1
    clear hin
    show Calls Try.prog 97 #[.pointer (some ⟨b, 0, none⟩)] w _
    go_enter Try.func97, Try.ntmps97
    go_wp2_with fail
    refine (smallest_any (.node b2 k2 v2 h2 l2 r2) w HI.out (fun e => by cases e)).mono ?_
    rintro e w1 ⟨rfl, rfl⟩
    go_wp2_with fail
    go_ret
    exact ⟨rfl, rfl⟩
/-- What remove leaves. -/
def Removed (base : Nat) (tb : List Int) (key : Int) (t : N) (w : World) (e : Ending) (w' : World) : Prop :=
  ∃ t' : N, e = .returned t'.ptr ∧ t'.raw = T.rem (rankOf tb) t.raw key ∧ Put base t t' w w'
theorem remove_nil (base : Nat) (tb : List Int) (key : Int) (lv : Value) (w : World) :
    Calls Try.prog 84 #[.pointer none, .int .i64 key, lv] w (Removed base tb key .nil w) := by
  go_enter Try.func84, Try.ntmps84
  go_wp2_with fail
  go_ret
  exact ⟨.nil, rfl, rfl, trivial, List.nodup_nil, fun b hb => by simp [N.ids] at hb, Fr.refl _ _⟩
theorem fr_of_drewN {S : Nat → Prop} {w w' : World} {n : Nat} (h : Fr S (w.drewN n) w') : Fr S w w' := ⟨h.os, h.tape, h.output, h.size, h.block⟩
theorem Put.of_drewN {base : Nat} {t t' : N} {w w' : World} {n : Nat} (h : Put base t t' (w.drewN n) w') : Put base t t' w w' := ⟨h.mem, h.nodup, h.ids, fr_of_drewN h.fr⟩
theorem Put.of_drew {base : Nat} {t t' : N} {w w' : World} (h : Put base t t' w.drew w') : Put base t t' w w' := ⟨h.mem, h.nodup, h.ids, ⟨h.fr.os, h.fr.tape, h.fr.output, h.fr.size, h.fr.block⟩⟩
theorem Good.drew {base : Nat} {w : World} {t : N} (g : Good base w t) : Good base w.drew t := ⟨g.mem.drew, g.nodup, g.above, g.right, g.even⟩
theorem LessS.drew {base : Nat} {w : World} {v : Value} {t : List Int} (h : LessS base w v t) : LessS base w.drew v t := h.to ⟨rfl, rfl, rfl, Nat.le_refl _, fun _ _ => rfl⟩
/-- The step at what takes a node's place. -/
theorem put_part {base : Nat} {t p t' : N} {w w' : World} {n : Nat} (hi : ∀ b ∈ p.ids, b ∈ t.ids) (nd : p.ids.Nodup) (m : t'.In w') (hp : t'.ids.Perm p.ids) (hf : Fr (· ∈ p.ids) (w.drewN n) w') : Put base t t' w w' :=
  ⟨m, hp.nodup_iff.2 nd, fun b hb => .inl (hi b (hp.mem_iff.1 hb)), (fr_of_drewN hf).mono (fun k _ hk => hi k hk)⟩
set_option maxHeartbeats 4000000 in
set_option maxRecDepth 100000 in
theorem remove_any (base : Nat) (tb : List Int) (lv : Value) : ∀ (t : N) (key : Int) (w : World), Good base w t → t.raw.tall ≤ 4294950000 → base ≤ w.heap.size → LessS base w lv tb →
    Calls Try.prog 84 #[t.ptr, .int .i64 key, lv] w (Removed base tb key t w)
  | .nil, key, w, _, _, _, _ => remove_nil base tb key lv w
  | .node b k v h l r, key, w, g, ht, hbs, hL => by
    have tn : (N.node b k v h l r).raw.tall = 1 + max l.raw.tall r.raw.tall := rfl
    have tl := T.tall_nonneg l.raw
    have tr := T.tall_nonneg r.raw
    have HG : Hid (Good base w (.node b k v h l r)) := g
    have HL : Hid (LessS base w lv tb) := hL
    have c0 : w.cell? ⟨b, 0, none⟩ = some (.int .i64 k) := g.mem.1.cell 0
    have c3 : w.cell? ⟨b, 3, none⟩ = some l.ptr := g.mem.1.cell 3
    have c4 : w.cell? ⟨b, 4, none⟩ = some r.ptr := g.mem.1.cell 4
    have HT : Hid (l.raw.tall ≤ 4294950000 ∧ r.raw.tall ≤ 4294950000) := ⟨by omega, by omega⟩
    clear g hL
    show Calls Try.prog 84 #[.pointer (some ⟨b, 0, none⟩), .int .i64 key, lv] w _
    by_cases h1 : rankOf tb key < rankOf tb k
    · have HC : Hid (cmp tb key k = -1) := cmp_lt h1
      have HR : Hid (T.rem (rankOf tb) (N.node b k v h l r).raw key = T.reb (.node k v h (T.rem (rankOf tb) l.raw key) r.raw)) := if_pos h1
      clear h1 ht tn tl tr
      go_enter Try.func84, Try.ntmps84
      go_wp2_with fail
      refine (compare_any lv tb key k _ HL.out.now).mono ?_
      rintro e w1 ⟨rfl, n, rfl⟩
      rw [HC.out]
      go_wp2_with fail
      refine (remove_any base tb lv l key (w.drewN n) (HG.out.lf.drewN n) HT.out.1 (by simpa using hbs) (HL.out.drewN n)).mono ?_
      rintro e w1 ⟨l', rfl, hraw, hput⟩
      have hput' := hput.of_drewN
      obtain ⟨m1, m2, B1⟩ := mem_left HG.out hput'
      have d3 : w1.cell? ⟨b, 3, none⟩ = some l.ptr := B1.cell 3
      have f3 : w1.frozen? ⟨b, 3, none⟩ = false := B1.free 3
      have HM : Hid ((N.node b k v h l' r).In (w1.setCell ⟨b, 3, none⟩ l'.ptr) ∧ (N.node b k v h l' r).ids.Nodup ∧ l'.raw = T.rem (rankOf tb) l.raw key ∧ Put base l l' w w1) := ⟨m1, m2, hraw, hput'⟩
      obtain ⟨u, hu⟩ := l'.ptr_some
      rw [hu] at HM ⊢
      have HU : Hid (l'.ptr = .pointer u) := hu
      clear m1 m2 B1 hraw hput hput' hu
      go_wp2_with fail
      refine (reb_any (.node b k v h l' r) _ HM.out.1 HM.out.2.1 (fun b' k' v' h' l2 r2 e => ?_)).mono ?_
      · injection e with e1 e2 e3 e4 e5 e6
        subst e5 e6
        exact ⟨⟨by rw [HM.out.2.2.1]; exact T.right_rem _ _ HG.out.lf.right HG.out.lf.even, by
          rw [HM.out.2.2.1]
          have := (T.even_rem (rankOf tb) key HG.out.lf.right HG.out.lf.even).2
          have := HT.out
          omega⟩, HG.out.rt.part (by have := HT.out; omega)⟩
      rintro e w3 ⟨t', rfl, i1, i2, i3, i4⟩
      have HD : Hid (t'.In w3 ∧ t'.raw = T.reb (N.node b k v h l' r).raw ∧ t'.ids.Perm (N.node b k v h l' r).ids ∧ Fr (· ∈ (N.node b k v h l' r).ids) (w1.setCell ⟨b, 3, none⟩ (.pointer u)) w3) := ⟨i1, i2, i3, i4⟩
      clear i1 i2 i3 i4
      go_wp2_with fail
      go_ret
      obtain ⟨i1, i2, i3, i4⟩ := HD.out
      rw [← HU.out] at i4
      exact ⟨t', rfl, by rw [i2, HR.out]; show T.reb (.node k v h l'.raw r.raw) = _; rw [HM.out.2.2.1], step_left HG.out HM.out.2.2.2 ⟨i1, i3, i4⟩⟩
    by_cases h2 : rankOf tb k < rankOf tb key
    · have HC : Hid (cmp tb key k = 1) := cmp_gt h2
      have HR : Hid (T.rem (rankOf tb) (N.node b k v h l r).raw key = T.reb (.node k v h l.raw (T.rem (rankOf tb) r.raw key))) := (if_neg h1).trans (if_pos h2)
      clear h1 h2 ht tn tl tr
      go_enter Try.func84, Try.ntmps84
      go_wp2_with fail
      refine (compare_any lv tb key k _ HL.out.now).mono ?_
      rintro e w1 ⟨rfl, n, rfl⟩
      rw [HC.out]
      go_wp2_with fail
      refine (compare_any lv tb key k _ (HL.out.drewN n).now).mono ?_
      rintro e w1 ⟨rfl, n', rfl⟩
      rw [HC.out]
      go_wp2_with fail
      refine (remove_any base tb lv r key (w.drewN (n + n')) (HG.out.rt.drewN (n + n')) HT.out.2 (by simpa using hbs) (HL.out.drewN (n + n'))).mono ?_
      rintro e w1 ⟨r', rfl, hraw, hput⟩
      have hput' := hput.of_drewN
      obtain ⟨m1, m2, B1⟩ := mem_right HG.out hput'
      have d4 : w1.cell? ⟨b, 4, none⟩ = some r.ptr := B1.cell 4
      have f4 : w1.frozen? ⟨b, 4, none⟩ = false := B1.free 4
      have HM : Hid ((N.node b k v h l r').In (w1.setCell ⟨b, 4, none⟩ r'.ptr) ∧ (N.node b k v h l r').ids.Nodup ∧ r'.raw = T.rem (rankOf tb) r.raw key ∧ Put base r r' w w1) := ⟨m1, m2, hraw, hput'⟩
      obtain ⟨u, hu⟩ := r'.ptr_some
      rw [hu] at HM ⊢
      have HU : Hid (r'.ptr = .pointer u) := hu
      clear m1 m2 B1 hraw hput hput' hu
      go_wp2_with fail
      refine (reb_any (.node b k v h l r') _ HM.out.1 HM.out.2.1 (fun b' k' v' h' l2 r2 e => ?_)).mono ?_
      · injection e with e1 e2 e3 e4 e5 e6
        subst e5 e6
        exact ⟨HG.out.lf.part (by have := HT.out; omega), ⟨by rw [HM.out.2.2.1]; exact T.right_rem _ _ HG.out.rt.right HG.out.rt.even, by
          rw [HM.out.2.2.1]
          have := (T.even_rem (rankOf tb) key HG.out.rt.right HG.out.rt.even).2
          have := HT.out
          omega⟩⟩
      rintro e w3 ⟨t', rfl, i1, i2, i3, i4⟩
      have HD : Hid (t'.In w3 ∧ t'.raw = T.reb (N.node b k v h l r').raw ∧ t'.ids.Perm (N.node b k v h l r').ids ∧ Fr (· ∈ (N.node b k v h l r').ids) (w1.setCell ⟨b, 4, none⟩ (.pointer u)) w3) := ⟨i1, i2, i3, i4⟩
      clear i1 i2 i3 i4
      go_wp2_with fail
      go_ret
      obtain ⟨i1, i2, i3, i4⟩ := HD.out
      rw [← HU.out] at i4
      exact ⟨t', rfl, by rw [i2, HR.out]; show T.reb (.node k v h l.raw r'.raw) = _; rw [HM.out.2.2.1], step_right HG.out HM.out.2.2.2 ⟨i1, i3, i4⟩⟩
    have HC : Hid (cmp tb key k = 0) := cmp_eq h1 h2
    have HR : Hid (T.rem (rankOf tb) (N.node b k v h l r).raw key = if l.raw.isNil = true then (if r.raw.isNil = true then .nil else T.reb r.raw) else if r.raw.isNil = true then T.reb l.raw
        else T.reb (.node (T.least r.raw).1 (T.least r.raw).2 h l.raw (T.rem (rankOf tb) r.raw (T.least r.raw).1))) := (if_neg h1).trans (if_neg h2)
    clear h1 h2 ht tn tl tr
    cases l with
    | nil =>
      have c3' : w.cell? ⟨b, 3, none⟩ = some (.pointer none) := c3
      clear c3
      cases r with
      | nil =>
        have c4' : w.cell? ⟨b, 4, none⟩ = some (.pointer none) := c4
        clear c4
        go_enter Try.func84, Try.ntmps84
        go_wp2_with fail
        refine (compare_any lv tb key k _ HL.out.now).mono ?_
        rintro e w1 ⟨rfl, n, rfl⟩
        rw [HC.out]
        go_wp2_with fail
        refine (compare_any lv tb key k _ (HL.out.drewN n).now).mono ?_
        rintro e w1 ⟨rfl, n', rfl⟩
        rw [HC.out]
        go_wp2_with fail
        go_ret
        exact ⟨.nil, rfl, by rw [HR.out]; rfl, trivial, List.nodup_nil, fun b hb => by simp [N.ids] at hb, ⟨rfl, rfl, rfl, Nat.le_refl _, fun _ _ _ => rfl⟩⟩
      | node b2 k2 v2 h2 l2 r2 =>
        have c4' : w.cell? ⟨b, 4, none⟩ = some (.pointer (some ⟨b2, 0, none⟩)) := c4
        clear c4
        go_enter Try.func84, Try.ntmps84
        go_wp2_with fail
        refine (compare_any lv tb key k _ HL.out.now).mono ?_
        rintro e w1 ⟨rfl, n, rfl⟩
        rw [HC.out]
        go_wp2_with fail
        refine (compare_any lv tb key k _ (HL.out.drewN n).now).mono ?_
        rintro e w1 ⟨rfl, n', rfl⟩
        rw [HC.out]
        go_wp2_with fail
        refine (reb_any (.node b2 k2 v2 h2 l2 r2) _ (HG.out.rt.mem.drewN (n + n')) HG.out.rt.nodup (fun b' k' v' h' l3 r3 e => ?_)).mono ?_
        · injection e with e1 e2 e3 e4 e5 e6
          subst e5 e6
          have q := HT.out.2
          have t1 := T.tall_nonneg l2.raw
          have t2 := T.tall_nonneg r2.raw
          have t3 : (N.node b2 k2 v2 h2 l2 r2).raw.tall = 1 + max l2.raw.tall r2.raw.tall := rfl
          exact ⟨HG.out.rt.lf.part (by omega), HG.out.rt.rt.part (by omega)⟩
        rintro e w3 ⟨t', rfl, i1, i2, i3, i4⟩
        have HD : Hid (t'.In w3 ∧ t'.raw = T.reb (N.node b2 k2 v2 h2 l2 r2).raw ∧ t'.ids.Perm (N.node b2 k2 v2 h2 l2 r2).ids ∧ Fr (· ∈ (N.node b2 k2 v2 h2 l2 r2).ids) (w.drewN (n + n')) w3) := ⟨i1, i2, i3, i4⟩
        clear i1 i2 i3 i4
        go_wp2_with fail
        go_ret
        obtain ⟨i1, i2, i3, i4⟩ := HD.out
        exact ⟨t', rfl, by rw [i2, HR.out]; rfl, put_part (fun x hx => by simp only [N.ids] at hx ⊢; simp [hx]) HG.out.rt.nodup i1 i3 i4⟩
    | node b2 k2 v2 h2 l2 r2 =>
      have c3' : w.cell? ⟨b, 3, none⟩ = some (.pointer (some ⟨b2, 0, none⟩)) := c3
      clear c3
      cases r with
      | nil =>
        have c4' : w.cell? ⟨b, 4, none⟩ = some (.pointer none) := c4
        clear c4
        go_enter Try.func84, Try.ntmps84
        go_wp2_with fail
        refine (compare_any lv tb key k _ HL.out.now).mono ?_
        rintro e w1 ⟨rfl, n, rfl⟩
        rw [HC.out]
        go_wp2_with fail
        refine (compare_any lv tb key k _ (HL.out.drewN n).now).mono ?_
        rintro e w1 ⟨rfl, n', rfl⟩
        rw [HC.out]
        go_wp2_with fail
        refine (reb_any (.node b2 k2 v2 h2 l2 r2) _ (HG.out.lf.mem.drewN (n + n')) HG.out.lf.nodup (fun b' k' v' h' l3 r3 e => ?_)).mono ?_
        · injection e with e1 e2 e3 e4 e5 e6
          subst e5 e6
          have q := HT.out.1
          have t1 := T.tall_nonneg l2.raw
          have t2 := T.tall_nonneg r2.raw
          have t3 : (N.node b2 k2 v2 h2 l2 r2).raw.tall = 1 + max l2.raw.tall r2.raw.tall := rfl
          exact ⟨HG.out.lf.lf.part (by omega), HG.out.lf.rt.part (by omega)⟩
        rintro e w3 ⟨t', rfl, i1, i2, i3, i4⟩
        have HD : Hid (t'.In w3 ∧ t'.raw = T.reb (N.node b2 k2 v2 h2 l2 r2).raw ∧ t'.ids.Perm (N.node b2 k2 v2 h2 l2 r2).ids ∧ Fr (· ∈ (N.node b2 k2 v2 h2 l2 r2).ids) (w.drewN (n + n')) w3) := ⟨i1, i2, i3, i4⟩
        clear i1 i2 i3 i4
        go_wp2_with fail
        go_ret
        obtain ⟨i1, i2, i3, i4⟩ := HD.out
        exact ⟨t', rfl, by rw [i2, HR.out]; rfl, put_part (fun x hx => by simp only [N.ids] at hx ⊢; simp [hx]) HG.out.lf.nodup i1 i3 i4⟩
      | node b4 k4 v4 h4 l4 r4 =>
        have c4' : w.cell? ⟨b, 4, none⟩ = some (.pointer (some ⟨b4, 0, none⟩)) := c4
        clear c4
        obtain ⟨bm, hm, lm, rm, hfst⟩ := first_least (.node b4 k4 v4 h4 l4 r4) (fun e => by cases e)
        have Im := first_in HG.out.rt.mem
        have Hm := first_ids hfst
        rw [hfst] at Im
        have e0 : w.cell? ⟨bm, 0, none⟩ = some (.int .i64 (T.least (N.node b4 k4 v4 h4 l4 r4).raw).1) := Im.1.cell 0
        have e1 : w.cell? ⟨bm, 1, none⟩ = some (.int .i64 (T.least (N.node b4 k4 v4 h4 l4 r4).raw).2) := Im.1.cell 1
        have f0 : w.frozen? ⟨b, 0, none⟩ = false := HG.out.mem.1.free 0
        have f1 : w.frozen? ⟨b, 1, none⟩ = false := HG.out.mem.1.free 1
        have c1 : w.cell? ⟨b, 1, none⟩ = some (.int .i64 v) := HG.out.mem.1.cell 1
        have hbm : bm ≠ b := fun e => (nodup_node HG.out.nodup).2.1 (e ▸ Hm)
        have hbm' : b ≠ bm := fun e => hbm e.symm
        have HF : Hid (N.first (.node b4 k4 v4 h4 l4 r4) = .node bm (T.least (N.node b4 k4 v4 h4 l4 r4).raw).1 (T.least (N.node b4 k4 v4 h4 l4 r4).raw).2 hm lm rm) := hfst
        clear Im Hm hfst
        generalize hlk : (T.least (N.node b4 k4 v4 h4 l4 r4).raw).1 = lk at e0 HF
        generalize hlv : (T.least (N.node b4 k4 v4 h4 l4 r4).raw).2 = lw at e1 HF
        have HK : Hid ((T.least (N.node b4 k4 v4 h4 l4 r4).raw).1 = lk ∧ (T.least (N.node b4 k4 v4 h4 l4 r4).raw).2 = lw) := ⟨hlk, hlv⟩
        clear hlk hlv
        go_enter Try.func84, Try.ntmps84
        go_wp2_with fail
        refine (compare_any lv tb key k _ HL.out.now).mono ?_
        rintro e w1 ⟨rfl, n, rfl⟩
        rw [HC.out]
        go_wp2_with fail
        refine (compare_any lv tb key k _ (HL.out.drewN n).now).mono ?_
        rintro e w1 ⟨rfl, n', rfl⟩
        rw [HC.out]
        go_wp2_with fail
        refine (smallest_any (.node b4 k4 v4 h4 l4 r4) _ (HG.out.rt.mem.drewN (n + n')) (fun e => by cases e)).mono ?_
        rintro e w1 ⟨rfl, rfl⟩
        rw [HF.out]
        simp only [N.ptr]
        go_wp2_with fail
        have F1 : Fr (· = b) w (((w.drewN (n + n')).setCell ⟨b, 0, none⟩ (.int .i64 lk)).setCell ⟨b, 1, none⟩ (.int .i64 lw)) :=
          Fr.setCell (S := (· = b)) (Fr.setCell (S := (· = b)) (fr_drewN (Fr.refl _ _) (n + n')) (p := ⟨b, 0, none⟩) (fun _ => rfl) _) (p := ⟨b, 1, none⟩) (fun _ => rfl) _
        have B1 : Blk (((w.drewN (n + n')).setCell ⟨b, 0, none⟩ (.int .i64 lk)).setCell ⟨b, 1, none⟩ (.int .i64 lw)) b #[.int .i64 lk, .int .i64 lw, .int .i64 h, .pointer (some ⟨b2, 0, none⟩), .pointer (some ⟨b4, 0, none⟩)] 119 := ((blk_drewN HG.out.mem.1 (n + n')).set 0 _).set 1 _
        have g' : Good base (((w.drewN (n + n')).setCell ⟨b, 0, none⟩ (.int .i64 lk)).setCell ⟨b, 1, none⟩ (.int .i64 lw)) (.node b lk lw h (.node b2 k2 v2 h2 l2 r2) (.node b4 k4 v4 h4 l4 r4)) :=
          ⟨⟨B1, N.In.fr F1 HG.out.mem.2.1 (fun x hx e => (nodup_node HG.out.nodup).1 (e ▸ hx)), N.In.fr F1 HG.out.mem.2.2 (fun x hx e => (nodup_node HG.out.nodup).2.1 (e ▸ hx))⟩, HG.out.nodup, HG.out.above, HG.out.right, HG.out.even⟩
        have L1 : LessS base (((w.drewN (n + n')).setCell ⟨b, 0, none⟩ (.int .i64 lk)).setCell ⟨b, 1, none⟩ (.int .i64 lw)) lv tb := HL.out.to (F1.below hbs (fun x e => by rw [e]; exact HG.out.above b (by simp [N.ids])))
        generalize hW : ((w.drewN (n + n')).setCell ⟨b, 0, none⟩ (.int .i64 lk)).setCell ⟨b, 1, none⟩ (.int .i64 lw) = W at F1 B1 g' L1 ⊢
        have m4 : W.cell? ⟨b, 4, none⟩ = some (.pointer (some ⟨b4, 0, none⟩)) := B1.cell 4
        have m0 : W.cell? ⟨bm, 0, none⟩ = some (.int .i64 lk) := by rw [World.cell?_of_block (w := w) (F1.block bm (Array.getElem?_eq_some_iff.1 (show w.heap[bm]? = some _ from (by
          have Im := first_in HG.out.rt.mem; rw [HF.out] at Im; exact Im.1))).1 hbm)]; exact e0
        have HW : Hid (Fr (· = b) w W ∧ Good base W (.node b lk lw h (.node b2 k2 v2 h2 l2 r2) (.node b4 k4 v4 h4 l4 r4)) ∧ LessS base W lv tb) := ⟨F1, g', L1⟩
        have hbW : base ≤ W.heap.size := Nat.le_trans hbs F1.size
        clear F1 B1 g' L1 c0 c3' c4' f0 f1 c1 e0 e1 hW hbs
        refine wp_first_tail (.tmp 0) (some 77) 10 (by kernel_rfl) ⟨rfl, rfl, rfl⟩ (by kernel_rfl) (by kernel_rfl) (by kernel_rfl) (fun _ _ _ h => h) (by kernel_rfl) ?_
        simp only [tied, List.modify_succ_cons, List.modify_zero_cons, List.take_succ_cons, List.take_zero, List.drop_succ_cons, List.drop_zero]
        repeat still_step
        refine wpStill_nil ?_
        go_wp2_with fail
        refine (remove_any base tb lv (.node b4 k4 v4 h4 l4 r4) lk W.drew HW.out.2.1.rt.drew HT.out.2 (by simpa using hbW) HW.out.2.2.drew).mono ?_
        rintro e w1 ⟨r', rfl, hraw, hput⟩
        have hput' := hput.of_drew
        obtain ⟨m1, m2, B1⟩ := mem_right HW.out.2.1 hput'
        have d4 : w1.cell? ⟨b, 4, none⟩ = some (.pointer (some ⟨b4, 0, none⟩)) := B1.cell 4
        have f4 : w1.frozen? ⟨b, 4, none⟩ = false := B1.free 4
        have HM : Hid ((N.node b lk lw h (.node b2 k2 v2 h2 l2 r2) r').In (w1.setCell ⟨b, 4, none⟩ r'.ptr) ∧ (N.node b lk lw h (.node b2 k2 v2 h2 l2 r2) r').ids.Nodup ∧ r'.raw = T.rem (rankOf tb) (N.node b4 k4 v4 h4 l4 r4).raw lk ∧ Put base (.node b4 k4 v4 h4 l4 r4) r' W w1) := ⟨m1, m2, hraw, hput'⟩
        obtain ⟨u, hu⟩ := r'.ptr_some
        rw [hu] at HM ⊢
        have HU : Hid (r'.ptr = .pointer u) := hu
        clear m1 m2 B1 hraw hput hput' hu
        go_wp2_with fail
        refine (reb_any (.node b lk lw h (.node b2 k2 v2 h2 l2 r2) r') _ HM.out.1 HM.out.2.1 (fun b' k' v' h' l3 r3 e => ?_)).mono ?_
        · injection e with e1 e2 e3 e4 e5 e6
          subst e5 e6
          exact ⟨HW.out.2.1.lf.part (by have := HT.out; omega), ⟨by rw [HM.out.2.2.1]; exact T.right_rem _ _ HW.out.2.1.rt.right HW.out.2.1.rt.even, by
            rw [HM.out.2.2.1]
            have := (T.even_rem (rankOf tb) lk HW.out.2.1.rt.right HW.out.2.1.rt.even).2
            have := HT.out
            omega⟩⟩
        rintro e w3 ⟨t', rfl, i1, i2, i3, i4⟩
        have HD : Hid (t'.In w3 ∧ t'.raw = T.reb (N.node b lk lw h (.node b2 k2 v2 h2 l2 r2) r').raw ∧ t'.ids.Perm (N.node b lk lw h (.node b2 k2 v2 h2 l2 r2) r').ids ∧ Fr (· ∈ (N.node b lk lw h (.node b2 k2 v2 h2 l2 r2) r').ids) (w1.setCell ⟨b, 4, none⟩ (.pointer u)) w3) := ⟨i1, i2, i3, i4⟩
        clear i1 i2 i3 i4
        go_wp2_with fail
        go_ret
        obtain ⟨i1, i2, i3, i4⟩ := HD.out
        rw [← HU.out] at i4
        have hp := step_right HW.out.2.1 HM.out.2.2.2 ⟨i1, i3, i4⟩
        refine ⟨t', rfl, ?_, hp.mem, hp.nodup, fun x hx => (hp.ids x hx).imp id (fun q => by have := HW.out.1.size; omega), (HW.out.1.mono (fun x _ e => by rw [e]; simp [N.ids])).trans hp.fr (fun _ _ h => h)⟩
        rw [i2, HR.out, HK.out.1, HK.out.2]
        rw [if_neg (show ¬ (N.node b2 k2 v2 h2 l2 r2).raw.isNil = true from Bool.false_ne_true), if_neg (show ¬ (N.node b4 k4 v4 h4 l4 r4).raw.isNil = true from Bool.false_ne_true)]
        show T.reb (.node lk lw h (N.node b2 k2 v2 h2 l2 r2).raw r'.raw) = T.reb _
        rw [HM.out.2.2.1]
end Go.Proofs.Ytjlcebgfknfelaa.Avl

namespace Go.Proofs.Ytjlcebgfknfelaa.Avl
open Go Go.RowKit Go.Proofs.Ytjlcebgfknfelaa.Hk Go.Proofs.Ytjlcebgfknfelaa.AvlPure Go.Proofs.Ytjlcebgfknfelaa.Less Go.Proofs.Ytjlcebgfknfelaa.Row Go.Proofs.YtjlcebgfknfelaaW.PrintWords Go.Proofs.YtjlcebgfknfelaaW.PrintLast Go.Proofs.YtjlcebgfknfelaaW.PrintMore
theorem infoInt : (Try.prog.info? 3).map (fun i => (i.zero, i.size, i.bytes)) = some (some (.int .i64 0), 1, 8) := by kernel_rfl
/-- What has been gathered so far: x's variable, and its two rows, made since the heap was N0 blocks. -/
def Acc (N0 X : Nat) (val : Int) (okv : Bool) (ks vs : List Int) (w : World) : Prop :=
  ∃ K V, Blk w X #[.int .i64 val, .bool okv, K, V] 46 ∧ X < N0 ∧ N0 ≤ w.heap.size ∧
    (Kd.int .i64).R 3 w N0 (fun b => some b ≠ V.ownBlock) K ks ∧ (Kd.int .i64).R 3 w N0 (fun b => some b ≠ K.ownBlock) V vs
theorem Acc.drewN {N0 X : Nat} {val : Int} {okv : Bool} {ks vs : List Int} {w : World} (h : Acc N0 X val okv ks vs w) (n : Nat) : Acc N0 X val okv ks vs (w.drewN n) := by
  obtain ⟨K, V, h1, h2, h3, h4, h5⟩ := h
  exact ⟨K, V, h1, h2, h3, Kd.R_drewN h4 n, Kd.R_drewN h5 n⟩
theorem Acc.drew {N0 X : Nat} {val : Int} {okv : Bool} {ks vs : List Int} {w : World} (h : Acc N0 X val okv ks vs w) : Acc N0 X val okv ks vs w.drew := by
  obtain ⟨K, V, h1, h2, h3, h4, h5⟩ := h
  exact ⟨K, V, h1, h2, h3, Kd.R_drew h4, Kd.R_drew h5⟩
def clo.T : Bool × List (List Nat × List Nat) := (true, [([], []), ([0], [0]), ([], []), ([2], [2]), ([1, 3], [1, 3]), ([], []), ([5], [5]), ([], []), ([7], [7]), ([6, 8, 4], [6, 8]), ([0, 1, 2, 3, 4, 5, 6], []), ([10, 4, 9, 0, 1, 2, 3, 4, 5, 6], [4, 10]), ([0, 1, 2, 3, 4, 5, 6, 7, 8, 9, 10, 11], []), ([12, 9, 11, 0, 1, 2, 3, 4, 5, 6, 7, 8, 9, 10, 11], [9, 12])])
def clo.B : List Nat := [0, 1, 0, 4, 15, 0, 32, 0, 128, 511, 127, 2047, 4095, 8191]
theorem clo.tab : rtab .any (opsOf Try.f65 0) = clo.T := by kernel_rfl
theorem clo.bits : waitsOk clo.T.2 clo.B = true := by kernel_rfl
/-- What stands ahead of the appends: the world has grown by boxes alone. -/
def Pre (N0 X : Nat) (val : Int) (okv : Bool) (ks vs : List Int) (K V : Value) (w W : World) : Prop :=
  Blk W X #[.int .i64 val, .bool okv, K, V] 46 ∧ N0 ≤ W.heap.size ∧
    (Kd.int .i64).R 3 W N0 (fun b => some b ≠ V.ownBlock) K ks ∧ (Kd.int .i64).R 3 W N0 (fun b => some b ≠ K.ownBlock) V vs ∧ Fr (fun b => b = X ∨ N0 ≤ b) w W
section
variable {N0 X : Nat} {val : Int} {okv : Bool} {ks vs : List Int} {K V K1 V1 : Value} {k v : Int} {w W W1 : World}
theorem Pre.alloc (h : Pre N0 X val okv ks vs K V w W) (o : Obj) : Pre N0 X val okv ks vs K V w (W.alloc o) :=
  ⟨h.1.alloc o, by rw [alloc_size]; exact Nat.le_succ_of_le h.2.1, Kd.R_alloc h.2.2.1 o, Kd.R_alloc h.2.2.2.1 o, h.2.2.2.2.alloc o⟩
theorem Pre.cell2 (h : Pre N0 X val okv ks vs K V w W) : W.cell? ⟨X, 2, none⟩ = some K := h.1.cell 2
theorem Pre.cell3 (h : Pre N0 X val okv ks vs K V w W) : W.cell? ⟨X, 3, none⟩ = some V := h.1.cell 3
theorem own_ge {N0 : Nat} {e : Nat} {w : World} {ok : Nat → Prop} {v : Value} {xs : List Int} (h : (Kd.int .i64).R e w N0 ok v xs) : ∀ k, v.ownBlock = some k → N0 ≤ k ∧ k < w.heap.size := by
  obtain ⟨_, inner, ho, _⟩ := h
  exact ho.lt
/-- One of the rows is appended to. -/
theorem part_of {ks' : List Int} (hX : X < N0) (h : Pre N0 X val okv ks vs K V w W)
    (hR : (Kd.int .i64).R 3 W1 N0 (fun _ => True) K1 ks') (hg : W.grownBy W1 K.ownBlock) (hat : K1.ownBlock = K.ownBlock ∨ ∃ b, K1.ownBlock = some b ∧ W.heap.size ≤ b) :
    Blk W1 X #[.int .i64 val, .bool okv, K, V] 46 ∧ N0 ≤ W1.heap.size ∧
    (Kd.int .i64).R 3 W1 N0 (fun b => some b ≠ V.ownBlock) K1 ks' ∧ (Kd.int .i64).R 3 W1 N0 (fun b => some b ≠ K1.ownBlock) V vs ∧ Fr (fun b => b = X ∨ N0 ≤ b) w W1 := by
  obtain ⟨hB, hN, hK, hV, hf⟩ := h
  have kg := own_ge hK
  have vg := own_ge hV
  have ne : ∀ b, K1.ownBlock = some b → some b ≠ V.ownBlock := fun b hb hv => by
    rcases hat with e | ⟨b', e, hb'⟩
    · exact hK.1 b (e ▸ hb) hv
    · rw [e] at hb; injection hb with hb; have := (vg b hv.symm).2; omega
  exact ⟨(hg.block X hB.lt (fun e => by have := kg X e.symm; omega)).trans hB, Nat.le_trans hN hg.size, Kd.R_reok rfl hR ne,
    Kd.R_reok rfl (Kd.R_grown2 hV rfl hg (fun b hb e => hV.1 b e.symm hb.symm)) (fun b hb e => ne b e.symm hb.symm), grown_fr hf hg (fun k hk _ => .inr (kg k hk).1)⟩
/-- What stands when both boxes are laid and the keys are appended. -/
def Mid (N0 X : Nat) (val : Int) (okv : Bool) (ks vs : List Int) (K V K1 : Value) (k v : Int) (g : Nat) (w W : World) : Prop :=
  W.cell? ⟨g, 0, none⟩ = some (.int .i64 v) ∧ Blk W X #[.int .i64 val, .bool okv, K, V] 46 ∧ N0 ≤ W.heap.size ∧
    (Kd.int .i64).R 3 W N0 (fun b => some b ≠ V.ownBlock) K1 (ks ++ [k]) ∧ (Kd.int .i64).R 3 W N0 (fun b => some b ≠ K1.ownBlock) V vs ∧ Fr (fun b => b = X ∨ N0 ≤ b) w W
theorem box_cell (W : World) (v : Value) (t : TypeId) : (W.alloc (.cells #[v] t)).cell? ⟨W.heap.size, 0, none⟩ = some v := (Blk.new W #[v] t).cell 0
theorem box_cell' (W : World) (v : Value) (t : TypeId) {n : Nat} (hn : W.heap.size = n) : (W.alloc (.cells #[v] t)).cell? ⟨n, 0, none⟩ = some v := by subst hn; exact box_cell W v t
/-- Behind the second append. -/
theorem end_of (hX : X < N0) {g : Nat} (h : Mid N0 X val okv ks vs K V K1 k v g w W)
    (hR : (Kd.int .i64).R 3 W1 N0 (fun _ => True) V1 (vs ++ [v])) (hg : W.grownBy W1 V.ownBlock) (hat : V1.ownBlock = V.ownBlock ∨ ∃ b, V1.ownBlock = some b ∧ W.heap.size ≤ b) :
    Blk W1 X #[.int .i64 val, .bool okv, K, V] 46 ∧ Acc N0 X val okv (ks ++ [k]) (vs ++ [v]) ((W1.setCell ⟨X, 2, none⟩ K1).setCell ⟨X, 3, none⟩ V1) ∧
      Fr (fun b => b = X ∨ N0 ≤ b) w ((W1.setCell ⟨X, 2, none⟩ K1).setCell ⟨X, 3, none⟩ V1) := by
  obtain ⟨_, hB, hN, hK, hV, hf⟩ := h
  have kg := own_ge hK
  have vg := own_ge hV
  have v1g := own_ge hR
  have ne : ∀ b, V1.ownBlock = some b → some b ≠ K1.ownBlock := fun b hb hv => by
    rcases hat with e | ⟨b', e, hb'⟩
    · exact hV.1 b (e ▸ hb) hv
    · rw [e] at hb; injection hb with hb; have := (kg b hv.symm).2; omega
  have hB1 : Blk W1 X #[.int .i64 val, .bool okv, K, V] 46 := (hg.block X hB.lt (fun e => by have := vg X e.symm; omega)).trans hB
  have hK1 : (Kd.int .i64).R 3 W1 N0 (fun _ => True) K1 (ks ++ [k]) := Kd.R_mono (Kd.R_grown2 hK rfl hg (fun b hb e => hK.1 b e.symm hb.symm)) (fun _ _ => trivial)
  have hB2 : Blk ((W1.setCell ⟨X, 2, none⟩ K1).setCell ⟨X, 3, none⟩ V1) X #[.int .i64 val, .bool okv, K1, V1] 46 := (hB1.set 2 K1).set 3 V1
  have far : ∀ {v0 : Value} {xs : List Int}, (Kd.int .i64).R 3 W1 N0 (fun _ => True) v0 xs → (Kd.int .i64).R 3 ((W1.setCell ⟨X, 2, none⟩ K1).setCell ⟨X, 3, none⟩ V1) N0 (fun b => b ≠ X) v0 xs := fun h0 => by
    have h1 := Kd.R_reok (ok := fun b => b ≠ X) rfl h0 (fun b hb => by have := own_ge h0 b hb; omega)
    exact Kd.R_far (Kd.R_far h1 (fun _ h => h) _) (fun _ h => h) _
  refine ⟨hB1, ⟨K1, V1, hB2, hX, ?_, Kd.R_reok rfl (far hK1) (fun b hb e => ne b e.symm hb.symm), Kd.R_reok rfl (far hR) ne⟩, ?_⟩
  · have : N0 ≤ W1.heap.size := Nat.le_trans hN hg.size
    simpa [World.setCell] using this
  · exact ((grown_fr hf hg (fun k hk _ => .inr (vg k hk).1)).setCell (p := ⟨X, 2, none⟩) (fun _ => .inl rfl) K1).setCell (p := ⟨X, 3, none⟩) (fun _ => .inl rfl) V1
end
set_option maxHeartbeats 4000000 in
set_option maxRecDepth 100000 in
theorem avlDo1_any (N0 X : Nat) (val : Int) (okv : Bool) (ks vs : List Int) (k v : Int) (w : World) (hA : Acc N0 X val okv ks vs w) (hl : ks.length ≤ 1099511627776) (hl2 : vs.length ≤ 1099511627776) :
    Calls Try.prog 65 #[.int .i64 k, .int .i64 v, .pointer (some ⟨X, 0, none⟩)] w fun e w' => e = .returned (.tuple #[]) ∧ Acc N0 X val okv (ks ++ [k]) (vs ++ [v]) w' ∧ Fr (fun b => b = X ∨ N0 ≤ b) w w' := by
  obtain ⟨K, V, hB, hX, hN, hK, hV⟩ := hA
  obtain ⟨AK, cK, rfl⟩ := Kd.R_slice hK
  obtain ⟨AV, cV, rfl⟩ := Kd.R_slice hV
  have c2 : w.cell? ⟨X, 2, none⟩ = some (.slice AK ks.length cK) := hB.cell 2
  have c3 : w.cell? ⟨X, 3, none⟩ = some (.slice AV vs.length cV) := hB.cell 3
  have H : Hid (Pre N0 X val okv ks vs (.slice AK ks.length cK) (.slice AV vs.length cV) w w.drew) := ⟨hB, hN, Kd.R_drew hK, Kd.R_drew hV, (Fr.refl _ _).drew⟩
  have HN : Hid (X < N0) := hX
  clear hB hK hV hN hX
  go_enter Try.func65, Try.ntmps65
  refine start_ (n := 14) (S := fun w' => w'.cell? ⟨X, 2, none⟩ = some (.slice AK ks.length cK) ∧ w'.cell? ⟨X, 3, none⟩ = some (.slice AV vs.length cV)) (ds := [11, 13]) #[false, false, false, false, false, false, false, false, false, false, false, false, false, false] (by kernel_rfl) rfl rfl ⟨c2, c3⟩ (fun hHeld => ?_)
  refine with_tabW clo.tab clo.bits (fun HT_ HW_ => ?_)
  clear c2 c3
  generalize w.drew = W0 at H hHeld ⊢
  refine pure_ (i := 0) (N := some 5) (v := ?_) (a' := ?_) #[true, false, false, false, false, false, false, false, false, false, false, false, false, false] rfl rfl (any_of HT_.out (by kernel_rfl)) (fun _ _ _ h => h) (Or.inl ⟨by rfl, ?_⟩) ?_ ?_
  rotate_left
  · intro w'
    go_simp
    with_reducible rfl
  rotate_left
  · simp only [Act.put, List.setIfInBounds_toArray, List.set_cons_zero, List.set_cons_succ]
    rfl
  refine pure_ (i := 2) (N := some 7) (v := ?_) (a' := ?_) #[true, false, true, false, false, false, false, false, false, false, false, false, false, false] rfl rfl (any_of HT_.out (by kernel_rfl)) (fun _ _ _ h => h) (Or.inl ⟨by rfl, ?_⟩) ?_ ?_
  rotate_left
  · intro w'
    go_simp
    with_reducible rfl
  rotate_left
  · simp only [Act.put, List.setIfInBounds_toArray, List.set_cons_zero, List.set_cons_succ]
    rfl
  refine pure_ (i := 5) (N := some 10) (v := ?_) (a' := ?_) #[true, false, true, false, false, true, false, false, false, false, false, false, false, false] rfl rfl (any_of HT_.out (by kernel_rfl)) (fun _ _ _ h => h) (Or.inl ⟨by rfl, ?_⟩) ?_ ?_
  rotate_left
  · intro w'
    go_simp
    with_reducible rfl
  rotate_left
  · simp only [Act.put, List.setIfInBounds_toArray, List.set_cons_zero, List.set_cons_succ]
    rfl
  refine pure_ (i := 7) (N := some 12) (v := ?_) (a' := ?_) #[true, false, true, false, false, true, false, true, false, false, false, false, false, false] rfl rfl (any_of HT_.out (by kernel_rfl)) (fun _ _ _ h => h) (Or.inl ⟨by rfl, ?_⟩) ?_ ?_
  rotate_left
  · intro w'
    go_simp
    with_reducible rfl
  rotate_left
  · simp only [Act.put, List.setIfInBounds_toArray, List.set_cons_zero, List.set_cons_succ]
    rfl
  refine take_ (i := 1) (N := some 6) (v := ?_) (a' := ?_) #[true, true, true, false, false, true, false, true, false, false, false, false, false, false] rfl rfl (take_ofW HT_.out HW_.out (by kernel_rfl)) (fun _ _ _ h => h) (Or.inl ⟨by rfl, ?_⟩) hHeld ?_ ?_
  rotate_left
  · intro w' s0
    have s1 := s0.1
    have s2 := s0.2
    go_simp
    with_reducible rfl
  rotate_left
  · simp only [Act.put, List.setIfInBounds_toArray, List.set_cons_zero, List.set_cons_succ]
    rfl
  refine take_ (i := 6) (N := some 11) (v := ?_) (a' := ?_) #[true, true, true, false, false, true, true, true, false, false, false, false, false, false] rfl rfl (take_ofW HT_.out HW_.out (by kernel_rfl)) (fun _ _ _ h => h) (Or.inl ⟨by rfl, ?_⟩) hHeld ?_ ?_
  rotate_left
  · intro w' s0
    have s1 := s0.1
    have s2 := s0.2
    go_simp
    with_reducible rfl
  rotate_left
  · simp only [Act.put, List.setIfInBounds_toArray, List.set_cons_zero, List.set_cons_succ]
    rfl
  refine join_ (σ := Value × Nat × Nat) 4 #[true, true, true, true, true, true, true, true, true, false, true, false, false, false] (fun s => [(8, .slice (some ⟨s.2.1, 0, none⟩) 1 1), (9, s.1), (13, .slice (some ⟨s.2.2, 0, none⟩) 1 1), (15, .pointer (some ⟨X, 2, none⟩))]) (fun s W => Mid N0 X val okv ks vs (.slice AK ks.length cK) (.slice AV vs.length cV) s.1 k v s.2.2 w W) ?hcont ?hord
  case hcont =>
    rintro ⟨K1, g8, g13⟩ W hM
    have HM := hid hM
    obtain ⟨AK1, cK1, hq⟩ := Kd.R_slice hM.2.2.2.1
    rw [List.length_append, List.length_singleton] at hq
    replace hq : K1 = _ := hq
    subst hq
    clear hM H hHeld
    refine norm_ (a' := ?_) ?_ ?_
    rotate_left
    · simp only [putAll, Act.put, List.setIfInBounds_toArray, List.set_cons_zero, List.set_cons_succ]
      rfl
    refine one_ (i := 9) (N := some 14) #[true, true, true, true, true, true, true, true, true, true, true, false, false, false] rfl rfl (one_of HT_.out (by kernel_rfl)) (by decide) (fun K_ hK => ?_)
    refine append_int rfl (.tmp 11) (.tmp 13) 24 3 rfl Try.underlying24 infoInt N0 (.slice AV vs.length cV) vs v _ W rfl HM.out.2.2.2.2.1 ⟨g13, 0, none⟩ 1 rfl HM.out.1 (by omega) HM.out.2.2.1 ?_
    intro V1 W1 hR hg hat
    have HE := hid (end_of HN.out HM.out hR hg hat)
    obtain ⟨AV1, cV1, hq⟩ := Kd.R_slice hR
    rw [List.length_append, List.length_singleton] at hq
    subst hq
    refine hK.out _ _ ⟨HE.out.1.cell 2, HE.out.1.cell 3⟩ (fun hHeld => ?_)
    clear hK K_
    have e2 := hHeld.1
    have e3 := hHeld.2
    have f2 : W1.frozen? ⟨X, 2, none⟩ = false := HE.out.1.free 2
    have f3 : W1.frozen? ⟨X, 3, none⟩ = false := HE.out.1.free 3
    clear hR hg hat hHeld
    refine norm_ (a' := ?_) ?_ ?_
    rotate_left
    · show Act.put _ (some 14) _ = _
      simp only [Act.put, List.setIfInBounds_toArray, List.set_cons_zero, List.set_cons_succ]
      rfl
    refine last_ (i := 11) (N := none) #[true, true, true, true, true, true, true, true, true, true, true, true, false, false] rfl rfl (one_of HT_.out (by kernel_rfl)) (by decide) (fun K_ hK => ?_)
    refine skip_ (w1 := ?_) (by rfl) rfl ?_ ?_
    rotate_left
    · go_simp
      rfl
    refine hK.out _ _ ?_
    clear hK K_
    refine pure_ (i := 12) (N := some 16) (v := ?_) (a' := ?_) #[true, true, true, true, true, true, true, true, true, true, true, true, true, false] rfl rfl (any_of HT_.out (by kernel_rfl)) (fun _ _ _ h => h) (Or.inl ⟨by rfl, ?_⟩) ?_ ?_
    rotate_left
    · intro w'
      go_simp
      with_reducible rfl
    rotate_left
    · simp only [Act.put, List.setIfInBounds_toArray, List.set_cons_zero, List.set_cons_succ]
      rfl
    refine last_ (i := 13) (N := none) #[true, true, true, true, true, true, true, true, true, true, true, true, true, true] rfl rfl (one_of HT_.out (by kernel_rfl)) (by decide) (fun K_ hK => ?_)
    refine skip_ (w1 := ?_) (by rfl) rfl ?_ ?_
    rotate_left
    · go_simp
      rfl
    refine hK.out _ _ ?_
    clear hK K_
    refine done_ (done_of HT_.out (by kernel_rfl)) ?_
    try go_wp2
    go_end0
    exact ⟨rfl, HE.out.2.1, HE.out.2.2⟩
  case hord =>
    intro hcont
    clear hHeld
    refine two_ (i := 3) (j := 8) (Ni := some 8) (Nj := some 13) #[true, true, true, true, false, true, true, true, false, false, false, false, false, false] #[true, true, true, false, false, true, true, true, true, false, false, false, false, false] rfl rfl rfl rfl (two_of HT_.out (by kernel_rfl)) (by decide) (by decide) (fun K_ hK => ?_) (fun K_ hK => ?_)
    · refine value_ (w1 := ?_) (v := ?_) (by rfl) rfl ?_ ?_
      rotate_left 2
      · go_simp
        constructor
        · rfl
        · rfl
      refine hK.out _ _ ⟨(H.out.alloc _).cell2, (H.out.alloc _).cell3⟩ (fun hHeld => ?_)
      clear hK K_
      refine norm_ (a' := ?_) ?_ ?_
      rotate_left
      · show Act.put _ (some 8) _ = _
        simp only [Act.put, List.setIfInBounds_toArray, List.set_cons_zero, List.set_cons_succ]
        rfl
      have H1 := hid (H.out.alloc (.cells #[.int .i64 k] 3))
      have C1 := hid (box_cell W0 (.int .i64 k) 3)
      clear hHeld
      refine two_ (i := 4) (j := 8) (Ni := some 9) (Nj := some 13) #[true, true, true, true, true, true, true, true, false, false, false, false, false, false] #[true, true, true, true, false, true, true, true, true, false, false, false, false, false] rfl rfl rfl rfl (two_of HT_.out (by kernel_rfl)) (by decide) (by decide) (fun K_ hK => ?_) (fun K_ hK => ?_)
      · refine append_int rfl (.tmp 6) (.tmp 8) 24 3 rfl Try.underlying24 infoInt N0 (.slice AK ks.length cK) ks k _ _ rfl H1.out.2.2.1 ⟨W0.heap.size, 0, none⟩ 1 rfl C1.out (by omega) H1.out.2.1 ?_
        intro K1 W1 hR hg hat
        have HP := hid (part_of HN.out H1.out hR hg hat)
        refine hK.out _ _ ⟨HP.out.1.cell 2, HP.out.1.cell 3⟩ (fun hHeld => ?_)
        clear hK K_ hR hg hat hHeld
        refine norm_ (a' := ?_) ?_ ?_
        rotate_left
        · show Act.put _ (some 9) _ = _
          simp only [Act.put, List.setIfInBounds_toArray, List.set_cons_zero, List.set_cons_succ]
          rfl
        refine pure_ (i := 10) (N := some 15) (v := ?_) (a' := ?_) #[true, true, true, true, true, true, true, true, false, false, true, false, false, false] rfl rfl (any_of HT_.out (by kernel_rfl)) (fun _ _ _ h => h) (Or.inl ⟨by rfl, ?_⟩) ?_ ?_
        rotate_left
        · intro w'
          go_simp
          with_reducible rfl
        rotate_left
        · simp only [Act.put, List.setIfInBounds_toArray, List.set_cons_zero, List.set_cons_succ]
          rfl
        refine one_ (i := 8) (N := some 13) #[true, true, true, true, true, true, true, true, true, false, true, false, false, false] rfl rfl (one_of HT_.out (by kernel_rfl)) (by decide) (fun K_ hK => ?_)
        refine value_ (w1 := ?_) (v := ?_) (by rfl) rfl ?_ ?_
        rotate_left 2
        · go_simp
          constructor
          · rfl
          · rfl
        refine hK.out _ _ ⟨(HP.out.1.alloc _).cell 2, (HP.out.1.alloc _).cell 3⟩ (fun hHeld => ?_)
        clear hK K_
        exact norm_ rfl (hcont ⟨K1, W0.heap.size, W1.heap.size⟩ _ ⟨box_cell W1 _ _, HP.out.1.alloc _, by rw [alloc_size]; exact Nat.le_succ_of_le HP.out.2.1, Kd.R_alloc HP.out.2.2.1 _, Kd.R_alloc HP.out.2.2.2.1 _, HP.out.2.2.2.2.alloc _⟩)
      · refine value_ (w1 := ?_) (v := ?_) (by rfl) rfl ?_ ?_
        rotate_left 2
        · go_simp
          constructor
          · rfl
          · rfl
        refine hK.out _ _ ⟨(H1.out.alloc _).cell2, (H1.out.alloc _).cell3⟩ (fun hHeld => ?_)
        clear hK K_
        refine norm_ (a' := ?_) ?_ ?_
        rotate_left
        · show Act.put _ (some 13) _ = _
          simp only [Act.put, List.setIfInBounds_toArray, List.set_cons_zero, List.set_cons_succ]
          rfl
        have C2 := hid (((Below.refl _ _).alloc (Nat.le_refl _) (.cells #[.int .i64 v] 3) : Below _ (W0.alloc (.cells #[.int .i64 k] 3)) _))
        have H3 := hid (H1.out.alloc (.cells #[.int .i64 v] 3))
        have C3 := hid (box_cell' (W0.alloc (.cells #[.int .i64 k] 3)) (.int .i64 v) 3 (alloc_size _ _))
        clear H1 hHeld
        have H1 := H3
        clear H3
        refine one_ (i := 4) (N := some 9) #[true, true, true, true, true, true, true, true, true, false, false, false, false, false] rfl rfl (one_of HT_.out (by kernel_rfl)) (by decide) (fun K_ hK => ?_)
        refine append_int rfl (.tmp 6) (.tmp 8) 24 3 rfl Try.underlying24 infoInt N0 (.slice AK ks.length cK) ks k _ _ rfl H1.out.2.2.1 ⟨W0.heap.size, 0, none⟩ 1 rfl ((C2.out.cell (by rw [alloc_size]; exact Nat.lt_succ_self _)).trans C1.out) (by omega) H1.out.2.1 ?_
        intro K1 W1 hR hg hat
        have HP := hid (part_of HN.out H1.out hR hg hat)
        refine hK.out _ _ ⟨HP.out.1.cell 2, HP.out.1.cell 3⟩ (fun hHeld => ?_)
        have C4 := hid (hg.cell C3.out (fun e => by have := own_ge H.out.2.2.1 _ e.symm; simp only at this; omega))
        clear hK K_ hR hg hat hHeld
        refine norm_ (a' := ?_) ?_ ?_
        rotate_left
        · show Act.put _ (some 9) _ = _
          simp only [Act.put, List.setIfInBounds_toArray, List.set_cons_zero, List.set_cons_succ]
          rfl
        refine pure_ (i := 10) (N := some 15) (v := ?_) (a' := ?_) #[true, true, true, true, true, true, true, true, true, false, true, false, false, false] rfl rfl (any_of HT_.out (by kernel_rfl)) (fun _ _ _ h => h) (Or.inl ⟨by rfl, ?_⟩) ?_ ?_
        rotate_left
        · intro w'
          go_simp
          with_reducible rfl
        rotate_left
        · simp only [Act.put, List.setIfInBounds_toArray, List.set_cons_zero, List.set_cons_succ]
          rfl
        exact norm_ rfl (hcont ⟨K1, W0.heap.size, W0.heap.size + 1⟩ _ ⟨C4.out, HP.out⟩)
    · refine value_ (w1 := ?_) (v := ?_) (by rfl) rfl ?_ ?_
      rotate_left 2
      · go_simp
        constructor
        · rfl
        · rfl
      refine hK.out _ _ ⟨(H.out.alloc _).cell2, (H.out.alloc _).cell3⟩ (fun hHeld => ?_)
      clear hK K_
      refine norm_ (a' := ?_) ?_ ?_
      rotate_left
      · show Act.put _ (some 13) _ = _
        simp only [Act.put, List.setIfInBounds_toArray, List.set_cons_zero, List.set_cons_succ]
        rfl
      have H0 := hid (H.out.alloc (.cells #[.int .i64 v] 3))
      have C1 := hid (box_cell W0 (.int .i64 v) 3)
      clear hHeld
      refine one_ (i := 3) (N := some 8) #[true, true, true, true, false, true, true, true, true, false, false, false, false, false] rfl rfl (one_of HT_.out (by kernel_rfl)) (by decide) (fun K_ hK => ?_)
      refine value_ (w1 := ?_) (v := ?_) (by rfl) rfl ?_ ?_
      rotate_left 2
      · go_simp
        constructor
        · rfl
        · rfl
      refine hK.out _ _ ⟨(H0.out.alloc _).cell2, (H0.out.alloc _).cell3⟩ (fun hHeld => ?_)
      clear hK K_
      refine norm_ (a' := ?_) ?_ ?_
      rotate_left
      · show Act.put _ (some 8) _ = _
        simp only [Act.put, List.setIfInBounds_toArray, List.set_cons_zero, List.set_cons_succ]
        rfl
      have H1 := hid (H0.out.alloc (.cells #[.int .i64 k] 3))
      have C3 := hid (box_cell' (W0.alloc (.cells #[.int .i64 v] 3)) (.int .i64 k) 3 (alloc_size _ _))
      have C2 := hid (((Below.refl _ _).alloc (Nat.le_refl _) (.cells #[.int .i64 k] 3) : Below _ (W0.alloc (.cells #[.int .i64 v] 3)) _))
      clear hHeld
      refine one_ (i := 4) (N := some 9) #[true, true, true, true, true, true, true, true, true, false, false, false, false, false] rfl rfl (one_of HT_.out (by kernel_rfl)) (by decide) (fun K_ hK => ?_)
      refine append_int rfl (.tmp 6) (.tmp 8) 24 3 rfl Try.underlying24 infoInt N0 (.slice AK ks.length cK) ks k _ _ rfl H1.out.2.2.1 ⟨_, 0, none⟩ 1 rfl C3.out (by omega) H1.out.2.1 ?_
      intro K1 W1 hR hg hat
      have HP := hid (part_of HN.out H1.out hR hg hat)
      refine hK.out _ _ ⟨HP.out.1.cell 2, HP.out.1.cell 3⟩ (fun hHeld => ?_)
      have C4 := hid (hg.cell ((C2.out.cell (by rw [alloc_size]; exact Nat.lt_succ_self _)).trans C1.out) (fun e => by have := own_ge H.out.2.2.1 _ e.symm; simp only at this; omega))
      clear hK K_ hR hg hat hHeld
      refine norm_ (a' := ?_) ?_ ?_
      rotate_left
      · show Act.put _ (some 9) _ = _
        simp only [Act.put, List.setIfInBounds_toArray, List.set_cons_zero, List.set_cons_succ]
        rfl
      refine pure_ (i := 10) (N := some 15) (v := ?_) (a' := ?_) #[true, true, true, true, true, true, true, true, true, false, true, false, false, false] rfl rfl (any_of HT_.out (by kernel_rfl)) (fun _ _ _ h => h) (Or.inl ⟨by rfl, ?_⟩) ?_ ?_
      rotate_left
      · intro w'
        go_simp
        with_reducible rfl
      rotate_left
      · simp only [Act.put, List.setIfInBounds_toArray, List.set_cons_zero, List.set_cons_succ]
        rfl
      exact norm_ rfl (hcont ⟨K1, W0.heap.size + 1, W0.heap.size⟩ _ ⟨C4.out, HP.out⟩)
end Go.Proofs.Ytjlcebgfknfelaa.Avl

namespace Go.Proofs.Ytjlcebgfknfelaa.Bt
open Go Go.RowKit Go.IntWalk Go.Proofs.Ytjlcebgfknfelaa.Hk Go.Proofs.Ytjlcebgfknfelaa.BtPure Go.Proofs.Ytjlcebgfknfelaa.Less Go.Proofs.YtjlcebgfknfelaaW.PrintWords Go.Proofs.YtjlcebgfknfelaaW.PrintLast Go.Proofs.YtjlcebgfknfelaaW.PrintMore
open Go.Proofs.Ytjlcebgfknfelaa.Row hiding hid alloc_size
open Go.Proofs.Ytjlcebgfknfelaa.Avl (LessS Acc Acc.drew Acc.drewN Pre Mid end_of part_of own_ge box_cell box_cell' infoInt)
def clo.T : Bool × List (List Nat × List Nat) := (true, [([], []), ([0], [0]), ([], []), ([2], [2]), ([1, 3], [1, 3]), ([], []), ([5], [5]), ([], []), ([7], [7]), ([6, 8, 4], [6, 8]), ([0, 1, 2, 3, 4, 5, 6], []), ([10, 4, 9, 0, 1, 2, 3, 4, 5, 6], [4, 10]), ([0, 1, 2, 3, 4, 5, 6, 7, 8, 9, 10, 11], []), ([12, 9, 11, 0, 1, 2, 3, 4, 5, 6, 7, 8, 9, 10, 11], [9, 12])])
def clo.B : List Nat := [0, 1, 0, 4, 15, 0, 32, 0, 128, 511, 127, 2047, 4095, 8191]
theorem clo.tab : rtab .any (opsOf Try.f76 0) = clo.T := by kernel_rfl
theorem clo.bits : waitsOk clo.T.2 clo.B = true := by kernel_rfl
set_option maxHeartbeats 4000000 in
set_option maxRecDepth 100000 in
theorem btDo1_any (N0 X : Nat) (val : Int) (okv : Bool) (ks vs : List Int) (k v : Int) (w : World) (hA : Acc N0 X val okv ks vs w) (hl : ks.length ≤ 1099511627776) (hl2 : vs.length ≤ 1099511627776) :
    Calls Try.prog 76 #[.int .i64 k, .int .i64 v, .pointer (some ⟨X, 0, none⟩)] w fun e w' => e = .returned (.tuple #[]) ∧ Acc N0 X val okv (ks ++ [k]) (vs ++ [v]) w' ∧ Fr (fun b => b = X ∨ N0 ≤ b) w w' := by
  obtain ⟨K, V, hB, hX, hN, hK, hV⟩ := hA
  obtain ⟨AK, cK, rfl⟩ := Kd.R_slice hK
  obtain ⟨AV, cV, rfl⟩ := Kd.R_slice hV
  have c2 : w.cell? ⟨X, 2, none⟩ = some (.slice AK ks.length cK) := hB.cell 2
  have c3 : w.cell? ⟨X, 3, none⟩ = some (.slice AV vs.length cV) := hB.cell 3
  have H : Hid (Pre N0 X val okv ks vs (.slice AK ks.length cK) (.slice AV vs.length cV) w w.drew) := ⟨hB, hN, Kd.R_drew hK, Kd.R_drew hV, (Fr.refl _ _).drew⟩
  have HN : Hid (X < N0) := hX
  clear hB hK hV hN hX
  go_enter Try.func76, Try.ntmps76
  refine start_ (n := 14) (S := fun w' => w'.cell? ⟨X, 2, none⟩ = some (.slice AK ks.length cK) ∧ w'.cell? ⟨X, 3, none⟩ = some (.slice AV vs.length cV)) (ds := [11, 13]) #[false, false, false, false, false, false, false, false, false, false, false, false, false, false] (by kernel_rfl) rfl rfl ⟨c2, c3⟩ (fun hHeld => ?_)
  refine with_tabW clo.tab clo.bits (fun HT_ HW_ => ?_)
  clear c2 c3
  generalize w.drew = W0 at H hHeld ⊢
  refine pure_ (i := 0) (N := some 5) (v := ?_) (a' := ?_) #[true, false, false, false, false, false, false, false, false, false, false, false, false, false] rfl rfl (any_of HT_.out (by kernel_rfl)) (fun _ _ _ h => h) (Or.inl ⟨by rfl, ?_⟩) ?_ ?_
  rotate_left
  · intro w'
    go_simp
    with_reducible rfl
  rotate_left
  · simp only [Act.put, List.setIfInBounds_toArray, List.set_cons_zero, List.set_cons_succ]
    rfl
  refine pure_ (i := 2) (N := some 7) (v := ?_) (a' := ?_) #[true, false, true, false, false, false, false, false, false, false, false, false, false, false] rfl rfl (any_of HT_.out (by kernel_rfl)) (fun _ _ _ h => h) (Or.inl ⟨by rfl, ?_⟩) ?_ ?_
  rotate_left
  · intro w'
    go_simp
    with_reducible rfl
  rotate_left
  · simp only [Act.put, List.setIfInBounds_toArray, List.set_cons_zero, List.set_cons_succ]
    rfl
  refine pure_ (i := 5) (N := some 10) (v := ?_) (a' := ?_) #[true, false, true, false, false, true, false, false, false, false, false, false, false, false] rfl rfl (any_of HT_.out (by kernel_rfl)) (fun _ _ _ h => h) (Or.inl ⟨by rfl, ?_⟩) ?_ ?_
  rotate_left
  · intro w'
    go_simp
    with_reducible rfl
  rotate_left
  · simp only [Act.put, List.setIfInBounds_toArray, List.set_cons_zero, List.set_cons_succ]
    rfl
  refine pure_ (i := 7) (N := some 12) (v := ?_) (a' := ?_) #[true, false, true, false, false, true, false, true, false, false, false, false, false, false] rfl rfl (any_of HT_.out (by kernel_rfl)) (fun _ _ _ h => h) (Or.inl ⟨by rfl, ?_⟩) ?_ ?_
  rotate_left
  · intro w'
    go_simp
    with_reducible rfl
  rotate_left
  · simp only [Act.put, List.setIfInBounds_toArray, List.set_cons_zero, List.set_cons_succ]
    rfl
  refine take_ (i := 1) (N := some 6) (v := ?_) (a' := ?_) #[true, true, true, false, false, true, false, true, false, false, false, false, false, false] rfl rfl (take_ofW HT_.out HW_.out (by kernel_rfl)) (fun _ _ _ h => h) (Or.inl ⟨by rfl, ?_⟩) hHeld ?_ ?_
  rotate_left
  · intro w' s0
    have s1 := s0.1
    have s2 := s0.2
    go_simp
    with_reducible rfl
  rotate_left
  · simp only [Act.put, List.setIfInBounds_toArray, List.set_cons_zero, List.set_cons_succ]
    rfl
  refine take_ (i := 6) (N := some 11) (v := ?_) (a' := ?_) #[true, true, true, false, false, true, true, true, false, false, false, false, false, false] rfl rfl (take_ofW HT_.out HW_.out (by kernel_rfl)) (fun _ _ _ h => h) (Or.inl ⟨by rfl, ?_⟩) hHeld ?_ ?_
  rotate_left
  · intro w' s0
    have s1 := s0.1
    have s2 := s0.2
    go_simp
    with_reducible rfl
  rotate_left
  · simp only [Act.put, List.setIfInBounds_toArray, List.set_cons_zero, List.set_cons_succ]
    rfl
  refine join_ (σ := Value × Nat × Nat) 4 #[true, true, true, true, true, true, true, true, true, false, true, false, false, false] (fun s => [(8, .slice (some ⟨s.2.1, 0, none⟩) 1 1), (9, s.1), (13, .slice (some ⟨s.2.2, 0, none⟩) 1 1), (15, .pointer (some ⟨X, 2, none⟩))]) (fun s W => Mid N0 X val okv ks vs (.slice AK ks.length cK) (.slice AV vs.length cV) s.1 k v s.2.2 w W) ?hcont ?hord
  case hcont =>
    rintro ⟨K1, g8, g13⟩ W hM
    have HM := hid hM
    obtain ⟨AK1, cK1, hq⟩ := Kd.R_slice hM.2.2.2.1
    rw [List.length_append, List.length_singleton] at hq
    replace hq : K1 = _ := hq
    subst hq
    clear hM H hHeld
    refine norm_ (a' := ?_) ?_ ?_
    rotate_left
    · simp only [putAll, Act.put, List.setIfInBounds_toArray, List.set_cons_zero, List.set_cons_succ]
      rfl
    refine one_ (i := 9) (N := some 14) #[true, true, true, true, true, true, true, true, true, true, true, false, false, false] rfl rfl (one_of HT_.out (by kernel_rfl)) (by decide) (fun K_ hK => ?_)
    refine append_int rfl (.tmp 11) (.tmp 13) 24 3 rfl Try.underlying24 infoInt N0 (.slice AV vs.length cV) vs v _ W rfl HM.out.2.2.2.2.1 ⟨g13, 0, none⟩ 1 rfl HM.out.1 (by omega) HM.out.2.2.1 ?_
    intro V1 W1 hR hg hat
    have HE := hid (end_of HN.out HM.out hR hg hat)
    obtain ⟨AV1, cV1, hq⟩ := Kd.R_slice hR
    rw [List.length_append, List.length_singleton] at hq
    subst hq
    refine hK.out _ _ ⟨HE.out.1.cell 2, HE.out.1.cell 3⟩ (fun hHeld => ?_)
    clear hK K_
    have e2 := hHeld.1
    have e3 := hHeld.2
    have f2 : W1.frozen? ⟨X, 2, none⟩ = false := HE.out.1.free 2
    have f3 : W1.frozen? ⟨X, 3, none⟩ = false := HE.out.1.free 3
    clear hR hg hat hHeld
    refine norm_ (a' := ?_) ?_ ?_
    rotate_left
    · show Act.put _ (some 14) _ = _
      simp only [Act.put, List.setIfInBounds_toArray, List.set_cons_zero, List.set_cons_succ]
      rfl
    refine last_ (i := 11) (N := none) #[true, true, true, true, true, true, true, true, true, true, true, true, false, false] rfl rfl (one_of HT_.out (by kernel_rfl)) (by decide) (fun K_ hK => ?_)
    refine skip_ (w1 := ?_) (by rfl) rfl ?_ ?_
    rotate_left
    · go_simp
      rfl
    refine hK.out _ _ ?_
    clear hK K_
    refine pure_ (i := 12) (N := some 16) (v := ?_) (a' := ?_) #[true, true, true, true, true, true, true, true, true, true, true, true, true, false] rfl rfl (any_of HT_.out (by kernel_rfl)) (fun _ _ _ h => h) (Or.inl ⟨by rfl, ?_⟩) ?_ ?_
    rotate_left
    · intro w'
      go_simp
      with_reducible rfl
    rotate_left
    · simp only [Act.put, List.setIfInBounds_toArray, List.set_cons_zero, List.set_cons_succ]
      rfl
    refine last_ (i := 13) (N := none) #[true, true, true, true, true, true, true, true, true, true, true, true, true, true] rfl rfl (one_of HT_.out (by kernel_rfl)) (by decide) (fun K_ hK => ?_)
    refine skip_ (w1 := ?_) (by rfl) rfl ?_ ?_
    rotate_left
    · go_simp
      rfl
    refine hK.out _ _ ?_
    clear hK K_
    refine done_ (done_of HT_.out (by kernel_rfl)) ?_
    try go_wp2
    go_end0
    exact ⟨rfl, HE.out.2.1, HE.out.2.2⟩
  case hord =>
    intro hcont
    clear hHeld
    refine two_ (i := 3) (j := 8) (Ni := some 8) (Nj := some 13) #[true, true, true, true, false, true, true, true, false, false, false, false, false, false] #[true, true, true, false, false, true, true, true, true, false, false, false, false, false] rfl rfl rfl rfl (two_of HT_.out (by kernel_rfl)) (by decide) (by decide) (fun K_ hK => ?_) (fun K_ hK => ?_)
    · refine value_ (w1 := ?_) (v := ?_) (by rfl) rfl ?_ ?_
      rotate_left 2
      · go_simp
        constructor
        · rfl
        · rfl
      refine hK.out _ _ ⟨(H.out.alloc _).cell2, (H.out.alloc _).cell3⟩ (fun hHeld => ?_)
      clear hK K_
      refine norm_ (a' := ?_) ?_ ?_
      rotate_left
      · show Act.put _ (some 8) _ = _
        simp only [Act.put, List.setIfInBounds_toArray, List.set_cons_zero, List.set_cons_succ]
        rfl
      have H1 := hid (H.out.alloc (.cells #[.int .i64 k] 3))
      have C1 := hid (box_cell W0 (.int .i64 k) 3)
      clear hHeld
      refine two_ (i := 4) (j := 8) (Ni := some 9) (Nj := some 13) #[true, true, true, true, true, true, true, true, false, false, false, false, false, false] #[true, true, true, true, false, true, true, true, true, false, false, false, false, false] rfl rfl rfl rfl (two_of HT_.out (by kernel_rfl)) (by decide) (by decide) (fun K_ hK => ?_) (fun K_ hK => ?_)
      · refine append_int rfl (.tmp 6) (.tmp 8) 24 3 rfl Try.underlying24 infoInt N0 (.slice AK ks.length cK) ks k _ _ rfl H1.out.2.2.1 ⟨W0.heap.size, 0, none⟩ 1 rfl C1.out (by omega) H1.out.2.1 ?_
        intro K1 W1 hR hg hat
        have HP := hid (part_of HN.out H1.out hR hg hat)
        refine hK.out _ _ ⟨HP.out.1.cell 2, HP.out.1.cell 3⟩ (fun hHeld => ?_)
        clear hK K_ hR hg hat hHeld
        refine norm_ (a' := ?_) ?_ ?_
        rotate_left
        · show Act.put _ (some 9) _ = _
          simp only [Act.put, List.setIfInBounds_toArray, List.set_cons_zero, List.set_cons_succ]
          rfl
        refine pure_ (i := 10) (N := some 15) (v := ?_) (a' := ?_) #[true, true, true, true, true, true, true, true, false, false, true, false, false, false] rfl rfl (any_of HT_.out (by kernel_rfl)) (fun _ _ _ h => h) (Or.inl ⟨by rfl, ?_⟩) ?_ ?_
        rotate_left
        · intro w'
          go_simp
          with_reducible rfl
        rotate_left
        · simp only [Act.put, List.setIfInBounds_toArray, List.set_cons_zero, List.set_cons_succ]
          rfl
        refine one_ (i := 8) (N := some 13) #[true, true, true, true, true, true, true, true, true, false, true, false, false, false] rfl rfl (one_of HT_.out (by kernel_rfl)) (by decide) (fun K_ hK => ?_)
        refine value_ (w1 := ?_) (v := ?_) (by rfl) rfl ?_ ?_
        rotate_left 2
        · go_simp
          constructor
          · rfl
          · rfl
        refine hK.out _ _ ⟨(HP.out.1.alloc _).cell 2, (HP.out.1.alloc _).cell 3⟩ (fun hHeld => ?_)
        clear hK K_
        exact norm_ rfl (hcont ⟨K1, W0.heap.size, W1.heap.size⟩ _ ⟨box_cell W1 _ _, HP.out.1.alloc _, by rw [alloc_size]; exact Nat.le_succ_of_le HP.out.2.1, Kd.R_alloc HP.out.2.2.1 _, Kd.R_alloc HP.out.2.2.2.1 _, HP.out.2.2.2.2.alloc _⟩)
      · refine value_ (w1 := ?_) (v := ?_) (by rfl) rfl ?_ ?_
        rotate_left 2
        · go_simp
          constructor
          · rfl
          · rfl
        refine hK.out _ _ ⟨(H1.out.alloc _).cell2, (H1.out.alloc _).cell3⟩ (fun hHeld => ?_)
        clear hK K_
        refine norm_ (a' := ?_) ?_ ?_
        rotate_left
        · show Act.put _ (some 13) _ = _
          simp only [Act.put, List.setIfInBounds_toArray, List.set_cons_zero, List.set_cons_succ]
          rfl
        have C2 := hid (((Below.refl _ _).alloc (Nat.le_refl _) (.cells #[.int .i64 v] 3) : Below _ (W0.alloc (.cells #[.int .i64 k] 3)) _))
        have H3 := hid (H1.out.alloc (.cells #[.int .i64 v] 3))
        have C3 := hid (box_cell' (W0.alloc (.cells #[.int .i64 k] 3)) (.int .i64 v) 3 (alloc_size _ _))
        clear H1 hHeld
        have H1 := H3
        clear H3
        refine one_ (i := 4) (N := some 9) #[true, true, true, true, true, true, true, true, true, false, false, false, false, false] rfl rfl (one_of HT_.out (by kernel_rfl)) (by decide) (fun K_ hK => ?_)
        refine append_int rfl (.tmp 6) (.tmp 8) 24 3 rfl Try.underlying24 infoInt N0 (.slice AK ks.length cK) ks k _ _ rfl H1.out.2.2.1 ⟨W0.heap.size, 0, none⟩ 1 rfl ((C2.out.cell (by rw [alloc_size]; exact Nat.lt_succ_self _)).trans C1.out) (by omega) H1.out.2.1 ?_
        intro K1 W1 hR hg hat
        have HP := hid (part_of HN.out H1.out hR hg hat)
        refine hK.out _ _ ⟨HP.out.1.cell 2, HP.out.1.cell 3⟩ (fun hHeld => ?_)
        have C4 := hid (hg.cell C3.out (fun e => by have := own_ge H.out.2.2.1 _ e.symm; simp only at this; omega))
        clear hK K_ hR hg hat hHeld
        refine norm_ (a' := ?_) ?_ ?_
        rotate_left
        · show Act.put _ (some 9) _ = _
          simp only [Act.put, List.setIfInBounds_toArray, List.set_cons_zero, List.set_cons_succ]
          rfl
        refine pure_ (i := 10) (N := some 15) (v := ?_) (a' := ?_) #[true, true, true, true, true, true, true, true, true, false, true, false, false, false] rfl rfl (any_of HT_.out (by kernel_rfl)) (fun _ _ _ h => h) (Or.inl ⟨by rfl, ?_⟩) ?_ ?_
        rotate_left
        · intro w'
          go_simp
          with_reducible rfl
        rotate_left
        · simp only [Act.put, List.setIfInBounds_toArray, List.set_cons_zero, List.set_cons_succ]
          rfl
        exact norm_ rfl (hcont ⟨K1, W0.heap.size, W0.heap.size + 1⟩ _ ⟨C4.out, HP.out⟩)
    · refine value_ (w1 := ?_) (v := ?_) (by rfl) rfl ?_ ?_
      rotate_left 2
      · go_simp
        constructor
        · rfl
        · rfl
      refine hK.out _ _ ⟨(H.out.alloc _).cell2, (H.out.alloc _).cell3⟩ (fun hHeld => ?_)
      clear hK K_
      refine norm_ (a' := ?_) ?_ ?_
      rotate_left
      · show Act.put _ (some 13) _ = _
        simp only [Act.put, List.setIfInBounds_toArray, List.set_cons_zero, List.set_cons_succ]
        rfl
      have H0 := hid (H.out.alloc (.cells #[.int .i64 v] 3))
      have C1 := hid (box_cell W0 (.int .i64 v) 3)
      clear hHeld
      refine one_ (i := 3) (N := some 8) #[true, true, true, true, false, true, true, true, true, false, false, false, false, false] rfl rfl (one_of HT_.out (by kernel_rfl)) (by decide) (fun K_ hK => ?_)
      refine value_ (w1 := ?_) (v := ?_) (by rfl) rfl ?_ ?_
      rotate_left 2
      · go_simp
        constructor
        · rfl
        · rfl
      refine hK.out _ _ ⟨(H0.out.alloc _).cell2, (H0.out.alloc _).cell3⟩ (fun hHeld => ?_)
      clear hK K_
      refine norm_ (a' := ?_) ?_ ?_
      rotate_left
      · show Act.put _ (some 8) _ = _
        simp only [Act.put, List.setIfInBounds_toArray, List.set_cons_zero, List.set_cons_succ]
        rfl
      have H1 := hid (H0.out.alloc (.cells #[.int .i64 k] 3))
      have C3 := hid (box_cell' (W0.alloc (.cells #[.int .i64 v] 3)) (.int .i64 k) 3 (alloc_size _ _))
      have C2 := hid (((Below.refl _ _).alloc (Nat.le_refl _) (.cells #[.int .i64 k] 3) : Below _ (W0.alloc (.cells #[.int .i64 v] 3)) _))
      clear hHeld
      refine one_ (i := 4) (N := some 9) #[true, true, true, true, true, true, true, true, true, false, false, false, false, false] rfl rfl (one_of HT_.out (by kernel_rfl)) (by decide) (fun K_ hK => ?_)
      refine append_int rfl (.tmp 6) (.tmp 8) 24 3 rfl Try.underlying24 infoInt N0 (.slice AK ks.length cK) ks k _ _ rfl H1.out.2.2.1 ⟨_, 0, none⟩ 1 rfl C3.out (by omega) H1.out.2.1 ?_
      intro K1 W1 hR hg hat
      have HP := hid (part_of HN.out H1.out hR hg hat)
      refine hK.out _ _ ⟨HP.out.1.cell 2, HP.out.1.cell 3⟩ (fun hHeld => ?_)
      have C4 := hid (hg.cell ((C2.out.cell (by rw [alloc_size]; exact Nat.lt_succ_self _)).trans C1.out) (fun e => by have := own_ge H.out.2.2.1 _ e.symm; simp only at this; omega))
      clear hK K_ hR hg hat hHeld
      refine norm_ (a' := ?_) ?_ ?_
      rotate_left
      · show Act.put _ (some 9) _ = _
        simp only [Act.put, List.setIfInBounds_toArray, List.set_cons_zero, List.set_cons_succ]
        rfl
      refine pure_ (i := 10) (N := some 15) (v := ?_) (a' := ?_) #[true, true, true, true, true, true, true, true, true, false, true, false, false, false] rfl rfl (any_of HT_.out (by kernel_rfl)) (fun _ _ _ h => h) (Or.inl ⟨by rfl, ?_⟩) ?_ ?_
      rotate_left
      · intro w'
        go_simp
        with_reducible rfl
      rotate_left
      · simp only [Act.put, List.setIfInBounds_toArray, List.set_cons_zero, List.set_cons_succ]
        rfl
      exact norm_ rfl (hcont ⟨K1, W0.heap.size + 1, W0.heap.size⟩ _ ⟨C4.out, HP.out⟩)
/-- The function value that gathers into X. -/
def cloV (X : Nat) : Value := .func (.func 76) #[] #[.pointer (some ⟨X, 0, none⟩)]
/-- The keys and the values that are there. -/
def keysV (l : List E) : List Int := (l.filter (·.2.2)).map (·.1)
def valsV (l : List E) : List Int := (l.filter (·.2.2)).map (·.2.1)
theorem keysV_app (a b : List E) : keysV (a ++ b) = keysV a ++ keysV b := by simp [keysV]
theorem valsV_app (a b : List E) : valsV (a ++ b) = valsV a ++ valsV b := by simp [valsV]
theorem valsV_len (l : List E) : (valsV l).length = (keysV l).length := by simp [valsV, keysV]
theorem keysV_le (l : List E) : (keysV l).length ≤ l.length := by simp [keysV, List.length_filter_le]
set_option maxHeartbeats 8000000 in
set_option maxRecDepth 100000 in
theorem each_leaf (N0 X R : Nat) (val : Int) (okv : Bool) (t : N 0) (ks vs : List Int) (w : World) (hI : N.In w 0 t) (hF : N.Fit 0 t) (hid' : ∀ b ∈ N.ids 0 t, b < N0 ∧ b ≠ X) (hA : Acc N0 X val okv ks vs w) (hlen : vs.length = ks.length)
    (hsz : ks.length + (T.flat 0 (N.raw 0 t)).length ≤ 1099511627776) :
    Calls Try.prog 94 #[.pointer (some ⟨R, 0, none⟩), .pointer (some ⟨N.blk 0 t, 0, none⟩), .int .i64 0, cloV X] w fun e w' => e = .returned (.tuple #[]) ∧ Acc N0 X val okv (ks ++ keysV (T.flat 0 (N.raw 0 t))) (vs ++ valsV (T.flat 0 (N.raw 0 t))) w' ∧ Fr (fun b => b = X ∨ N0 ≤ b) w w' := by
  obtain ⟨b, es⟩ := t
  obtain ⟨g, hN, hP⟩ := hI
  have HN : Hid (Nd w b es.length g) := hN
  have HP : Hid (Rep Rep0 g es) := hP
  have HF : Hid (es.length ≤ 63) := hF
  have HD : Hid (b < N0 ∧ b ≠ X) := hid' b (by show b ∈ [b]; simp)
  have HA := hid hA
  have HL := hid hlen
  have HS : Hid (ks.length + es.length ≤ 1099511627776) := hsz
  clear hN hP hF hid' hA hlen hsz
  show Calls Try.prog 94 #[.pointer (some ⟨R, 0, none⟩), .pointer (some ⟨b, 0, none⟩), .int .i64 0, .func (.func 76) #[] #[.pointer (some ⟨X, 0, none⟩)]] w fun e w' => e = .returned (.tuple #[]) ∧ Acc N0 X val okv (ks ++ keysV es) (vs ++ valsV es) w' ∧ Fr (fun b => b = X ∨ N0 ≤ b) w w'
  go_enter Try.func94, Try.ntmps94
  go_wp2_with fail
  go_loopg [8] es.length (fun n_ v8 wr => ∃ i : Nat, v8 = .int .i64 i ∧ i ≤ es.length ∧ Hid (n_ + i = es.length) ∧ Hid (Acc N0 X val okv (ks ++ keysV (es.take i)) (vs ++ valsV (es.take i)) wr ∧ Fr (fun b => b = X ∨ N0 ≤ b) w wr))
  case atStart => exact ⟨0, rfl, Nat.zero_le _, Nat.add_zero _, by show Acc N0 X val okv (ks ++ []) (vs ++ []) w; rw [List.append_nil, List.append_nil]; exact HA.out, Fr.refl _ _⟩
  case round =>
    obtain ⟨i, rfl, hi, HG, HI⟩ := hrel
    have HNW : Hid (Nd wr b es.length g) := Blk.fr HN.out HI.out.2 (fun h => by have := HD.out; omega)
    have c0 : wr.cell? ⟨b, 0, none⟩ = some (.int .i64 es.length) := HNW.out.m0
    by_cases hlt : i < es.length
    · have hx : es[i]? = some es[i] := List.getElem?_eq_getElem hlt
      have ht : es.take (i + 1) = es.take i ++ [es[i]] := List.take_succ_eq_append_getElem hlt
      have h64 : i < 64 := by have := HF.out; omega
      generalize es[i] = x at hx ht
      have hr := HP.out i x hx
      have a0 : wr.cell? ⟨b, 1 + i * 4, none⟩ = some (.int .i64 x.1) := by rw [← hr.1]; exact HNW.out.at' i 0 h64 (by omega)
      have a1 : wr.cell? ⟨b, 1 + i * 4 + 1, none⟩ = some (.int .i64 x.2.1) := by rw [← hr.2.1]; exact HNW.out.at' i 1 h64 (by omega)
      have a2 : wr.cell? ⟨b, 1 + i * 4 + 2, none⟩ = some (.bool x.2.2) := by rw [← hr.2.2]; exact HNW.out.at' i 2 h64 (by omega)
      have HT := hid ht
      clear hr hx ht
      have r1 : (i : Int) < 64 := by omega
      have hlti : (i : Int) < es.length := by omega
      cases hv : x.2.2 with
      | false =>
        rw [hv] at a2
        have HV := hid hv
        clear hv
        go_wp2_with fail
        have hg0 := HG.out
        obtain ⟨k1, rfl⟩ : ∃ k1, gk = k1 + 1 := ⟨gk - 1, by omega⟩
        go_roundg k1
        case measure => omega
        case rel => exact ⟨i + 1, rfl, hlt, by show k1 + (i + 1) = es.length; omega, by
          rw [HT.out, keysV_app, valsV_app, show keysV [x] = [] by simp [keysV, HV.out], show valsV [x] = [] by simp [valsV, HV.out], List.append_nil, List.append_nil]
          exact HI.out.1, HI.out.2⟩
      | true =>
        rw [hv] at a2
        have HV := hid hv
        clear hv
        go_upto_region 5 with fail
        refine still_tail_drew 15 (by kernel_rfl) (by kernel_rfl) ?_
        simp only [List.take_succ_cons, List.take_zero, List.drop_succ_cons, List.drop_zero]
        repeat still_step
        refine wpStill_nil ?_
        go_wp2_with fail
        refine (btDo1_any N0 X val okv (ks ++ keysV (es.take i)) (vs ++ valsV (es.take i)) x.1 x.2.1 wr.drew HI.out.1.drew ?l1 ?l2).mono ?_
        case l1 => have h1 := keysV_le (es.take i); have h2 := HS.out; rw [List.length_take] at h1; rw [List.length_append]; omega
        case l2 => have h1 := keysV_le (es.take i); have h2 := HS.out; have h3 := valsV_len (es.take i); have h4 := HL.out; rw [List.length_take] at h1; rw [List.length_append]; omega
        rintro e w2 ⟨rfl, hA2, hF2⟩
        have HA2 := hid hA2
        have HF2 : Hid (Fr (fun b => b = X ∨ N0 ≤ b) w w2) := HI.out.2.trans (⟨hF2.os, hF2.tape, hF2.output, hF2.size, hF2.block⟩ : Fr (fun b => b = X ∨ N0 ≤ b) wr w2) (fun _ _ h => h)
        clear hA2 hF2
        go_wp2_with fail
        have hg0 := HG.out
        obtain ⟨k1, rfl⟩ : ∃ k1, gk = k1 + 1 := ⟨gk - 1, by omega⟩
        go_roundg k1
        case measure => omega
        case rel => exact ⟨i + 1, rfl, hlt, by show k1 + (i + 1) = es.length; omega, by
          rw [HT.out, keysV_app, valsV_app, show keysV [x] = [x.1] by simp [keysV, HV.out], show valsV [x] = [x.2.1] by simp [valsV, HV.out], ← List.append_assoc, ← List.append_assoc]
          exact HA2.out, HF2.out⟩
    · obtain rfl : i = es.length := by omega
      have hlti : ¬ (es.length : Int) < es.length := by omega
      go_wp2_with fail
      go_end0
      have h1 := HI.out.1
      rw [List.take_length] at h1
      exact ⟨rfl, h1, HI.out.2⟩
set_option maxHeartbeats 8000000 in
set_option maxRecDepth 100000 in
theorem each_any (N0 X R : Nat) (val : Int) (okv : Bool) : ∀ (h : Nat) (t : N h) (ks vs : List Int) (w : World), N.In w h t → N.Fit h t → (∀ b ∈ N.ids h t, b < N0 ∧ b ≠ X) → Acc N0 X val okv ks vs w → vs.length = ks.length →
    ks.length + (T.flat h (N.raw h t)).length ≤ 1099511627776 → h ≤ 1099511627776 →
    Calls Try.prog 94 #[.pointer (some ⟨R, 0, none⟩), .pointer (some ⟨N.blk h t, 0, none⟩), .int .i64 h, cloV X] w fun e w' => e = .returned (.tuple #[]) ∧ Acc N0 X val okv (ks ++ keysV (T.flat h (N.raw h t))) (vs ++ valsV (T.flat h (N.raw h t))) w' ∧ Fr (fun b => b = X ∨ N0 ≤ b) w w'
  | 0, t, ks, vs, w, h1, h2, h3, h4, h5, h6, _ => each_leaf N0 X R val okv t ks vs w h1 h2 h3 h4 h5 h6
  | h + 1, (b, cs), ks, vs, w, hI, hF, hid', hA, hlen, hsz, hh => by
    obtain ⟨⟨g, hN, hP⟩, hI'⟩ := hI
    have HIH := hid (each_any N0 X R val okv h)
    have HN : Hid (Nd w b cs.length g) := hN
    have HP : Hid (Rep Rep1 g cs) := hP
    have HI1 : Hid (∀ c ∈ cs, N.In w h c.2) := hI'
    have HF : Hid (cs.length ≤ 63 ∧ 1 ≤ cs.length ∧ ∀ c ∈ cs, N.Fit h c.2) := hF
    have HD : Hid ((b < N0 ∧ b ≠ X) ∧ ∀ y ∈ fids cs, y < N0 ∧ y ≠ X) := ⟨hid' b (by show b ∈ b :: fids cs; simp), fun y hy => hid' y (by show y ∈ b :: fids cs; simp [hy])⟩
    have HA := hid hA
    have HL := hid hlen
    have HS : Hid (ks.length + (flatC (cs.map rawC)).length ≤ 1099511627776) := hsz
    have HH := hid hh
    clear hN hP hI' hF hid' hA hlen hsz hh
    have hz : (((h + 1 : Nat) : Int) == 0) = false := beq_eq_false_iff_ne.2 (by omega)
    have hz2 : wrap64 (((h + 1 : Nat) : Int) - 1) = (h : Int) := by have := HH.out; rw [wrap64_in _ (by omega)]; omega
    show Calls Try.prog 94 #[.pointer (some ⟨R, 0, none⟩), .pointer (some ⟨b, 0, none⟩), .int .i64 ((h + 1 : Nat) : Int), .func (.func 76) #[] #[.pointer (some ⟨X, 0, none⟩)]] w fun e w' => e = .returned (.tuple #[]) ∧ Acc N0 X val okv (ks ++ keysV (flatC (cs.map rawC))) (vs ++ valsV (flatC (cs.map rawC))) w' ∧ Fr (fun b => b = X ∨ N0 ≤ b) w w'
    obtain ⟨hv, hhv⟩ : ∃ hv : Int, hv = ((h + 1 : Nat) : Int) := ⟨_, rfl⟩
    rw [← hhv] at hz hz2 ⊢
    have hz3 : IntKind.i64.wrap (hv - 1) = (h : Int) := by rw [i64_w]; exact hz2
    clear hhv
    go_enter Try.func94, Try.ntmps94
    go_wp2_with fail
    go_loopg [9] cs.length (fun n_ v9 wr => ∃ i : Nat, v9 = .int .i64 i ∧ i ≤ cs.length ∧ Hid (n_ + i = cs.length) ∧ Hid (Acc N0 X val okv (ks ++ keysV (flatC ((cs.take i).map rawC))) (vs ++ valsV (flatC ((cs.take i).map rawC))) wr ∧ Fr (fun b => b = X ∨ N0 ≤ b) w wr))
    case atStart => exact ⟨0, rfl, Nat.zero_le _, Nat.add_zero _, by show Acc N0 X val okv (ks ++ []) (vs ++ []) w; rw [List.append_nil, List.append_nil]; exact HA.out, Fr.refl _ _⟩
    case round =>
      obtain ⟨i, rfl, hi, HG, HI⟩ := hrel
      have HNW : Hid (Nd wr b cs.length g) := Blk.fr HN.out HI.out.2 (fun h => by have := HD.out.1; omega)
      have c0 : wr.cell? ⟨b, 0, none⟩ = some (.int .i64 cs.length) := HNW.out.m0
      by_cases hlt : i < cs.length
      · have hx : cs[i]? = some cs[i] := List.getElem?_eq_getElem hlt
        have ht : cs.take (i + 1) = cs.take i ++ [cs[i]] := List.take_succ_eq_append_getElem hlt
        have h64 : i < 64 := by have := HF.out.1; omega
        have hm : cs[i] ∈ cs := List.getElem_mem hlt
        have hsp : flatC (cs.map rawC) = flatC ((cs.take i).map rawC) ++ (T.flat h (N.raw h cs[i].2) ++ flatC ((cs.drop (i + 1)).map rawC)) := by
          rw [← flatC_cons (rawC cs[i]), ← flatC_app]
          congr 1
          rw [← List.map_cons, ← List.map_append, ← List.drop_eq_getElem_cons hlt, List.take_append_drop]
        generalize cs[i] = x at hx ht hm hsp
        have hr := (HP.out i x hx).2
        have a3 : wr.cell? ⟨b, 1 + i * 4 + 3, none⟩ = some (.pointer (some ⟨N.blk h x.2, 0, none⟩)) := by rw [← hr]; exact HNW.out.at' i 3 h64 (by omega)
        have HT := hid ht
        have HXI : Hid (N.In wr h x.2) := (HI1.out x hm).fr HI.out.2 (fun y hy e => by have := HD.out.2 y (mem_fids hm hy); omega)
        have HXF : Hid (N.Fit h x.2 ∧ ∀ y ∈ N.ids h x.2, y < N0 ∧ y ≠ X) := ⟨HF.out.2.2 x hm, fun y hy => HD.out.2 y (mem_fids hm hy)⟩
        have HSX : Hid (vs.length + (valsV (flatC ((cs.take i).map rawC))).length = ks.length + (keysV (flatC ((cs.take i).map rawC))).length ∧ ks.length + (keysV (flatC ((cs.take i).map rawC))).length + (T.flat h (N.raw h x.2)).length ≤ 1099511627776) := by
          have h1 := HS.out
          rw [hsp, List.length_append, List.length_append] at h1
          have h2 := keysV_le (flatC ((cs.take i).map rawC))
          have h3 := valsV_len (flatC ((cs.take i).map rawC))
          have h4 := HL.out
          exact ⟨by omega, by omega⟩
        clear hr hx ht hm hsp
        have r1 : (i : Int) < 64 := by omega
        have hlti : (i : Int) < cs.length := by omega
        go_wp2_with fail
        refine (HIH.out x.2 (ks ++ keysV (flatC ((cs.take i).map rawC))) (vs ++ valsV (flatC ((cs.take i).map rawC))) wr HXI.out HXF.out.1 HXF.out.2 HI.out.1 (by rw [List.length_append, List.length_append]; exact HSX.out.1) (by rw [List.length_append]; exact HSX.out.2) (by have := HH.out; omega)).mono ?_
        rintro e w2 ⟨rfl, hA2, hF2⟩
        have HA2 := hid hA2
        have HF2 : Hid (Fr (fun b => b = X ∨ N0 ≤ b) w w2) := HI.out.2.trans hF2 (fun _ _ h => h)
        clear hA2 hF2
        go_wp2_with fail
        have hg0 := HG.out
        obtain ⟨k1, rfl⟩ : ∃ k1, gk = k1 + 1 := ⟨gk - 1, by omega⟩
        go_roundg k1
        case measure => omega
        case rel => exact ⟨i + 1, rfl, hlt, by show k1 + (i + 1) = cs.length; omega, by
          rw [HT.out, List.map_append, flatC_app, keysV_app, valsV_app, show flatC ([x].map rawC) = T.flat h (N.raw h x.2) by simp [flatC], ← List.append_assoc, ← List.append_assoc]
          exact HA2.out, HF2.out⟩
      · obtain rfl : i = cs.length := by omega
        have hlti : ¬ (cs.length : Int) < cs.length := by omega
        go_wp2_with fail
        go_end0
        have h1 := HI.out.1
        rw [List.take_length] at h1
        exact ⟨rfl, h1, HI.out.2⟩
end Go.Proofs.Ytjlcebgfknfelaa.Bt

namespace Go.Proofs.Ytjlcebgfknfelaa.Avl
open Go Go.RowKit Go.Proofs.Ytjlcebgfknfelaa.Hk Go.Proofs.Ytjlcebgfknfelaa.AvlPure Go.Proofs.Ytjlcebgfknfelaa.Less Go.Proofs.Ytjlcebgfknfelaa.Row Go.Proofs.YtjlcebgfknfelaaW.PrintWords Go.Proofs.YtjlcebgfknfelaaW.PrintLast Go.Proofs.YtjlcebgfknfelaaW.PrintMore
/-- The function value that gathers into X. -/
def cloV (X : Nat) : Value := .func (.func 65) #[] #[.pointer (some ⟨X, 0, none⟩)]
def keys (t : T) : List Int := t.list.map (·.1)
def vals (t : T) : List Int := t.list.map (·.2)
theorem keys_length (t : T) : ((keys t).length : Int) = t.size := by rw [T.size_list]; simp [keys]
theorem vals_length (t : T) : (vals t).length = (keys t).length := by simp [keys, vals]
theorem keys_node (k v h : Int) (l r : T) : keys (.node k v h l r) = keys l ++ k :: keys r := by simp [keys, T.list]
theorem vals_node (k v h : Int) (l r : T) : vals (.node k v h l r) = vals l ++ v :: vals r := by simp [vals, T.list]
set_option maxHeartbeats 4000000 in
set_option maxRecDepth 100000 in
theorem each_any (N0 X : Nat) (val : Int) (okv : Bool) : ∀ (t : N) (ks vs : List Int) (w : World), t.In w → (∀ b ∈ t.ids, b < N0 ∧ b ≠ X) → Acc N0 X val okv ks vs w → vs.length = ks.length →
    (ks.length : Int) + t.raw.size ≤ 1099511627776 →
    Calls Try.prog 87 #[t.ptr, cloV X] w fun e w' => e = .returned (.tuple #[]) ∧ Acc N0 X val okv (ks ++ keys t.raw) (vs ++ vals t.raw) w' ∧ Fr (fun b => b = X ∨ N0 ≤ b) w w'
  | .nil, ks, vs, w, _, _, hA, _, _ => by
    have HA : Hid (Acc N0 X val okv ks vs w) := hA
    clear hA
    show Calls Try.prog 87 #[.pointer none, .func (.func 65) #[] #[.pointer (some ⟨X, 0, none⟩)]] w _
    go_enter Try.func87, Try.ntmps87
    go_wp2_with fail
    (try simp only [Exit.inBlock, Exit.then]); refine bodyPost_ret (results_none rfl _ _ _) rfl ?_
    exact ⟨rfl, by show Acc N0 X val okv (ks ++ []) (vs ++ []) w; rw [List.append_nil, List.append_nil]; exact HA.out, Fr.refl _ _⟩
  | .node b k v h l r, ks, vs, w, hin, hid', hA, hlen, hsz => by
    have e0 : (N.node b k v h l r).raw.size = 1 + l.raw.size + r.raw.size := rfl
    have s1 := T.size_nonneg l.raw
    have s2 := T.size_nonneg r.raw
    rw [e0] at hsz
    have HA : Hid (Acc N0 X val okv ks vs w) := hA
    have HI : Hid ((N.node b k v h l r).In w) := hin
    have HD : Hid ((b < N0 ∧ b ≠ X) ∧ (∀ x ∈ l.ids, x < N0 ∧ x ≠ X) ∧ (∀ x ∈ r.ids, x < N0 ∧ x ≠ X)) :=
      ⟨hid' b (by simp [N.ids]), fun x hx => hid' x (by simp [N.ids, hx]), fun x hx => hid' x (by simp [N.ids, hx])⟩
    have kl := keys_length l.raw
    have HZ : Hid ((ks.length : Int) + l.raw.size ≤ 1099511627776 ∧ (ks ++ keys l.raw).length ≤ 1099511627776 ∧ (vs ++ vals l.raw).length ≤ 1099511627776 ∧
        (vs ++ vals l.raw ++ [v]).length = (ks ++ keys l.raw ++ [k]).length ∧ ((ks ++ keys l.raw ++ [k]).length : Int) + r.raw.size ≤ 1099511627776) := by
      have vl := vals_length l.raw
      simp only [List.length_append, List.length_singleton]
      refine ⟨by omega, by omega, by omega, by omega, by omega⟩
    have c3 : w.cell? ⟨b, 3, none⟩ = some l.ptr := hin.1.cell 3
    have HR : Hid (ks ++ keys (N.node b k v h l r).raw = ks ++ keys l.raw ++ [k] ++ keys r.raw ∧ vs ++ vals (N.node b k v h l r).raw = vs ++ vals l.raw ++ [v] ++ vals r.raw) := by
      constructor
      · show ks ++ keys (.node k v h l.raw r.raw) = _
        rw [keys_node]; simp
      · show vs ++ vals (.node k v h l.raw r.raw) = _
        rw [vals_node]; simp
    have HL : Hid (vs.length = ks.length) := hlen
    clear hin hid' hA hlen hsz e0 s1 s2 kl
    show Calls Try.prog 87 #[.pointer (some ⟨b, 0, none⟩), .func (.func 65) #[] #[.pointer (some ⟨X, 0, none⟩)]] w _
    go_enter Try.func87, Try.ntmps87
    go_wp2_with fail
    refine (each_any N0 X val okv l ks vs w HI.out.2.1 HD.out.2.1 HA.out HL.out HZ.out.1).mono ?_
    rintro e w1 ⟨rfl, hA1, hF1⟩
    have B1 := HI.out.1.fr hF1 (fun e => by have := HD.out.1; omega)
    have R1 := N.In.fr hF1 HI.out.2.2 (fun x hx e => by have := HD.out.2.2 x hx; omega)
    have c0 : w1.cell? ⟨b, 0, none⟩ = some (.int .i64 k) := B1.cell 0
    have c1 : w1.cell? ⟨b, 1, none⟩ = some (.int .i64 v) := B1.cell 1
    have H1 : Hid (Acc N0 X val okv (ks ++ keys l.raw) (vs ++ vals l.raw) w1 ∧ Fr (fun b => b = X ∨ N0 ≤ b) w w1 ∧ Blk w1 b #[.int .i64 k, .int .i64 v, .int .i64 h, l.ptr, r.ptr] 119 ∧ r.In w1) := ⟨hA1, hF1, B1, R1⟩
    clear hA1 hF1 B1 R1 c3
    go_wp2_with fail
    refine still_tail_drew 9 (by kernel_rfl) (by kernel_rfl) ?_
    simp only [List.take_succ_cons, List.take_zero, List.drop_succ_cons, List.drop_zero]
    repeat still_step
    refine wpStill_nil ?_
    go_wp2_with fail
    refine (avlDo1_any N0 X val okv (ks ++ keys l.raw) (vs ++ vals l.raw) k v w1.drew H1.out.1.drew HZ.out.2.1 HZ.out.2.2.1).mono ?_
    rintro e w2 ⟨rfl, hA2, hF2⟩
    have hF2' : Fr (fun b => b = X ∨ N0 ≤ b) w1 w2 := ⟨hF2.os, hF2.tape, hF2.output, hF2.size, hF2.block⟩
    have B2 := H1.out.2.2.1.fr hF2' (fun e => by have := HD.out.1; omega)
    have R2 := N.In.fr hF2' H1.out.2.2.2 (fun x hx e => by have := HD.out.2.2 x hx; omega)
    have c4 : w2.cell? ⟨b, 4, none⟩ = some r.ptr := B2.cell 4
    have H2 : Hid (Acc N0 X val okv (ks ++ keys l.raw ++ [k]) (vs ++ vals l.raw ++ [v]) w2 ∧ Fr (fun b => b = X ∨ N0 ≤ b) w w2 ∧ r.In w2) := ⟨hA2, H1.out.2.1.trans hF2' (fun _ _ e => e), R2⟩
    clear hA2 hF2 hF2' B2 R2 c0 c1
    go_wp2_with fail
    refine (each_any N0 X val okv r (ks ++ keys l.raw ++ [k]) (vs ++ vals l.raw ++ [v]) w2 H2.out.2.2 HD.out.2.2 H2.out.1 HZ.out.2.2.2.1 HZ.out.2.2.2.2).mono ?_
    rintro e w3 ⟨rfl, hA3, hF3⟩
    have H3 : Hid (Acc N0 X val okv (ks ++ keys l.raw ++ [k] ++ keys r.raw) (vs ++ vals l.raw ++ [v] ++ vals r.raw) w3 ∧ Fr (fun b => b = X ∨ N0 ≤ b) w w3) := ⟨hA3, H2.out.2.1.trans hF3 (fun _ _ e => e)⟩
    clear hA3 hF3
    go_wp2_with fail
    go_end0
    exact ⟨rfl, by rw [HR.out.1, HR.out.2]; exact H3.out.1, H3.out.2⟩
end Go.Proofs.Ytjlcebgfknfelaa.Avl

namespace Go.Proofs.Ytjlcebgfknfelaa.Avl
open Go Go.RowKit Go.Proofs.Ytjlcebgfknfelaa.Hk Go.Proofs.Ytjlcebgfknfelaa.AvlPure Go.Proofs.Ytjlcebgfknfelaa.Less Go.Proofs.Ytjlcebgfknfelaa.Row Go.Proofs.YtjlcebgfknfelaaW.PrintWords Go.Proofs.YtjlcebgfknfelaaW.PrintLast Go.Proofs.YtjlcebgfknfelaaW.PrintMore
/-- A tree in memory: its own variable at R. -/
structure Tree (base R : Nat) (tb : List Int) (t : N) (w : World) : Prop where
  blk : ∃ lv, Blk w R #[t.ptr, lv] 96 ∧ LessS base w lv tb
  ge : base ≤ R
  notin : R ∉ t.ids
  good : Good base w t
theorem In.kept {w w' : World} {t : N} (h : t.In w) (hk : ∀ b ∈ t.ids, w'.heap[b]? = w.heap[b]?) : t.In w' := by
  induction t with
  | nil => trivial
  | node b k v h' l r ihl ihr =>
    exact ⟨(hk b (by simp [N.ids])).trans h.1, ihl h.2.1 (fun x hx => hk x (by simp [N.ids, hx])), ihr h.2.2 (fun x hx => hk x (by simp [N.ids, hx]))⟩
theorem Tree.kept {base R : Nat} {tb : List Int} {t : N} {w w' : World} (h : Tree base R tb t w) (hb : Below base w w') (hR : w'.heap[R]? = w.heap[R]?) (hk : ∀ b ∈ t.ids, w'.heap[b]? = w.heap[b]?) : Tree base R tb t w' := by
  obtain ⟨⟨lv, B, L⟩, g, n, G⟩ := h
  exact ⟨⟨lv, hR.trans B, L.to hb⟩, g, n, ⟨In.kept G.mem hk, G.nodup, G.above, G.right, G.even⟩⟩
theorem Tree.lt {base R : Nat} {tb : List Int} {t : N} {w : World} (h : Tree base R tb t w) : R < w.heap.size ∧ ∀ b ∈ t.ids, b < w.heap.size := by
  obtain ⟨⟨lv, B, L⟩, g, n, G⟩ := h
  exact ⟨B.lt, fun b hb => N.In.lt G.mem b hb⟩
/-- Only what is new, or no block of the tree, has turned. -/
theorem Tree.below {base R : Nat} {tb : List Int} {t : N} {w w' : World} (h : Tree base R tb t w) (hb : Below w.heap.size w w') : Tree base R tb t w' :=
  h.kept (have hg := h.ge; have hl := h.lt.1; ⟨hb.os, hb.tape, hb.output, hb.size, fun k hk => hb.block k (by omega)⟩) (hb.block R h.lt.1) (fun b hx => hb.block b (h.lt.2 b hx))
/-- What is behind a call that turns the tree. -/
def Turned (base R : Nat) (tb : List Int) (t : N) (raw' : T) (w w' : World) : Prop :=
  ∃ t', Tree base R tb t' w' ∧ t'.raw = raw' ∧ Fr (fun b => b = R ∨ b ∈ t.ids) w w' ∧ ∀ b ∈ t'.ids, b ∈ t.ids ∨ w.heap.size ≤ b
theorem turned_of {base R : Nat} {tb : List Int} {t t' : N} {w w1 : World} {lv : Value} (hT : Tree base R tb t w) (hbl : Blk w R #[t.ptr, lv] 96) (hL : LessS base w lv tb) (hp : Put base t t' w w1)
    (hr : T.Right t'.raw) (he : T.Even t'.raw) : Blk w1 R #[t.ptr, lv] 96 ∧ Turned base R tb t t'.raw w (w1.setCell ⟨R, 0, none⟩ t'.ptr) := by
  have hB1 := hbl.fr hp.fr (fun h => hT.notin h)
  have hf : Fr (fun b => b = R ∨ b ∈ t.ids) w (w1.setCell ⟨R, 0, none⟩ t'.ptr) := (hp.fr.mono (fun k _ hk => .inr hk)).setCell (p := ⟨R, 0, none⟩) (fun _ => .inl rfl) _
  have hR' : R ∉ t'.ids := fun h => by
    rcases hp.ids R h with h | h
    · exact hT.notin h
    · have := hT.lt.1; omega
  have hge := hT.ge
  have hlt := hT.lt.1
  refine ⟨hB1, t', ⟨⟨lv, hB1.set 0 t'.ptr, hL.to (hf.below (by omega) (fun k hk => ?_))⟩, hT.ge, hR', ⟨?_, hp.nodup, fun b hb => ?_, hr, he⟩⟩, rfl, hf, hp.ids⟩
  · rcases hk with rfl | hk
    · exact hge
    · exact hT.good.above k hk
  · exact In.kept hp.mem (fun b hb => Below.heap_setCell _ _ _ _ (fun e => hR' (by have e' : b = R := e; subst e'; exact hb)))
  · rcases hp.ids b hb with h | h
    · exact hT.good.above b h
    · omega
set_option maxHeartbeats 4000000 in
set_option maxRecDepth 100000 in
theorem tPut_any (base R : Nat) (tb : List Int) (t : N) (key val : Int) (w : World) (hT : Tree base R tb t w) (ht : t.raw.tall ≤ 4294950000) :
    Calls Try.prog 60 #[.pointer (some ⟨R, 0, none⟩), .int .i64 key, .int .i64 val] w fun e w' => e = .returned (.tuple #[]) ∧ Turned base R tb t (T.ins (rankOf tb) key val t.raw) w w' := by
  obtain ⟨⟨lv, hB, hL⟩, g, n, G⟩ := hT
  have c0 : w.cell? ⟨R, 0, none⟩ = some t.ptr := hB.cell 0
  have c1 : w.cell? ⟨R, 1, none⟩ = some lv := hB.cell 1
  have hlt := hB.lt
  have HT : Hid (Tree base R tb t w) := ⟨⟨lv, hB, hL⟩, g, n, G⟩
  have HB : Hid (Blk w R #[t.ptr, lv] 96 ∧ LessS base w lv tb ∧ Good base w.drew t ∧ base ≤ w.drew.heap.size ∧ LessS base w.drew lv tb ∧ t.raw.tall ≤ 4294950000) := ⟨hB, hL, G.drew, Nat.le_of_lt (Nat.lt_of_le_of_lt g hlt), hL.drew, ht⟩
  clear hB hL g n G hlt ht
  obtain ⟨q, hq⟩ := t.ptr_some
  have HQ : Hid (t.ptr = .pointer q) := hq
  rw [hq] at c0
  clear hq
  go_enter Try.func60, Try.ntmps60
  refine wp_first_tail (.tmp 0) (some 6) 11 (by kernel_rfl) ⟨rfl, rfl, rfl⟩ (by kernel_rfl) (by kernel_rfl) (by kernel_rfl) (fun _ _ _ h => h) (by kernel_rfl) ?_
  simp only [tied, List.modify_succ_cons, List.modify_zero_cons, List.take_succ_cons, List.take_zero, List.drop_succ_cons, List.drop_zero]
  repeat still_step
  refine wpStill_nil ?_
  go_wp2_with fail
  rw [← HQ.out]
  refine (add_any base tb key val lv t w.drew HB.out.2.2.1 HB.out.2.2.2.2.2 HB.out.2.2.2.1 HB.out.2.2.2.2.1).mono ?_
  rintro e w1 ⟨t', rfl, hraw, hput⟩
  have hput' := hput.of_drew
  have hR := T.right_ins (rankOf tb) key val HB.out.2.2.1.right
  have hE := (T.even_ins (rankOf tb) key val HB.out.2.2.1.right HB.out.2.2.1.even).1
  have HE := hid (turned_of HT.out HB.out.1 HB.out.2.1 hput' (by rw [hraw]; exact hR) (by rw [hraw]; exact hE))
  have d0 : w1.cell? ⟨R, 0, none⟩ = some t.ptr := HE.out.1.cell 0
  have f0 : w1.frozen? ⟨R, 0, none⟩ = false := HE.out.1.free 0
  have HR := hid hraw
  obtain ⟨u, hu⟩ := t'.ptr_some
  rw [hu] at HE ⊢
  clear hraw hput hput' hR hE c0 c1
  go_wp2_with fail
  go_end0
  exact ⟨rfl, HR.out ▸ HE.out.2⟩
set_option maxHeartbeats 4000000 in
set_option maxRecDepth 100000 in
theorem tRemove_any (base R : Nat) (tb : List Int) (t : N) (key : Int) (w : World) (hT : Tree base R tb t w) (ht : t.raw.tall ≤ 4294950000) :
    Calls Try.prog 61 #[.pointer (some ⟨R, 0, none⟩), .int .i64 key] w fun e w' => e = .returned (.tuple #[]) ∧ Turned base R tb t (T.rem (rankOf tb) t.raw key) w w' := by
  obtain ⟨⟨lv, hB, hL⟩, g, n, G⟩ := hT
  have c0 : w.cell? ⟨R, 0, none⟩ = some t.ptr := hB.cell 0
  have c1 : w.cell? ⟨R, 1, none⟩ = some lv := hB.cell 1
  have hlt := hB.lt
  have HT : Hid (Tree base R tb t w) := ⟨⟨lv, hB, hL⟩, g, n, G⟩
  have HB : Hid (Blk w R #[t.ptr, lv] 96 ∧ LessS base w lv tb ∧ Good base w.drew t ∧ base ≤ w.drew.heap.size ∧ LessS base w.drew lv tb ∧ t.raw.tall ≤ 4294950000) := ⟨hB, hL, G.drew, Nat.le_of_lt (Nat.lt_of_le_of_lt g hlt), hL.drew, ht⟩
  clear hB hL g n G hlt ht
  obtain ⟨q, hq⟩ := t.ptr_some
  have HQ : Hid (t.ptr = .pointer q) := hq
  rw [hq] at c0
  clear hq
  go_enter Try.func61, Try.ntmps61
  refine wp_first_tail (.tmp 0) (some 4) 10 (by kernel_rfl) ⟨rfl, rfl, rfl⟩ (by kernel_rfl) (by kernel_rfl) (by kernel_rfl) (fun _ _ _ h => h) (by kernel_rfl) ?_
  simp only [tied, List.modify_succ_cons, List.modify_zero_cons, List.take_succ_cons, List.take_zero, List.drop_succ_cons, List.drop_zero]
  repeat still_step
  refine wpStill_nil ?_
  go_wp2_with fail
  rw [← HQ.out]
  refine (remove_any base tb lv t key w.drew HB.out.2.2.1 HB.out.2.2.2.2.2 HB.out.2.2.2.1 HB.out.2.2.2.2.1).mono ?_
  rintro e w1 ⟨t', rfl, hraw, hput⟩
  have hput' := hput.of_drew
  have hR := T.right_rem (rankOf tb) key HB.out.2.2.1.right HB.out.2.2.1.even
  have hE := (T.even_rem (rankOf tb) key HB.out.2.2.1.right HB.out.2.2.1.even).1
  have HE := hid (turned_of HT.out HB.out.1 HB.out.2.1 hput' (by rw [hraw]; exact hR) (by rw [hraw]; exact hE))
  have d0 : w1.cell? ⟨R, 0, none⟩ = some t.ptr := HE.out.1.cell 0
  have f0 : w1.frozen? ⟨R, 0, none⟩ = false := HE.out.1.free 0
  have HR := hid hraw
  obtain ⟨u, hu⟩ := t'.ptr_some
  rw [hu] at HE ⊢
  clear hraw hput hput' hR hE c0 c1
  go_wp2_with fail
  go_end0
  exact ⟨rfl, HR.out ▸ HE.out.2⟩
/-- What Get tells. -/
def got (tb : List Int) (t : T) (key : Int) : Int × Bool := match T.find (rankOf tb) key t with | none => (0, false) | some p => (p.2, true)
set_option maxHeartbeats 4000000 in
set_option maxRecDepth 100000 in
theorem tGet_any (base R : Nat) (tb : List Int) (t : N) (key : Int) (w : World) (hT : Tree base R tb t w) :
    Calls Try.prog 62 #[.pointer (some ⟨R, 0, none⟩), .int .i64 key] w fun e w' => e = .returned (.tuple #[.int .i64 (got tb t.raw key).1, .bool (got tb t.raw key).2]) ∧ ∃ n, w' = w.drewN n := by
  obtain ⟨⟨lv, hB, hL⟩, g, n, G⟩ := hT
  have c0 : w.cell? ⟨R, 0, none⟩ = some t.ptr := hB.cell 0
  have c1 : w.cell? ⟨R, 1, none⟩ = some lv := hB.cell 1
  have HB : Hid (t.In w.drew ∧ LessS base w.drew lv tb) := ⟨G.mem.drew, hL.drew⟩
  have HF : Hid (T.find (rankOf tb) key t.raw = match N.sub (rankOf tb) key t with | .nil => none | .node _ k v _ _ _ => some (k, v)) := sub_find (rankOf tb) key t
  clear hB hL g n G
  obtain ⟨q, hq⟩ := t.ptr_some
  have HQ : Hid (t.ptr = .pointer q) := hq
  rw [hq] at c0
  clear hq
  go_enter Try.func62, Try.ntmps62
  go_wp2_with fail
  refine still_tail_drew 9 (by kernel_rfl) (by kernel_rfl) ?_
  simp only [List.take_succ_cons, List.take_zero, List.drop_succ_cons, List.drop_zero]
  repeat still_step
  refine wpStill_nil ?_
  go_wp2_with fail
  rw [← HQ.out]
  refine (search_any base tb key lv t w.drew HB.out.1 HB.out.2).mono ?_
  rintro e w1 ⟨rfl, m, rfl⟩
  have HI := hid (sub_in (t := t) (rankOf tb) key HB.out.1)
  generalize N.sub (rankOf tb) key t = s at HI HF ⊢
  cases s with
  | nil =>
    have HG : Hid (got tb t.raw key = (0, false)) := by
      show got tb t.raw key = _
      unfold got
      rw [HF.out]
    clear HF
    rw [show (N.nil).ptr = .pointer none from rfl]
    go_wp2_with fail
    go_ret2
    exact ⟨by rw [HG.out]; rfl, _, rfl⟩
  | node b k v h l r =>
    have HG : Hid (got tb t.raw key = (v, true)) := by
      show got tb t.raw key = _
      unfold got
      rw [HF.out]
    have k1 : w.cell? ⟨b, 1, none⟩ = some (.int .i64 v) := HI.out.1.cell 1
    clear HF
    rw [show (N.node b k v h l r).ptr = .pointer (some ⟨b, 0, none⟩) from rfl]
    go_wp2_with fail
    go_ret2
    exact ⟨by rw [HG.out]; rfl, _, rfl⟩
set_option maxHeartbeats 4000000 in
set_option maxRecDepth 100000 in
theorem tSize_any (base R : Nat) (tb : List Int) (t : N) (w : World) (hT : Tree base R tb t w) (hs : t.raw.size ≤ 4611686018427387) :
    Calls Try.prog 63 #[.pointer (some ⟨R, 0, none⟩)] w fun e w' => e = .returned (.int .i64 t.raw.size) ∧ ∃ n, w' = w.drewN n := by
  obtain ⟨⟨lv, hB, hL⟩, g, n, G⟩ := hT
  have c0 : w.cell? ⟨R, 0, none⟩ = some t.ptr := hB.cell 0
  have HB : Hid (t.In w ∧ t.raw.size ≤ 4611686018427387) := ⟨G.mem, hs⟩
  clear hB hL g n G hs
  obtain ⟨q, hq⟩ := t.ptr_some
  have HQ : Hid (t.ptr = .pointer q) := hq
  rw [hq] at c0
  clear hq
  go_enter Try.func63, Try.ntmps63
  go_wp2_with fail
  rw [← HQ.out]
  refine (size_any t _ HB.out.1 HB.out.2).mono ?_
  rintro e w1 ⟨rfl, m, rfl⟩
  go_wp2_with fail
  go_ret
  exact ⟨rfl, m, rfl⟩
set_option maxHeartbeats 4000000 in
set_option maxRecDepth 100000 in
theorem tHeight_any (base R : Nat) (tb : List Int) (t : N) (w : World) (hT : Tree base R tb t w) :
    Calls Try.prog 66 #[.pointer (some ⟨R, 0, none⟩)] w fun e w' => e = .returned (.int .i64 t.raw.ht) ∧ w' = w := by
  obtain ⟨⟨lv, hB, hL⟩, g, n, G⟩ := hT
  have c0 : w.cell? ⟨R, 0, none⟩ = some t.ptr := hB.cell 0
  have HB : Hid (t.In w) := G.mem
  clear hB hL g n G
  obtain ⟨q, hq⟩ := t.ptr_some
  have HQ : Hid (t.ptr = .pointer q) := hq
  rw [hq] at c0
  clear hq
  go_enter Try.func66, Try.ntmps66
  go_wp2_with fail
  rw [← HQ.out]
  refine (getHeight_any t _ HB.out).mono ?_
  rintro e w1 ⟨rfl, rfl⟩
  go_wp2_with fail
  go_ret
  exact ⟨rfl, rfl⟩
set_option maxHeartbeats 4000000 in
set_option maxRecDepth 100000 in
theorem tEach_any (base R : Nat) (tb : List Int) (t : N) (N0 X : Nat) (val : Int) (okv : Bool) (w : World) (hT : Tree base R tb t w) (hid' : ∀ b ∈ t.ids, b < N0 ∧ b ≠ X) (hA : Acc N0 X val okv [] [] w) (hs : t.raw.size ≤ 1099511627776) :
    Calls Try.prog 64 #[.pointer (some ⟨R, 0, none⟩), cloV X] w fun e w' => e = .returned (.tuple #[]) ∧ Acc N0 X val okv (keys t.raw) (vals t.raw) w' ∧ Fr (fun b => b = X ∨ N0 ≤ b) w w' := by
  obtain ⟨⟨lv, hB, hL⟩, g, n, G⟩ := hT
  have c0 : w.cell? ⟨R, 0, none⟩ = some t.ptr := hB.cell 0
  have HB : Hid (t.In w ∧ (∀ b ∈ t.ids, b < N0 ∧ b ≠ X) ∧ Acc N0 X val okv [] [] w ∧ ((([] : List Int).length : Int)) + t.raw.size ≤ 1099511627776) := ⟨G.mem, hid', hA, by simpa using hs⟩
  clear hB hL g n G hid' hA hs
  obtain ⟨q, hq⟩ := t.ptr_some
  have HQ : Hid (t.ptr = .pointer q) := hq
  rw [hq] at c0
  clear hq
  show Calls Try.prog 64 #[.pointer (some ⟨R, 0, none⟩), .func (.func 65) #[] #[.pointer (some ⟨X, 0, none⟩)]] w _
  go_enter Try.func64, Try.ntmps64
  go_wp2_with fail
  rw [← HQ.out]
  refine (each_any N0 X val okv t [] [] w HB.out.1 HB.out.2.1 HB.out.2.2.1 rfl HB.out.2.2.2).mono ?_
  rintro e w1 ⟨rfl, hA, hF⟩
  have H := hid hA
  have H2 := hid hF
  clear hA hF
  go_wp2_with fail
  go_end0
  exact ⟨rfl, H.out, H2.out⟩
theorem less_any (A : Option Addr) (c : Nat) (tb : List Int) (w : World) (hC : Kd.C (Kd.int .i64) w A tb.length tb) (hn : tb.length ≤ 140737488351232) :
    Calls Try.prog 47 #[.slice A tb.length c] w fun e w' => ∃ lv, e = .returned lv ∧ w' = w.alloc (.cells #[.slice A tb.length c] 24) ∧ LessS w'.heap.size w' lv tb := by
  have HC : Hid (Kd.C (Kd.int .i64) w A tb.length tb ∧ tb.length ≤ 140737488351232) := ⟨hC, hn⟩
  clear hC hn
  go_enter Try.func47, Try.ntmps47
  go_wp2_with fail
  go_ret
  exact ⟨_, rfl, rfl, LessS.of ⟨HC.out.2, w.heap.size, A, c, rfl, Blk.new w _ _, Kd.C_alloc HC.out.1 _⟩⟩
theorem New_any (base : Nat) (tb : List Int) (lv : Value) (w : World) (hL : LessS base w lv tb) (hb : base ≤ w.heap.size) :
    Calls Try.prog 46 #[lv] w fun e w' => ∃ R, e = .returned (.pointer (some ⟨R, 0, none⟩)) ∧ Tree base R tb .nil w' ∧ Below w.heap.size w w' := by
  obtain ⟨_, B, A, c, rfl, _, _⟩ := hL.now
  have HL : Hid (LessS base w (.func (.func 67) #[] #[.pointer (some ⟨B, 0, none⟩)]) tb) := hL
  clear hL
  go_enter Try.func46, Try.ntmps46
  go_wp2_with fail
  go_ret
  exact ⟨w.heap.size, rfl, ⟨⟨_, Blk.new w _ _, HL.out.to ((Below.refl _ _).alloc hb _)⟩, hb, by simp [N.ids], ⟨trivial, List.nodup_nil, fun b h => by simp [N.ids] at h, trivial, trivial⟩⟩, (Below.refl _ _).alloc (Nat.le_refl _) _⟩
end Go.Proofs.Ytjlcebgfknfelaa.Avl

namespace Go.Proofs.Ytjlcebgfknfelaa.Bt
open Go Go.RowKit Go.IntWalk Go.Proofs.Ytjlcebgfknfelaa.Hk Go.Proofs.Ytjlcebgfknfelaa.BtPure Go.Proofs.Ytjlcebgfknfelaa.Less Go.Proofs.YtjlcebgfknfelaaW.PrintWords Go.Proofs.YtjlcebgfknfelaaW.PrintLast Go.Proofs.YtjlcebgfknfelaaW.PrintMore
open Go.Proofs.Ytjlcebgfknfelaa.Avl (LessS Acc)
theorem insL_there {r : Int → Int} {k v : Int} {ok : Bool} : ∀ {es : List E}, Up r es → findL r k es ≠ none → (insL r k v ok es).length = es.length
  | [], _, h => absurd rfl h
  | e :: es, hu, h => by
    obtain ⟨h1, h2⟩ := List.pairwise_cons.1 hu
    unfold findL at h
    rw [insL]
    by_cases q : r k = r e.1
    · rw [if_pos q]; rfl
    · rw [List.find?_cons_of_neg (by simpa using q)] at h
      rw [if_neg q]
      by_cases q2 : r k < r e.1
      · refine absurd (List.find?_eq_none.2 (fun x hx => ?_)) h
        have := h1 x hx
        simp; omega
      · rw [if_neg q2, List.length_cons, List.length_cons, insL_there h2 h]
theorem insC_len {α : Type} {r : Int → Int} {f : α → α × Option α} {fst : α → Int} (k : Int) : ∀ {cs : List (Int × α)} {t : α}, pick r k cs = some t → (f t).2 = none → (insC r f fst k cs).length = cs.length
  | [], _, h, _ => by simp [pick] at h
  | [c], t, h, hn => by
    obtain rfl : c.2 = t := by simpa [pick] using h
    simp [insC, hn]
  | c :: c' :: l, t, h, hn => by
    rw [pick] at h
    rw [insC]
    split at h
    · rename_i q
      obtain rfl := Option.some.inj h
      rw [if_pos q, hn]
      simp
    · rename_i q
      rw [if_neg q, List.length_cons, List.length_cons, insC_len k h hn]
theorem ins_none {r : Int → Int} {k v : Int} {ok : Bool} : ∀ {h : Nat} {t : T h}, Row r h t → T.len h t ≤ 63 → T.find r k h t ≠ none → (T.ins r k v ok h t).2 = none
  | 0, es, hR, hl, hf => by
    have h1 := insL_there (v := v) (ok := ok) hR hf
    show (cutL (insL r k v ok es)).2 = none
    have hl' : es.length ≤ 63 := hl
    rw [cut_small (by omega)]
  | h + 1, (cs : List (Int × T h)), hR, hl, hf => by
    have hf' : (pick r k cs).bind (fun t => T.find r k h t) ≠ none := hf
    have hl' : List.length cs ≤ 63 := hl
    cases hp : pick r k cs with
    | none => rw [hp] at hf'; exact absurd rfl hf'
    | some t =>
      rw [hp] at hf'
      have hm : ∃ c ∈ (cs : List (Int × T h)), c.2 = t := by
        have hne : (cs : List (Int × T h)) ≠ [] := fun e => by rw [e] at hp; simp [pick] at hp
        obtain ⟨c, hc, e⟩ := pick_some (r := r) (k := k) hne
        rw [e] at hp
        exact ⟨c, hc, Option.some.inj hp⟩
      obtain ⟨c, hc, rfl⟩ := hm
      have hP := hR.1 c hc
      have ih := ins_none (v := v) (ok := ok) hP.1 hP.2.1 hf'
      show (cutL (insC r (T.ins r k v ok h) (T.first h) k cs)).2 = none
      rw [cut_small (by rw [insC_len k hp ih]; omega)]
structure M where
  h : Nat
  t : N h
def M.ids (m : M) : List Nat := N.ids m.h m.t
def M.raw (m : M) : List E := T.flat m.h (N.raw m.h m.t)
def M.blk (m : M) : Nat := N.blk m.h m.t
structure Tree (base R : Nat) (tb : List Int) (m : M) (w : World) : Prop where
  blk : ∃ n lv, Blk w R #[.pointer (some ⟨m.blk, 0, none⟩), .int .i64 m.h, .int .i64 n, lv] 115 ∧ LessS base w lv tb
  ge : base ≤ R
  notin : R ∉ m.ids
  good : Good base tb w m.t
theorem fit_row {r : Int → Int} : ∀ {h : Nat} {t : N h}, Row r h (N.raw h t) → T.len h (N.raw h t) ≤ 63 → (h ≠ 0 → 1 ≤ T.len h (N.raw h t)) → N.Fit h t
  | 0, _, _, hl, _ => hl
  | h + 1, (b, cs), hR, hl, h1 => by
    have hl' : (cs.map rawC).length ≤ 63 := hl
    have h1' : 1 ≤ (cs.map rawC).length := h1 (by omega)
    rw [List.length_map] at hl' h1'
    refine ⟨hl', h1', fun c hc => ?_⟩
    have hp : Part r (rawC c) := hR.1 (rawC c) (List.mem_map.2 ⟨c, hc, rfl⟩)
    exact fit_row hp.1 hp.2.1 (fun _ => hp.2.2)
theorem Good.fit {base : Nat} {tb : List Int} {w : World} {h : Nat} {t : N h} (G : Good base tb w t) : N.Fit h t := fit_row G.row G.len G.one
theorem Good.kept {base : Nat} {tb : List Int} {w w' : World} {h : Nat} {t : N h} (G : Good base tb w t) (hk : ∀ b ∈ N.ids h t, w'.heap[b]? = w.heap[b]?) : Good base tb w' t := ⟨G.mem.kept hk, G.nodup, G.above, G.row, G.len, G.one⟩
theorem Tree.kept {base R : Nat} {tb : List Int} {m : M} {w w' : World} (h : Tree base R tb m w) (hb : Below base w w') (hR : w'.heap[R]? = w.heap[R]?) (hk : ∀ b ∈ m.ids, w'.heap[b]? = w.heap[b]?) : Tree base R tb m w' := by
  obtain ⟨⟨n, lv, B, L⟩, g, ni, G⟩ := h
  exact ⟨⟨n, lv, hR.trans B, L.to hb⟩, g, ni, G.kept hk⟩
theorem Tree.lt {base R : Nat} {tb : List Int} {m : M} {w : World} (h : Tree base R tb m w) : R < w.heap.size ∧ ∀ b ∈ m.ids, b < w.heap.size := by
  obtain ⟨⟨n, lv, B, L⟩, g, ni, G⟩ := h
  exact ⟨B.lt, fun b hb => G.mem.lt b hb⟩
theorem Tree.below {base R : Nat} {tb : List Int} {m : M} {w w' : World} (h : Tree base R tb m w) (hb : Below w.heap.size w w') : Tree base R tb m w' :=
  h.kept (have hg := h.ge; have hl := h.lt.1; ⟨hb.os, hb.tape, hb.output, hb.size, fun k hk => hb.block k (by omega)⟩) (hb.block R h.lt.1) (fun b hx => hb.block b (h.lt.2 b hx))
/-- What is behind a call that turns the tree. -/
def Turned (base R : Nat) (tb : List Int) (m : M) (raw' : List E) (w w' : World) : Prop :=
  ∃ m', Tree base R tb m' w' ∧ m'.raw = raw' ∧ m'.h ≤ m.h + 1 ∧ Fr (fun b => b = R ∨ b ∈ m.ids) w w' ∧ ∀ b ∈ m'.ids, b ∈ m.ids ∨ w.heap.size ≤ b
section
variable {base R : Nat} {tb : List Int} {key val : Int} {ok : Bool} {w w1 w' : World} {h : Nat} {t t' u : N h}
theorem Out.good (G : Good base tb w t) (hb : base ≤ w.heap.size) (O : Out tb key val ok t t' none w w') : Good base tb w' t' ∧ T.flat h (N.raw h t') = insL (rankOf tb) key val ok (T.flat h (N.raw h t)) := by
  have hm := ins_made (k := key) (v := val) (ok := ok) G.row G.len G.one
  have hr := O.raw
  rw [← hr] at hm
  have hn := O.nodup
  simp only [uids, List.append_nil] at hn
  exact ⟨⟨O.mem, hn, fun b hb' => by
    rcases O.ids b (List.mem_append_left _ hb') with h1 | h1
    · exact G.above b h1
    · omega, hm.one.1, hm.one.2.1, fun _ => hm.one.2.2⟩, hm.none_ rfl⟩
/-- Two parts under a new root. -/
theorem Out.two (G : Good base tb w t) (hb : base ≤ w.heap.size) (O : Out tb key val ok t t' (some u) w w') {W : World} {c : Nat} {g : Nat → Q} (hf : Fr (· = R) w' W) (hRn : R ∉ N.ids h t' ++ N.ids h u) (hc : w'.heap.size ≤ c) (hN : Nd W c 2 g)
    (h0 : Rep1 (g 0) (T.first h (N.raw h t'), t')) (h1 : Rep1 (g 1) (T.first h (N.raw h u), u)) :
    Good base tb W (h := h + 1) ((c, [(T.first h (N.raw h t'), t'), (T.first h (N.raw h u), u)]) : Nat × List (Int × N h)) ∧
      T.flat (h + 1) (N.raw (h + 1) ((c, [(T.first h (N.raw h t'), t'), (T.first h (N.raw h u), u)]) : Nat × List (Int × N h))) = insL (rankOf tb) key val ok (T.flat h (N.raw h t)) := by
  have hm := ins_made (k := key) (v := val) (ok := ok) G.row G.len G.one
  have hr := O.raw
  rw [← hr] at hm
  obtain ⟨s1, s2, s3, s4⟩ := hm.some_ (N.raw h u) rfl
  have hn : (N.ids h t' ++ N.ids h u).Nodup := O.nodup
  have i1 : N.In W h t' := O.mem.fr hf (fun b hb' e => hRn (by rw [← e]; exact List.mem_append_left _ hb'))
  have i2 : N.In W h u := (O.memu u rfl).fr hf (fun b hb' e => hRn (by rw [← e]; exact List.mem_append_right _ hb'))
  have lt : ∀ b ∈ N.ids h t' ++ N.ids h u, b < w'.heap.size := fun b hb' => by
    rcases List.mem_append.1 hb' with hb' | hb'
    · exact O.mem.lt b hb'
    · exact (O.memu u rfl).lt b hb'
  have eids : N.ids (h + 1) ((c, [(T.first h (N.raw h t'), t'), (T.first h (N.raw h u), u)]) : Nat × List (Int × N h)) = c :: (N.ids h t' ++ N.ids h u) := by
    show c :: fids _ = _
    rw [fids_cons, fids_cons]
    simp [fids]
  refine ⟨⟨⟨⟨g, hN, fun i x hx => ?_⟩, fun d hd => ?_⟩, ?_, fun b hb' => ?_, ⟨fun d hd => ?_, ⟨s3, s4, trivial⟩⟩, by show 2 ≤ 63; omega, fun _ => by show 1 ≤ 2; omega⟩, ?_⟩
  · match i, hx with
    | 0, hx => obtain rfl := Option.some.inj hx; exact h0
    | 1, hx => obtain rfl := Option.some.inj hx; exact h1
    | _ + 2, hx => simp at hx
  · simp only [List.mem_cons, List.not_mem_nil, or_false] at hd
    rcases hd with rfl | rfl
    · exact i1
    · exact i2
  · rw [eids]
    exact List.nodup_cons.2 ⟨fun h => by have := lt c h; omega, hn⟩
  · rw [eids] at hb'
    have hs := O.fr.size
    rcases List.mem_cons.1 hb' with rfl | hb'
    · omega
    · rcases O.ids b hb' with h1 | h1
      · exact G.above b h1
      · omega
  · simp only [N.raw, List.map_cons, List.map_nil, List.mem_cons, List.not_mem_nil, or_false] at hd
    rcases hd with rfl | rfl
    · exact hm.one
    · exact s1
  · rw [← s2]
    show flatC [(T.first h (N.raw h t'), N.raw h t'), (T.first h (N.raw h u), N.raw h u)] = _
    rw [flatC_cons, flatC_cons]
    simp [flatC]
end
def get1.T : Bool × List (List Nat × List Nat) := (true, [([], []), ([], []), ([1], [1]), ([2], [2]), ([3], [3]), ([], []), ([], []), ([6], [6]), ([7], [7]), ([8], [8]), ([0, 4, 5, 9], [0, 4, 5, 9]), ([10], [10]), ([10], [10]), ([11, 10, 0, 1, 2, 3, 4, 5, 6, 7, 8, 9, 10, 11, 12], [11]), ([12, 13, 0, 1, 2, 3, 4, 5, 6, 7, 8, 9, 10, 11, 12, 13], [12])])
def get1.B : List Nat := [0, 0, 2, 6, 14, 0, 0, 64, 192, 448, 1023, 2047, 2047, 8191, 16383]
theorem get1.tab : rtab .any (opsOf Try.f74 1) = get1.T := by kernel_rfl
theorem get1.bits : waitsOk get1.T.2 get1.B = true := by kernel_rfl
set_option maxHeartbeats 4000000 in
set_option maxRecDepth 100000 in
theorem tGet_any (base R : Nat) (tb : List Int) (m : M) (key : Int) (w : World) (hT : Tree base R tb m w) (hh : m.h ≤ 1099511627776) :
    Calls Try.prog 74 #[.pointer (some ⟨R, 0, none⟩), .int .i64 key] w fun e w' => e = .returned (.tuple #[.int .i64 (tell (findL (rankOf tb) key m.raw)).1, .bool (tell (findL (rankOf tb) key m.raw)).2]) ∧ Below w.heap.size w w' := by
  obtain ⟨⟨n, lv, hB, hL⟩, g, ni, G⟩ := hT
  obtain ⟨h, t⟩ := m
  have hFF := find_flat (k := key) G.row
  have HF : Hid (findL (rankOf tb) key (T.flat h (N.raw h t)) = T.find (rankOf tb) key h (N.raw h t)) := hFF.symm
  have c0 : w.cell? ⟨R, 0, none⟩ = some (.pointer (some ⟨N.blk h t, 0, none⟩)) := hB.cell 0
  have c1 : w.cell? ⟨R, 1, none⟩ = some (.int .i64 h) := hB.cell 1
  have HB := hid (And.intro hB hL)
  have HG := hid G
  have HZ : Hid (base ≤ w.heap.size ∧ h ≤ 1099511627776) := ⟨by have := hB.lt; omega, hh⟩
  clear hB hL g ni G hFF hh
  show Calls Try.prog 74 #[.pointer (some ⟨R, 0, none⟩), .int .i64 key] w fun e w' => e = .returned (.tuple #[.int .i64 (tell (findL (rankOf tb) key (T.flat h (N.raw h t)))).1, .bool (tell (findL (rankOf tb) key (T.flat h (N.raw h t)))).2]) ∧ Below w.heap.size w w'
  rw [HF.out]
  go_enter Try.func74, Try.ntmps74
  go_upto_region 1 with fail
  refine start_ (n := 15) (S := fun w' => w'.cell? ⟨R, 0, none⟩ = some (.pointer (some ⟨N.blk h t, 0, none⟩)) ∧ w'.cell? ⟨R, 1, none⟩ = some (.int .i64 h)) (ds := [10]) #[false, false, false, false, false, false, false, false, false, false, false, false, false, false, false] (by kernel_rfl) rfl rfl ⟨c0, c1⟩ (fun hHeld => ?_)
  refine with_tabW get1.tab get1.bits (fun HT_ HW_ => ?_)
  refine pure_ (i := 0) (N := some 6) (v := ?_) (a' := ?_) #[true, false, false, false, false, false, false, false, false, false, false, false, false, false, false] rfl rfl (any_of HT_.out (by kernel_rfl)) (fun _ _ _ h => h) (Or.inl ⟨by rfl, ?_⟩) ?_ ?_
  rotate_left
  · intro w'
    go_simp
    with_reducible rfl
  rotate_left
  · simp only [Act.put, List.setIfInBounds_toArray, List.set_cons_zero, List.set_cons_succ]
    rfl
  refine pure_ (i := 1) (N := some 7) (v := ?_) (a' := ?_) #[true, true, false, false, false, false, false, false, false, false, false, false, false, false, false] rfl rfl (any_of HT_.out (by kernel_rfl)) (fun _ _ _ h => h) (Or.inl ⟨by rfl, ?_⟩) ?_ ?_
  rotate_left
  · intro w'
    go_simp
    with_reducible rfl
  rotate_left
  · simp only [Act.put, List.setIfInBounds_toArray, List.set_cons_zero, List.set_cons_succ]
    rfl
  refine pure_ (i := 2) (N := some 8) (v := ?_) (a' := ?_) #[true, true, true, false, false, false, false, false, false, false, false, false, false, false, false] rfl rfl (any_of HT_.out (by kernel_rfl)) (fun _ _ _ h => h) (Or.inl ⟨by rfl, ?_⟩) ?_ ?_
  rotate_left
  · intro w'
    go_simp
    with_reducible rfl
  rotate_left
  · simp only [Act.put, List.setIfInBounds_toArray, List.set_cons_zero, List.set_cons_succ]
    rfl
  refine pure_ (i := 3) (N := some 9) (v := ?_) (a' := ?_) #[true, true, true, true, false, false, false, false, false, false, false, false, false, false, false] rfl rfl (any_of HT_.out (by kernel_rfl)) (fun _ _ _ h => h) (Or.inl ⟨by rfl, ?_⟩) ?_ ?_
  rotate_left
  · intro w'
    go_simp
    with_reducible rfl
  rotate_left
  · simp only [Act.put, List.setIfInBounds_toArray, List.set_cons_zero, List.set_cons_succ]
    rfl
  refine take_ (i := 4) (N := some 10) (v := ?_) (a' := ?_) #[true, true, true, true, true, false, false, false, false, false, false, false, false, false, false] rfl rfl (take_ofW HT_.out HW_.out (by kernel_rfl)) (fun _ _ _ h => h) (Or.inl ⟨by rfl, ?_⟩) hHeld ?_ ?_
  rotate_left
  · intro w' s0
    obtain ⟨s1, s2⟩ := s0
    go_simp
    with_reducible rfl
  rotate_left
  · simp only [Act.put, List.setIfInBounds_toArray, List.set_cons_zero, List.set_cons_succ]
    rfl
  refine pure_ (i := 5) (N := some 11) (v := ?_) (a' := ?_) #[true, true, true, true, true, true, false, false, false, false, false, false, false, false, false] rfl rfl (any_of HT_.out (by kernel_rfl)) (fun _ _ _ h => h) (Or.inl ⟨by rfl, ?_⟩) ?_ ?_
  rotate_left
  · intro w'
    go_simp
    with_reducible rfl
  rotate_left
  · simp only [Act.put, List.setIfInBounds_toArray, List.set_cons_zero, List.set_cons_succ]
    rfl
  refine pure_ (i := 6) (N := some 12) (v := ?_) (a' := ?_) #[true, true, true, true, true, true, true, false, false, false, false, false, false, false, false] rfl rfl (any_of HT_.out (by kernel_rfl)) (fun _ _ _ h => h) (Or.inl ⟨by rfl, ?_⟩) ?_ ?_
  rotate_left
  · intro w'
    go_simp
    with_reducible rfl
  rotate_left
  · simp only [Act.put, List.setIfInBounds_toArray, List.set_cons_zero, List.set_cons_succ]
    rfl
  refine pure_ (i := 7) (N := some 13) (v := ?_) (a' := ?_) #[true, true, true, true, true, true, true, true, false, false, false, false, false, false, false] rfl rfl (any_of HT_.out (by kernel_rfl)) (fun _ _ _ h => h) (Or.inl ⟨by rfl, ?_⟩) ?_ ?_
  rotate_left
  · intro w'
    go_simp
    with_reducible rfl
  rotate_left
  · simp only [Act.put, List.setIfInBounds_toArray, List.set_cons_zero, List.set_cons_succ]
    rfl
  refine pure_ (i := 8) (N := some 14) (v := ?_) (a' := ?_) #[true, true, true, true, true, true, true, true, true, false, false, false, false, false, false] rfl rfl (any_of HT_.out (by kernel_rfl)) (fun _ _ _ h => h) (Or.inl ⟨by rfl, ?_⟩) ?_ ?_
  rotate_left
  · intro w'
    go_simp
    with_reducible rfl
  rotate_left
  · simp only [Act.put, List.setIfInBounds_toArray, List.set_cons_zero, List.set_cons_succ]
    rfl
  refine take_ (i := 9) (N := some 15) (v := ?_) (a' := ?_) #[true, true, true, true, true, true, true, true, true, true, false, false, false, false, false] rfl rfl (take_ofW HT_.out HW_.out (by kernel_rfl)) (fun _ _ _ h => h) (Or.inl ⟨by rfl, ?_⟩) hHeld ?_ ?_
  rotate_left
  · intro w' s0
    obtain ⟨s1, s2⟩ := s0
    go_simp
    with_reducible rfl
  rotate_left
  · simp only [Act.put, List.setIfInBounds_toArray, List.set_cons_zero, List.set_cons_succ]
    rfl
  refine last_ (i := 10) (N := some 16) #[true, true, true, true, true, true, true, true, true, true, true, false, false, false, false] rfl rfl (one_of HT_.out (by kernel_rfl)) (by decide) (fun K_ hK => ?_)
  refine call_ (N := some 16) 93 #[.pointer (some ⟨R, 0, none⟩), .pointer (some ⟨N.blk h t, 0, none⟩), .int .i64 key, .int .i64 h] (by rfl) rfl (by go_simp) ?_
  have HCall_ := search_any base R tb key n h _ lv h t w.drew (HG.out.mem.kept (fun _ _ => rfl)) HG.out.fit HB.out.1 (HB.out.2.drewN 1) HZ.out.1 HZ.out.2
  refine HCall_.mono ?_
  clear HCall_
  rintro e w1 ⟨rfl, hb⟩
  have HB1 := hid hb
  clear hb hHeld
  refine ⟨_, rfl, ?_⟩
  refine hK.out _ _ ?_
  clear hK K_
  refine norm_ (a' := ?_) ?_ ?_
  rotate_left
  · show Act.put _ (some 16) _ = _
    simp only [Act.put, List.setIfInBounds_toArray, List.set_cons_zero, List.set_cons_succ]
    rfl
  refine pure_ (i := 11) (N := some 17) (v := ?_) (a' := ?_) #[true, true, true, true, true, true, true, true, true, true, true, true, false, false, false] rfl rfl (any_of HT_.out (by kernel_rfl)) (fun _ _ _ h => h) (Or.inl ⟨by rfl, ?_⟩) ?_ ?_
  rotate_left
  · intro w'
    go_simp
    with_reducible rfl
  rotate_left
  · simp only [Act.put, List.setIfInBounds_toArray, List.set_cons_zero, List.set_cons_succ]
    rfl
  refine pure_ (i := 12) (N := some 18) (v := ?_) (a' := ?_) #[true, true, true, true, true, true, true, true, true, true, true, true, true, false, false] rfl rfl (any_of HT_.out (by kernel_rfl)) (fun _ _ _ h => h) (Or.inl ⟨by rfl, ?_⟩) ?_ ?_
  rotate_left
  · intro w'
    go_simp
    with_reducible rfl
  rotate_left
  · simp only [Act.put, List.setIfInBounds_toArray, List.set_cons_zero, List.set_cons_succ]
    rfl
  refine pure_ (i := 13) (N := some 4) (v := ?_) (a' := ?_) #[true, true, true, true, true, true, true, true, true, true, true, true, true, true, false] rfl rfl (any_of HT_.out (by kernel_rfl)) (fun _ _ _ h => h) (Or.inl ⟨by rfl, ?_⟩) ?_ ?_
  rotate_left
  · intro w'
    go_simp
    with_reducible rfl
  rotate_left
  · simp only [Act.put, List.setIfInBounds_toArray, List.set_cons_zero, List.set_cons_succ]
    rfl
  refine pure_ (i := 14) (N := some 5) (v := ?_) (a' := ?_) #[true, true, true, true, true, true, true, true, true, true, true, true, true, true, true] rfl rfl (any_of HT_.out (by kernel_rfl)) (fun _ _ _ h => h) (Or.inl ⟨by rfl, ?_⟩) ?_ ?_
  rotate_left
  · intro w'
    go_simp
    with_reducible rfl
  rotate_left
  · simp only [Act.put, List.setIfInBounds_toArray, List.set_cons_zero, List.set_cons_succ]
    rfl
  refine done_ (done_of HT_.out (by kernel_rfl)) ?_
  clear HT_ HW_
  go_wp2_with fail
  go_ret2
  exact ⟨rfl, ⟨HB1.out.os, HB1.out.tape, HB1.out.output, HB1.out.size, HB1.out.block⟩⟩
set_option maxHeartbeats 4000000 in
set_option maxRecDepth 100000 in
theorem tEach_any (base R : Nat) (tb : List Int) (m : M) (N0 X : Nat) (val : Int) (okv : Bool) (w : World) (hT : Tree base R tb m w) (hid' : ∀ b ∈ m.ids, b < N0 ∧ b ≠ X) (hA : Acc N0 X val okv [] [] w) (hs : m.raw.length ≤ 1099511627776) (hh : m.h ≤ 1099511627776) :
    Calls Try.prog 75 #[.pointer (some ⟨R, 0, none⟩), cloV X] w fun e w' => e = .returned (.tuple #[]) ∧ Acc N0 X val okv (keysV m.raw) (valsV m.raw) w' ∧ Fr (fun b => b = X ∨ N0 ≤ b) w w' := by
  obtain ⟨⟨n, lv, hB, hL⟩, g, ni, G⟩ := hT
  obtain ⟨h, t⟩ := m
  have c0 : w.cell? ⟨R, 0, none⟩ = some (.pointer (some ⟨N.blk h t, 0, none⟩)) := hB.cell 0
  have c1 : w.cell? ⟨R, 1, none⟩ = some (.int .i64 h) := hB.cell 1
  have HG := hid G
  have HB : Hid ((∀ b ∈ N.ids h t, b < N0 ∧ b ≠ X) ∧ Acc N0 X val okv [] [] w ∧ ([] : List Int).length + (T.flat h (N.raw h t)).length ≤ 1099511627776 ∧ h ≤ 1099511627776) := ⟨hid', hA, by rw [List.length_nil, Nat.zero_add]; exact hs, hh⟩
  clear hB hL g ni G hid' hA hs hh
  show Calls Try.prog 75 #[.pointer (some ⟨R, 0, none⟩), .func (.func 76) #[] #[.pointer (some ⟨X, 0, none⟩)]] w fun e w' => e = .returned (.tuple #[]) ∧ Acc N0 X val okv (keysV (T.flat h (N.raw h t))) (valsV (T.flat h (N.raw h t))) w' ∧ Fr (fun b => b = X ∨ N0 ≤ b) w w'
  go_enter Try.func75, Try.ntmps75
  go_wp2_with fail
  refine wp_first_tail (.tmp 0) (some 4) 10 (by kernel_rfl) ⟨rfl, rfl, rfl⟩ (by kernel_rfl) (by kernel_rfl) (by kernel_rfl) (fun _ _ _ h => h) (by kernel_rfl) ?_
  simp only [tied, List.modify_succ_cons, List.modify_zero_cons, List.take_succ_cons, List.take_zero, List.drop_succ_cons, List.drop_zero]
  repeat still_step
  refine wpStill_nil ?_
  go_wp2_with fail
  refine (each_any N0 X R val okv h t [] [] w.drew (HG.out.mem.kept (fun _ _ => rfl)) HG.out.fit HB.out.1 HB.out.2.1.drew rfl HB.out.2.2.1 HB.out.2.2.2).mono ?_
  rintro e w1 ⟨rfl, hA, hF⟩
  have H := hid hA
  have H2 : Hid (Fr (fun b => b = X ∨ N0 ≤ b) w w1) := hid ⟨hF.os, hF.tape, hF.output, hF.size, hF.block⟩
  clear hA hF
  go_wp2_with fail
  go_end0
  exact ⟨rfl, H.out, H2.out⟩
end Go.Proofs.Ytjlcebgfknfelaa.Bt

namespace Go.Proofs.Ytjlcebgfknfelaa.Bt
open Go Go.RowKit Go.IntWalk Go.Proofs.Ytjlcebgfknfelaa.Hk Go.Proofs.Ytjlcebgfknfelaa.BtPure Go.Proofs.Ytjlcebgfknfelaa.Less Go.Proofs.YtjlcebgfknfelaaW.PrintWords Go.Proofs.YtjlcebgfknfelaaW.PrintLast Go.Proofs.YtjlcebgfknfelaaW.PrintMore
open Go.Proofs.Ytjlcebgfknfelaa.Avl (LessS Acc)
theorem Nd.newm (w : World) (m : Int) : Nd (w.alloc (.cells (Try.zeroCells113.setIfInBounds 0 (.int .i64 m)) 113)) w.heap.size m (fun _ => q0) := by
  rw [zero_cells, cells_setm]
  exact Blk.new w _ _
theorem dr_fr {S : Nat → Prop} {a w : World} (h : Fr S a.drew w) : Fr S a w := ⟨h.os, h.tape, h.output, h.size, h.block⟩
section
variable {base R : Nat} {tb : List Int} {key val : Int} {ok : Bool} {w w1 W : World} {h : Nat} {t t' u : N h}
/-- The tree behind an insertion that has told nothing, and whatever has been stored into its own variable's cells. -/
theorem put_none {n n' : Int} {lv : Value} (hT : Tree base R tb ⟨h, t⟩ w) (hbl : Blk w R #[.pointer (some ⟨N.blk h t, 0, none⟩), .int .i64 h, .int .i64 n, lv] 115) (hL : LessS base w lv tb) (O : Out tb key val ok t t' none w w1) :
    Turned base R tb ⟨h, t⟩ (insL (rankOf tb) key val ok (T.flat h (N.raw h t))) w (w1.setCell ⟨R, 2, none⟩ (.int .i64 n')) := by
  have hlt := hT.lt.1
  have hb : base ≤ w.heap.size := Nat.le_of_lt (Nat.lt_of_le_of_lt hT.ge hlt)
  have hni : R ∉ N.ids h t := hT.notin
  have hR' : R ∉ N.ids h t' := fun hm => by
    rcases O.ids R (List.mem_append_left _ hm) with h1 | h1
    · exact hni h1
    · omega
  obtain ⟨G', hflat⟩ := O.good hT.good hb
  have hB1 : Blk w1 R _ 115 := hbl.fr O.fr hni
  have hf : Fr (fun b => b = R ∨ b ∈ N.ids h t) w (w1.setCell ⟨R, 2, none⟩ (.int .i64 n')) := (O.fr.mono (fun k _ hk => .inr hk)).setCell (p := ⟨R, 2, none⟩) (fun _ => .inl rfl) _
  refine ⟨⟨h, t'⟩, ⟨⟨n', lv, ?_, hL.to (hf.below hb (fun k hk => ?_))⟩, hT.ge, hR', G'.kept (fun b hb' => Below.heap_setCell _ _ _ _ (fun e => hR' (by have e' : b = R := e; rw [← e']; exact hb')))⟩, hflat, Nat.le_succ _, hf, fun b hb' => O.ids b (List.mem_append_left _ hb')⟩
  · have := hB1.set 2 (.int .i64 n')
    rw [← O.blk] at this
    exact this
  · rcases hk with rfl | hk
    · exact hT.ge
    · exact hT.good.above k hk
end
set_option maxHeartbeats 8000000 in
set_option maxRecDepth 100000 in
theorem tPut_any (base R : Nat) (tb : List Int) (m : M) (key val : Int) (w : World) (hT : Tree base R tb m w) (hh : m.h ≤ 1099511627775) :
    Calls Try.prog 72 #[.pointer (some ⟨R, 0, none⟩), .int .i64 key, .int .i64 val] w fun e w' => e = .returned (.tuple #[]) ∧ Turned base R tb m (insL (rankOf tb) key val true m.raw) w w' := by
  have HT := hid hT
  obtain ⟨⟨n, lv, hB, hL⟩, g, ni, G⟩ := hT
  obtain ⟨h, t⟩ := m
  have c0 : w.cell? ⟨R, 0, none⟩ = some (.pointer (some ⟨N.blk h t, 0, none⟩)) := hB.cell 0
  have c1 : w.cell? ⟨R, 1, none⟩ = some (.int .i64 h) := hB.cell 1
  have HB := hid (And.intro hB hL)
  have HG := hid G
  have HNI : Hid (R ∉ N.ids h t) := ni
  have HZ : Hid (base ≤ w.heap.size ∧ h ≤ 1099511627775) := ⟨by have := hB.lt; omega, hh⟩
  clear hB hL g ni G hh
  go_enter Try.func72, Try.ntmps72
  go_wp2_with fail
  refine wp_first_tail (.tmp 0) (some 8) 11 (by kernel_rfl) ⟨rfl, rfl, rfl⟩ (by kernel_rfl) (by kernel_rfl) (by kernel_rfl) (fun _ _ _ h => h) (by kernel_rfl) ?_
  simp only [tied, List.modify_succ_cons, List.modify_zero_cons, List.take_succ_cons, List.take_zero, List.drop_succ_cons, List.drop_zero]
  repeat still_step
  refine wpStill_nil ?_
  go_wp2_with fail
  refine (insert_any base R tb key val n h true _ lv h t w.drew (HG.out.kept (fun _ _ => rfl)) HB.out.1 HNI.out (HB.out.2.drewN 1) HZ.out.1 (by have := HZ.out.2; omega)).mono ?_
  rintro e w1 ⟨t', u, rfl, O⟩
  have HO : Hid (Out tb key val true t t' u w w1) := ⟨O.raw, O.blk, O.mem, O.memu, O.nodup, O.ids, dr_fr O.fr⟩
  have HB1 : Hid (Blk w1 R #[.pointer (some ⟨N.blk h t, 0, none⟩), .int .i64 h, .int .i64 n, lv] 115) := hid (HB.out.1.fr HO.out.fr HNI.out)
  clear O c0 c1
  have c2 : w1.cell? ⟨R, 2, none⟩ = some (.int .i64 n) := HB1.out.cell 2
  have f2 : w1.frozen? ⟨R, 2, none⟩ = false := HB1.out.free 2
  cases u with
  | none =>
    rw [show uptr (none : Option (N h)) = .pointer none from rfl]
    go_wp2_with fail
    (try simp only [Exit.inBlock, Exit.then]); refine bodyPost_ret (results_none rfl _ _ _) rfl ?_
    exact ⟨rfl, put_none HT.out HB.out.1 HB.out.2 HO.out⟩
  | some u =>
    rw [show uptr (some u) = .pointer (some ⟨N.blk h u, 0, none⟩) from rfl]
    have hd1 : 1 ≤ T.len h (N.raw h t') ∧ 1 ≤ T.len h (N.raw h u) := by
      have hm := ins_made (k := key) (v := val) (ok := true) HG.out.row HG.out.len HG.out.one
      have hr := HO.out.raw
      rw [← hr] at hm
      exact ⟨hm.one.2.2, (hm.some_ (N.raw h u) rfl).1.2.2⟩
    have HD1 := hid hd1
    have hRn : R ∉ N.ids h t' ++ N.ids h u := fun hm => by
      rcases HO.out.ids R hm with h1 | h1
      · exact HNI.out h1
      · have := HT.out.lt.1; omega
    have HRN := hid hRn
    clear hd1 hRn
    go_upto_region 3 with fail
    have HB2 : Hid (Blk (w1.setCell ⟨R, 2, none⟩ (.int .i64 (wrap64 (n + 1)))) R #[.pointer (some ⟨N.blk h t, 0, none⟩), .int .i64 h, .int .i64 (wrap64 (n + 1)), lv] 115) := hid (HB1.out.set 2 _)
    have HF2 : Hid (Fr (· = R) w1 (w1.setCell ⟨R, 2, none⟩ (.int .i64 (wrap64 (n + 1))))) := hid (Fr.setCell (S := (· = R)) (Fr.refl _ _) (p := ⟨R, 2, none⟩) (fun _ => rfl) _)
    clear c2 f2
    obtain ⟨n1, hn1⟩ : ∃ n1, wrap64 (n + 1) = n1 := ⟨_, rfl⟩
    rw [hn1] at HB2 HF2 ⊢
    generalize w1.setCell ⟨R, 2, none⟩ (.int .i64 n1) = W2 at HB2 HF2 ⊢
    go_upto_region 4 with fail
    have HN3 := hid (Nd.newm W2 2)
    have HB3 := hid (HB2.out.alloc (.cells (Try.zeroCells113.setIfInBounds 0 (.int .i64 2)) 113))
    have HF3 := hid (HF2.out.alloc (.cells (Try.zeroCells113.setIfInBounds 0 (.int .i64 2)) 113))
    have HSZ : Hid (w1.heap.size ≤ W2.heap.size) := HF2.out.size
    generalize W2.alloc (.cells (Try.zeroCells113.setIfInBounds 0 (.int .i64 2)) 113) = W3 at HN3 HB3 HF3 ⊢
    obtain ⟨c, hc⟩ : ∃ c, W2.heap.size = c := ⟨_, rfl⟩
    rw [hc] at HN3 HSZ ⊢
    have HRC : Hid (R ≠ c ∧ c ≠ R) := by have h1 := HB2.out.lt; rw [hc] at h1; exact ⟨by omega, by omega⟩
    clear hc HB2 HF2
    -- the parts' first keys
    obtain ⟨k0, hk0⟩ : ∃ k0, T.first h (N.raw h t') = k0 := ⟨_, rfl⟩
    obtain ⟨k1, hk1⟩ : ∃ k1, T.first h (N.raw h u) = k1 := ⟨_, rfl⟩
    have HK := hid (And.intro hk0 hk1)
    clear hk0 hk1
    have par : ∀ W, Fr (· = R) w1 W → N.In W h t' ∧ N.In W h u := fun W hf => ⟨HO.out.mem.fr hf (fun b hb e => HRN.out (by rw [← e]; exact List.mem_append_left _ hb)), (HO.out.memu u rfl).fr hf (fun b hb e => HRN.out (by rw [← e]; exact List.mem_append_right _ hb))⟩
    have HPAR := hid par
    clear par
    have c0 : W3.cell? ⟨R, 0, none⟩ = some (.pointer (some ⟨N.blk h t, 0, none⟩)) := HB3.out.cell 0
    have d0 : W3.cell? ⟨N.blk h t, 1, none⟩ = some (.int .i64 k0) := by rw [← HK.out.1, ← HO.out.blk]; exact first_cell (HPAR.out _ HF3.out).1 HD1.out.1
    go_upto_region 4 with fail
    refine still_tail_drew 18 (by kernel_rfl) (by kernel_rfl) ?_
    simp only [List.take_succ_cons, List.take_zero, List.drop_succ_cons, List.drop_zero]
    repeat still_step
    refine wpStill_nil ?_
    change wpList _ _ _ _ _ W3.drew
    refine wpList_store_mid rfl 110 (.tmp 48) (.tmp 45) rfl c 1 _ rfl rfl (Nd.there (w := W3.drew) HN3.out 0 (by omega)) (by kernel_rfl) (by simp [Value.oneCell']) ?_
    change wpList _ _ _ _ _ (W3.drew.setCells c (1 + 0 * 4) (cellsQ ⟨k0, 0, false, some ⟨N.blk h t, 0, none⟩⟩))
    have HN4 := hid (Nd.puts (w := W3.drew) HN3.out 0 ⟨k0, 0, false, some ⟨N.blk h t, 0, none⟩⟩ (by omega))
    have HB4 : Hid (Blk (W3.drew.setCells c (1 + 0 * 4) (cellsQ ⟨k0, 0, false, some ⟨N.blk h t, 0, none⟩⟩)) R #[.pointer (some ⟨N.blk h t, 0, none⟩), .int .i64 h, .int .i64 n1, lv] 115) := Blk.sets (w := W3.drew) HB3.out c (1 + 0 * 4) _ HRC.out.1
    have HF4 := hid (fr_sets (S := (· = R)) (b := c) (fun h1 => absurd h1 (by have := HSZ.out; omega)) HF3.out.drew (1 + 0 * 4) (cellsQ ⟨k0, 0, false, some ⟨N.blk h t, 0, none⟩⟩))
    clear c0 d0 HN3 HB3 HF3
    generalize W3.drew.setCells c (1 + 0 * 4) (cellsQ ⟨k0, 0, false, some ⟨N.blk h t, 0, none⟩⟩) = W4 at HN4 HB4 HF4 ⊢
    have d1 : W4.cell? ⟨N.blk h u, 1, none⟩ = some (.int .i64 k1) := by rw [← HK.out.2]; exact first_cell (HPAR.out _ HF4.out).2 HD1.out.2
    go_upto_region 5 with fail
    refine still_tail_drew 12 (by kernel_rfl) (by kernel_rfl) ?_
    simp only [List.take_succ_cons, List.take_zero, List.drop_succ_cons, List.drop_zero]
    repeat still_step
    refine wpStill_nil ?_
    change wpList _ _ _ _ _ W4.drew
    refine wpList_store_mid rfl 110 (.tmp 60) (.tmp 57) rfl c 5 _ rfl rfl (Nd.there (w := W4.drew) HN4.out 1 (by omega)) (by kernel_rfl) (by simp [Value.oneCell']) ?_
    change wpList _ _ _ _ _ (W4.drew.setCells c (1 + 1 * 4) (cellsQ ⟨k1, 0, false, some ⟨N.blk h u, 0, none⟩⟩))
    have HN5 := hid (Nd.puts (w := W4.drew) HN4.out 1 ⟨k1, 0, false, some ⟨N.blk h u, 0, none⟩⟩ (by omega))
    have HB5 : Hid (Blk (W4.drew.setCells c (1 + 1 * 4) (cellsQ ⟨k1, 0, false, some ⟨N.blk h u, 0, none⟩⟩)) R #[.pointer (some ⟨N.blk h t, 0, none⟩), .int .i64 h, .int .i64 n1, lv] 115) := Blk.sets (w := W4.drew) HB4.out c (1 + 1 * 4) _ HRC.out.1
    have HF5 := hid (fr_sets (S := (· = R)) (b := c) (fun h1 => absurd h1 (by have := HSZ.out; omega)) HF4.out.drew (1 + 1 * 4) (cellsQ ⟨k1, 0, false, some ⟨N.blk h u, 0, none⟩⟩))
    clear d1 HN4 HB4 HF4
    generalize W4.drew.setCells c (1 + 1 * 4) (cellsQ ⟨k1, 0, false, some ⟨N.blk h u, 0, none⟩⟩) = W5 at HN5 HB5 HF5 ⊢
    have c0 : W5.cell? ⟨R, 0, none⟩ = some (.pointer (some ⟨N.blk h t, 0, none⟩)) := HB5.out.cell 0
    have c1 : W5.cell? ⟨R, 1, none⟩ = some (.int .i64 h) := HB5.out.cell 1
    have f0 : W5.frozen? ⟨R, 0, none⟩ = false := HB5.out.free 0
    have f1 : W5.frozen? ⟨R, 1, none⟩ = false := HB5.out.free 1
    have hw : IntKind.i64.wrap ((h : Int) + 1) = (h : Int) + 1 := i64_in _ (by have := HZ.out.2; omega)
    have HB6 : Hid (Blk ((W5.setCell ⟨R, 0, none⟩ (.pointer (some ⟨c, 0, none⟩))).setCell ⟨R, 1, none⟩ (.int .i64 ((h : Int) + 1))) R #[.pointer (some ⟨c, 0, none⟩), .int .i64 ((h : Int) + 1), .int .i64 n1, lv] 115) := hid ((HB5.out.set 0 _).set 1 _)
    have HF6 : Hid (Fr (· = R) w1 ((W5.setCell ⟨R, 0, none⟩ (.pointer (some ⟨c, 0, none⟩))).setCell ⟨R, 1, none⟩ (.int .i64 ((h : Int) + 1)))) := hid (Fr.setCell (S := (· = R)) (Fr.setCell (S := (· = R)) HF5.out (p := ⟨R, 0, none⟩) (fun _ => rfl) _) (p := ⟨R, 1, none⟩) (fun _ => rfl) _)
    have HN6 : Hid (Nd ((W5.setCell ⟨R, 0, none⟩ (.pointer (some ⟨c, 0, none⟩))).setCell ⟨R, 1, none⟩ (.int .i64 ((h : Int) + 1))) c 2 (upd (upd (fun _ => q0) 0 ⟨k0, 0, false, some ⟨N.blk h t, 0, none⟩⟩) 1 ⟨k1, 0, false, some ⟨N.blk h u, 0, none⟩⟩)) := hid ((HN5.out.other' ⟨R, 0, none⟩ _ HRC.out.2).other' ⟨R, 1, none⟩ _ HRC.out.2)
    go_wp2_with fail
    (try simp only [Exit.inBlock, Exit.then]); refine bodyPost_end (results_none rfl _ _ _) rfl ?_
    obtain ⟨G', hflat⟩ := Out.two (R := R) HG.out HZ.out.1 HO.out HF6.out HRN.out HSZ.out HN6.out ⟨by show k0 = _; exact HK.out.1.symm, by show some (⟨N.blk h t, 0, none⟩ : Addr) = _; rw [HO.out.blk]⟩ ⟨by show k1 = _; exact HK.out.2.symm, rfl⟩
    have hs1 := HO.out.fr.size
    have hge := HT.out.ge
    have hids : N.ids (h + 1) ((c, [(T.first h (N.raw h t'), t'), (T.first h (N.raw h u), u)]) : Nat × List (Int × N h)) = c :: (N.ids h t' ++ N.ids h u) := by
      show c :: fids _ = _
      rw [fids_cons, fids_cons]
      simp [fids]
    have hfr : Fr (fun b => b = R ∨ b ∈ N.ids h t) w ((W5.setCell ⟨R, 0, none⟩ (.pointer (some ⟨c, 0, none⟩))).setCell ⟨R, 1, none⟩ (.int .i64 ((h : Int) + 1))) := (HO.out.fr.mono (fun k _ hk => .inr hk)).trans HF6.out (fun k _ hk => .inl hk)
    refine ⟨rfl, ⟨h + 1, (c, [(T.first h (N.raw h t'), t'), (T.first h (N.raw h u), u)])⟩, ⟨⟨n1, lv, HB6.out, HB.out.2.to (hfr.below HZ.out.1 (fun k hk => ?_))⟩, hge, ?_, G'⟩, hflat, Nat.le_refl _, hfr, fun b hb => ?_⟩
    · rcases hk with rfl | hk
      · exact hge
      · exact HG.out.above k hk
    · show R ∉ N.ids (h + 1) _
      rw [hids]
      intro hm
      rcases List.mem_cons.1 hm with e | hm
      · exact HRC.out.1 e
      · exact HRN.out hm
    · have hb' : b ∈ N.ids (h + 1) ((c, [(T.first h (N.raw h t'), t'), (T.first h (N.raw h u), u)]) : Nat × List (Int × N h)) := hb
      rw [hids] at hb'
      rcases List.mem_cons.1 hb' with rfl | hb'
      · right; have := HSZ.out; omega
      · exact HO.out.ids b hb'
set_option maxHeartbeats 8000000 in
set_option maxRecDepth 100000 in
theorem tRemove_any (base R : Nat) (tb : List Int) (m : M) (key : Int) (w : World) (hT : Tree base R tb m w) (hh : m.h ≤ 1099511627775) :
    Calls Try.prog 73 #[.pointer (some ⟨R, 0, none⟩), .int .i64 key] w fun e w' => e = .returned (.tuple #[]) ∧ Turned base R tb m (if (tell (findL (rankOf tb) key m.raw)).2 = true then insL (rankOf tb) key 0 false m.raw else m.raw) w w' := by
  have HT := hid hT
  have HH := hid hh
  clear hT hh
  obtain ⟨X, hX⟩ : ∃ X, (if (tell (findL (rankOf tb) key m.raw)).2 = true then insL (rankOf tb) key 0 false m.raw else m.raw) = X := ⟨_, rfl⟩
  rw [hX]
  have HX := hid hX
  clear hX
  go_enter Try.func73, Try.ntmps73
  go_wp2_with fail
  refine (tGet_any base R tb m key w HT.out (by have := HH.out; omega)).mono ?_
  rintro e w1 ⟨rfl, hb⟩
  have HB1 := hid hb
  have HT1 := hid (HT.out.below hb)
  clear hb
  cases hg : (tell (findL (rankOf tb) key m.raw)).2 with
  | false =>
    go_wp2_with fail
    (try simp only [Exit.inBlock, Exit.then]); refine bodyPost_ret (results_none rfl _ _ _) rfl ?_
    refine ⟨rfl, m, HT1.out, by rw [← HX.out, hg]; rfl, Nat.le_succ _, Fr.new HB1.out, fun b hb => .inl hb⟩
  | true =>
    have HGG := hid hg
    clear hg
    obtain ⟨⟨n, lv, hB, hL⟩, g, ni, G⟩ := HT1.out
    obtain ⟨h, t⟩ := m
    have c0 : w1.cell? ⟨R, 0, none⟩ = some (.pointer (some ⟨N.blk h t, 0, none⟩)) := hB.cell 0
    have c1 : w1.cell? ⟨R, 1, none⟩ = some (.int .i64 h) := hB.cell 1
    have HB := hid (And.intro hB hL)
    have HG := hid G
    have HNI : Hid (R ∉ N.ids h t) := ni
    have HZ : Hid (base ≤ w1.heap.size ∧ h ≤ 1099511627775) := ⟨by have := hB.lt; omega, HH.out⟩
    clear hB hL g ni G
    go_upto_region 3 with fail
    refine wp_first_tail (.tmp 0) (some 15) 11 (by kernel_rfl) ⟨rfl, rfl, rfl⟩ (by kernel_rfl) (by kernel_rfl) (by kernel_rfl) (fun _ _ _ h => h) (by kernel_rfl) ?_
    simp only [tied, List.modify_succ_cons, List.modify_zero_cons, List.take_succ_cons, List.take_zero, List.drop_succ_cons, List.drop_zero]
    repeat still_step
    refine wpStill_nil ?_
    go_wp2_with fail
    refine (insert_any base R tb key 0 n h false _ lv h t w1.drew (HG.out.kept (fun _ _ => rfl)) HB.out.1 HNI.out (HB.out.2.drewN 1) HZ.out.1 (by have := HZ.out.2; omega)).mono ?_
    rintro e w2 ⟨t', u, rfl, O⟩
    have hf : T.find (rankOf tb) key h (N.raw h t) ≠ none := fun e => by
      have h1 := HGG.out
      rw [show (M.mk h t).raw = T.flat h (N.raw h t) from rfl, ← find_flat HG.out.row, e] at h1
      cases h1
    have hu : u = none := by
      have h1 := ins_none (k := key) (v := 0) (ok := false) HG.out.row HG.out.len hf
      rw [← O.raw] at h1
      cases u with
      | none => rfl
      | some u => cases h1
    subst hu
    have HO : Hid (Out tb key 0 false t t' none w1 w2) := ⟨O.raw, O.blk, O.mem, O.memu, O.nodup, O.ids, dr_fr O.fr⟩
    have HB2 : Hid (Blk w2 R #[.pointer (some ⟨N.blk h t, 0, none⟩), .int .i64 h, .int .i64 n, lv] 115) := hid (HB.out.1.fr HO.out.fr HNI.out)
    clear O c0 c1 hf
    have c2 : w2.cell? ⟨R, 2, none⟩ = some (.int .i64 n) := HB2.out.cell 2
    have f2 : w2.frozen? ⟨R, 2, none⟩ = false := HB2.out.free 2
    go_wp2_with fail
    (try simp only [Exit.inBlock, Exit.then]); refine bodyPost_end (results_none rfl _ _ _) rfl ?_
    obtain ⟨m', a1, a2, a3, a4, a5⟩ := put_none (n' := wrap64 (n - 1)) HT1.out HB.out.1 HB.out.2 HO.out
    refine ⟨rfl, m', a1, by rw [a2, ← HX.out, HGG.out]; rfl, a3, (Fr.new HB1.out).trans a4 (fun _ _ h => h), fun b hb => ?_⟩
    rcases a5 b hb with h1 | h1
    · exact .inl h1
    · exact .inr (Nat.le_trans HB1.out.size h1)
theorem New_any (base : Nat) (tb : List Int) (lv : Value) (w : World) (hL : LessS base w lv tb) (hb : base ≤ w.heap.size) :
    Calls Try.prog 52 #[lv] w fun e w' => ∃ R m, e = .returned (.pointer (some ⟨R, 0, none⟩)) ∧ Tree base R tb m w' ∧ m.raw = [] ∧ m.h = 0 ∧ (∀ b ∈ m.ids, w.heap.size ≤ b) ∧ w.heap.size ≤ R ∧ Below w.heap.size w w' := by
  obtain ⟨_, B, A, c, rfl, _, _⟩ := hL.now
  have HL : Hid (LessS base w (.func (.func 67) #[] #[.pointer (some ⟨B, 0, none⟩)]) tb) := hL
  have HB := hid hb
  clear hL hb
  go_enter Try.func52, Try.ntmps52
  go_wp2_with fail
  go_ret
  have hb := HB.out
  have b1 : Below w.heap.size w (w.alloc (.cells Try.zeroCells113 113)) := (Below.refl _ _).alloc (Nat.le_refl _) _
  have hN : Nd (w.alloc (.cells Try.zeroCells113 113)) w.heap.size 0 (fun _ => q0) := by
    rw [zero_cells]
    exact Blk.new w _ _
  have hs : (w.alloc (.cells Try.zeroCells113 113)).heap.size = w.heap.size + 1 := alloc_size _ _
  generalize w.alloc (.cells Try.zeroCells113 113) = W at b1 hN hs ⊢
  rw [← hs]
  have hm : ∀ b ∈ N.ids 0 ((w.heap.size, []) : Nat × List E), b = w.heap.size := fun b hb => by
    have hb' : b ∈ [w.heap.size] := hb
    exact List.mem_singleton.1 hb'
  refine ⟨W.heap.size, ⟨0, ((w.heap.size, []) : Nat × List E)⟩, rfl, ⟨⟨0, _, Blk.new W _ _, HL.out.to (below_le (b1.alloc (by omega) _) hb)⟩, by omega, fun h => ?_, ⟨⟨fun _ => q0, hN.alloc _, fun i x hx => by simp at hx⟩, by show [w.heap.size].Nodup; simp, fun b h => ?_, List.Pairwise.nil, by show 0 ≤ 63; omega, fun h => absurd rfl h⟩⟩, rfl, rfl, fun b h => ?_, by omega, b1.alloc (by omega) _⟩
  · have h' : W.heap.size = w.heap.size := hm _ h
    omega
  · have h' : b = w.heap.size := hm _ h
    omega
  · have h' : b = w.heap.size := hm _ h
    omega
end Go.Proofs.Ytjlcebgfknfelaa.Bt

namespace Go.Proofs.Ytjlcebgfknfelaa.AvlPure
namespace T
theorem size_reb (t : T) : size (reb t) = size t := by rw [size_list, size_list, list_reb]
theorem size_ins (rk : Int → Int) (key val : Int) : ∀ t : T, size (ins rk key val t) ≤ size t + 1
  | nil => by simp [ins, size]
  | node k v h l r => by
    have hl := size_ins rk key val l
    have hr := size_ins rk key val r
    unfold ins
    split
    · rw [size_reb]; simp only [size]; omega
    · split
      · rw [size_reb]; simp only [size]; omega
      · rw [size_reb]; simp only [size]; omega
theorem size_rem (rk : Int → Int) : ∀ (t : T) (key : Int), size (rem rk t key) ≤ size t
  | nil, _ => by simp [rem]
  | node k v h l r, key => by
    have hl := size_rem rk l key
    have hr := size_rem rk r key
    have hr2 := size_rem rk r (least r).1
    have sl := size_nonneg l
    have sr := size_nonneg r
    unfold rem
    split
    · rw [size_reb]; simp only [size]; omega
    · split
      · rw [size_reb]; simp only [size]; omega
      · split
        · split
          · simp only [size]; omega
          · rw [size_reb]; simp only [size]; omega
        · split
          · rw [size_reb]; simp only [size]; omega
          · rw [size_reb]; simp only [size]; omega
/-- A balanced tree of twice as_ many levels has more nodes than that power of two. -/
theorem even_size : ∀ (n : Nat) {t : T}, Even t → 2 * (n : Int) ≤ tall t → (2 : Int) ^ n ≤ size t + 1
  | 0, t, _, _ => by have := size_nonneg t; simp; omega
  | n + 1, nil, _, h => by simp [tall] at h; omega
  | n + 1, node k v h' l r, he, h => by
    obtain ⟨h1, h2, h3, h4⟩ := he
    have e1 : tall (node k v h' l r) = 1 + max (tall l) (tall r) := rfl
    have e2 : size (node k v h' l r) = 1 + size l + size r := rfl
    rw [e1] at h
    have a1 := even_size n h3 (by omega)
    have a2 := even_size n h4 (by omega)
    rw [e2, Int.pow_succ]
    omega
theorem even_low {t : T} (he : Even t) (hs : size t ≤ 1099511627776) : tall t ≤ 100 := by
  rcases Int.lt_or_le (tall t) 82 with h | h
  · omega
  · have := even_size 41 he (by omega)
    have e : (2 : Int) ^ 41 = 2199023255552 := by decide
    omega
end T
end Go.Proofs.Ytjlcebgfknfelaa.AvlPure
