/- AVL trees in memory: what is removed, and the walk through all. By the order of any table, for every balanced tree. -/
import Derived.Test.YtjlcebgfknfelaaAvlD
import Derived.Test.YtjlcebgfknfelaaTie
namespace Go.Proofs.Ytjlcebgfknfelaa.Avl
open Go Go.RowKit Go.Proofs.Ytjlcebgfknfelaa.Hk Go.Proofs.Ytjlcebgfknfelaa.AvlPure Go.Proofs.Ytjlcebgfknfelaa.Less

/-- The leftmost node. -/
def N.first : N → N
  | .nil => .nil
  | .node b k v h .nil r => .node b k v h .nil r
  | .node _ _ _ _ (.node b k v h l r) _ => N.first (.node b k v h l r)

theorem first_least : ∀ t : N, t ≠ .nil → ∃ b h l r, N.first t = .node b (T.least t.raw).1 (T.least t.raw).2 h l r
  | .nil, h => absurd rfl h
  | .node b _ _ h .nil r, _ => ⟨b, h, .nil, r, rfl⟩
  | .node _ _ _ _ (.node b k v h l r) _, _ => first_least (.node b k v h l r) (fun e => by cases e)

theorem first_in {w : World} : ∀ {t : N}, t.In w → (N.first t).In w
  | .nil, _ => trivial
  | .node _ _ _ _ .nil _, hin => hin
  | .node _ _ _ _ (.node b k v h l r) _, hin => first_in (t := .node b k v h l r) hin.2.1

theorem first_ids : ∀ {t : N} {b : Nat} {k v h : Int} {l r : N}, N.first t = .node b k v h l r → b ∈ t.ids
  | .nil, _, _, _, _, _, _, e => by cases e
  | .node _ _ _ _ .nil _, _, _, _, _, _, _, e => by injection e with e1; rw [← e1]; simp [N.ids]
  | .node _ _ _ _ (.node b k v h l r) _, _, _, _, _, _, _, e => by
    have := first_ids (t := .node b k v h l r) e
    simp only [N.ids, List.mem_cons, List.mem_append] at this ⊢
    right; left; exact this

theorem smallest_any : ∀ (t : N) (w : World), t.In w → t ≠ .nil →
    Calls Try.prog 97 #[t.ptr] w fun e w' => e = .returned (N.first t).ptr ∧ w' = w
  | .nil, _, _, h => absurd rfl h
  | .node b k v h .nil r, w, hin, _ => by
    have c3 : w.cell? ⟨b, 3, none⟩ = some (.pointer none) := hin.1.cell 3
    clear hin
    show Calls Try.prog 97 #[.pointer (some ⟨b, 0, none⟩)] w _
    go_enter Try.func97, Try.ntmps97
    go_wp2_with fail
    go_ret
    exact ⟨rfl, rfl⟩
  | .node b k v h (.node b2 k2 v2 h2 l2 r2) r, w, hin, _ => by
    have c3 : w.cell? ⟨b, 3, none⟩ = some (.pointer (some ⟨b2, 0, none⟩)) := hin.1.cell 3
    have HI : Hid ((N.node b2 k2 v2 h2 l2 r2).In w) := hin.2.1
    clear hin
    show Calls Try.prog 97 #[.pointer (some ⟨b, 0, none⟩)] w _
    go_enter Try.func97, Try.ntmps97
    go_wp2_with fail
    refine (smallest_any (.node b2 k2 v2 h2 l2 r2) w HI.out (fun e => by cases e)).mono ?_
    rintro e w1 ⟨rfl, rfl⟩
    go_wp2_with fail
    go_ret
    exact ⟨rfl, rfl⟩

/-- What remove leaves. -/
def Removed (base : Nat) (tb : List Int) (key : Int) (t : N) (w : World) (e : Ending) (w' : World) : Prop :=
  ∃ t' : N, e = .returned t'.ptr ∧ t'.raw = T.rem (rankOf tb) t.raw key ∧ Put base t t' w w'

theorem remove_nil (base : Nat) (tb : List Int) (key : Int) (lv : Value) (w : World) :
    Calls Try.prog 84 #[.pointer none, .int .i64 key, lv] w (Removed base tb key .nil w) := by
  go_enter Try.func84, Try.ntmps84
  go_wp2_with fail
  go_ret
  exact ⟨.nil, rfl, rfl, trivial, List.nodup_nil, fun b hb => by simp [N.ids] at hb, Fr.refl _ _⟩

theorem fr_of_drewN {S : Nat → Prop} {w w' : World} {n : Nat} (h : Fr S (w.drewN n) w') : Fr S w w' := ⟨h.os, h.tape, h.output, h.size, h.block⟩
theorem Put.of_drewN {base : Nat} {t t' : N} {w w' : World} {n : Nat} (h : Put base t t' (w.drewN n) w') : Put base t t' w w' := ⟨h.mem, h.nodup, h.ids, fr_of_drewN h.fr⟩

theorem Put.of_drew {base : Nat} {t t' : N} {w w' : World} (h : Put base t t' w.drew w') : Put base t t' w w' := ⟨h.mem, h.nodup, h.ids, ⟨h.fr.os, h.fr.tape, h.fr.output, h.fr.size, h.fr.block⟩⟩
theorem Good.drew {base : Nat} {w : World} {t : N} (g : Good base w t) : Good base w.drew t := ⟨g.mem.drew, g.nodup, g.above, g.right, g.even⟩
theorem LessS.drew {base : Nat} {w : World} {v : Value} {t : List Int} (h : LessS base w v t) : LessS base w.drew v t := h.to ⟨rfl, rfl, rfl, Nat.le_refl _, fun _ _ => rfl⟩

/-- The step at what takes a node's place. -/
theorem put_part {base : Nat} {t p t' : N} {w w' : World} {n : Nat} (hi : ∀ b ∈ p.ids, b ∈ t.ids) (nd : p.ids.Nodup) (m : t'.In w') (hp : t'.ids.Perm p.ids) (hf : Fr (· ∈ p.ids) (w.drewN n) w') : Put base t t' w w' :=
  ⟨m, hp.nodup_iff.2 nd, fun b hb => .inl (hi b (hp.mem_iff.1 hb)), (fr_of_drewN hf).mono (fun k _ hk => hi k hk)⟩

set_option maxHeartbeats 4000000 in
set_option maxRecDepth 100000 in
theorem remove_any (base : Nat) (tb : List Int) (lv : Value) : ∀ (t : N) (key : Int) (w : World), Good base w t → t.raw.tall ≤ 4294950000 → base ≤ w.heap.size → LessS base w lv tb →
    Calls Try.prog 84 #[t.ptr, .int .i64 key, lv] w (Removed base tb key t w)
  | .nil, key, w, _, _, _, _ => remove_nil base tb key lv w
  | .node b k v h l r, key, w, g, ht, hbs, hL => by
    have tn : (N.node b k v h l r).raw.tall = 1 + max l.raw.tall r.raw.tall := rfl
    have tl := T.tall_nonneg l.raw
    have tr := T.tall_nonneg r.raw
    have HG : Hid (Good base w (.node b k v h l r)) := g
    have HL : Hid (LessS base w lv tb) := hL
    have c0 : w.cell? ⟨b, 0, none⟩ = some (.int .i64 k) := g.mem.1.cell 0
    have c3 : w.cell? ⟨b, 3, none⟩ = some l.ptr := g.mem.1.cell 3
    have c4 : w.cell? ⟨b, 4, none⟩ = some r.ptr := g.mem.1.cell 4
    have HT : Hid (l.raw.tall ≤ 4294950000 ∧ r.raw.tall ≤ 4294950000) := ⟨by omega, by omega⟩
    clear g hL
    show Calls Try.prog 84 #[.pointer (some ⟨b, 0, none⟩), .int .i64 key, lv] w _
    by_cases h1 : rankOf tb key < rankOf tb k
    · have HC : Hid (cmp tb key k = -1) := cmp_lt h1
      have HR : Hid (T.rem (rankOf tb) (N.node b k v h l r).raw key = T.reb (.node k v h (T.rem (rankOf tb) l.raw key) r.raw)) := if_pos h1
      clear h1 ht tn tl tr
      go_enter Try.func84, Try.ntmps84
      go_wp2_with fail
      refine (compare_any lv tb key k _ HL.out.now).mono ?_
      rintro e w1 ⟨rfl, n, rfl⟩
      rw [HC.out]
      go_wp2_with fail
      refine (remove_any base tb lv l key (w.drewN n) (HG.out.lf.drewN n) HT.out.1 (by simpa using hbs) (HL.out.drewN n)).mono ?_
      rintro e w1 ⟨l', rfl, hraw, hput⟩
      have hput' := hput.of_drewN
      obtain ⟨m1, m2, B1⟩ := mem_left HG.out hput'
      have d3 : w1.cell? ⟨b, 3, none⟩ = some l.ptr := B1.cell 3
      have f3 : w1.frozen? ⟨b, 3, none⟩ = false := B1.free 3
      have HM : Hid ((N.node b k v h l' r).In (w1.setCell ⟨b, 3, none⟩ l'.ptr) ∧ (N.node b k v h l' r).ids.Nodup ∧ l'.raw = T.rem (rankOf tb) l.raw key ∧ Put base l l' w w1) := ⟨m1, m2, hraw, hput'⟩
      obtain ⟨u, hu⟩ := l'.ptr_some
      rw [hu] at HM ⊢
      have HU : Hid (l'.ptr = .pointer u) := hu
      clear m1 m2 B1 hraw hput hput' hu
      go_wp2_with fail
      refine (reb_any (.node b k v h l' r) _ HM.out.1 HM.out.2.1 (fun b' k' v' h' l2 r2 e => ?_)).mono ?_
      · injection e with e1 e2 e3 e4 e5 e6
        subst e5 e6
        exact ⟨⟨by rw [HM.out.2.2.1]; exact T.right_rem _ _ HG.out.lf.right HG.out.lf.even, by
          rw [HM.out.2.2.1]
          have := (T.even_rem (rankOf tb) key HG.out.lf.right HG.out.lf.even).2
          have := HT.out
          omega⟩, HG.out.rt.part (by have := HT.out; omega)⟩
      rintro e w3 ⟨t', rfl, i1, i2, i3, i4⟩
      have HD : Hid (t'.In w3 ∧ t'.raw = T.reb (N.node b k v h l' r).raw ∧ t'.ids.Perm (N.node b k v h l' r).ids ∧ Fr (· ∈ (N.node b k v h l' r).ids) (w1.setCell ⟨b, 3, none⟩ (.pointer u)) w3) := ⟨i1, i2, i3, i4⟩
      clear i1 i2 i3 i4
      go_wp2_with fail
      go_ret
      obtain ⟨i1, i2, i3, i4⟩ := HD.out
      rw [← HU.out] at i4
      exact ⟨t', rfl, by rw [i2, HR.out]; show T.reb (.node k v h l'.raw r.raw) = _; rw [HM.out.2.2.1], step_left HG.out HM.out.2.2.2 ⟨i1, i3, i4⟩⟩
    by_cases h2 : rankOf tb k < rankOf tb key
    · have HC : Hid (cmp tb key k = 1) := cmp_gt h2
      have HR : Hid (T.rem (rankOf tb) (N.node b k v h l r).raw key = T.reb (.node k v h l.raw (T.rem (rankOf tb) r.raw key))) := (if_neg h1).trans (if_pos h2)
      clear h1 h2 ht tn tl tr
      go_enter Try.func84, Try.ntmps84
      go_wp2_with fail
      refine (compare_any lv tb key k _ HL.out.now).mono ?_
      rintro e w1 ⟨rfl, n, rfl⟩
      rw [HC.out]
      go_wp2_with fail
      refine (compare_any lv tb key k _ (HL.out.drewN n).now).mono ?_
      rintro e w1 ⟨rfl, n', rfl⟩
      rw [HC.out]
      go_wp2_with fail
      refine (remove_any base tb lv r key (w.drewN (n + n')) (HG.out.rt.drewN (n + n')) HT.out.2 (by simpa using hbs) (HL.out.drewN (n + n'))).mono ?_
      rintro e w1 ⟨r', rfl, hraw, hput⟩
      have hput' := hput.of_drewN
      obtain ⟨m1, m2, B1⟩ := mem_right HG.out hput'
      have d4 : w1.cell? ⟨b, 4, none⟩ = some r.ptr := B1.cell 4
      have f4 : w1.frozen? ⟨b, 4, none⟩ = false := B1.free 4
      have HM : Hid ((N.node b k v h l r').In (w1.setCell ⟨b, 4, none⟩ r'.ptr) ∧ (N.node b k v h l r').ids.Nodup ∧ r'.raw = T.rem (rankOf tb) r.raw key ∧ Put base r r' w w1) := ⟨m1, m2, hraw, hput'⟩
      obtain ⟨u, hu⟩ := r'.ptr_some
      rw [hu] at HM ⊢
      have HU : Hid (r'.ptr = .pointer u) := hu
      clear m1 m2 B1 hraw hput hput' hu
      go_wp2_with fail
      refine (reb_any (.node b k v h l r') _ HM.out.1 HM.out.2.1 (fun b' k' v' h' l2 r2 e => ?_)).mono ?_
      · injection e with e1 e2 e3 e4 e5 e6
        subst e5 e6
        exact ⟨HG.out.lf.part (by have := HT.out; omega), ⟨by rw [HM.out.2.2.1]; exact T.right_rem _ _ HG.out.rt.right HG.out.rt.even, by
          rw [HM.out.2.2.1]
          have := (T.even_rem (rankOf tb) key HG.out.rt.right HG.out.rt.even).2
          have := HT.out
          omega⟩⟩
      rintro e w3 ⟨t', rfl, i1, i2, i3, i4⟩
      have HD : Hid (t'.In w3 ∧ t'.raw = T.reb (N.node b k v h l r').raw ∧ t'.ids.Perm (N.node b k v h l r').ids ∧ Fr (· ∈ (N.node b k v h l r').ids) (w1.setCell ⟨b, 4, none⟩ (.pointer u)) w3) := ⟨i1, i2, i3, i4⟩
      clear i1 i2 i3 i4
      go_wp2_with fail
      go_ret
      obtain ⟨i1, i2, i3, i4⟩ := HD.out
      rw [← HU.out] at i4
      exact ⟨t', rfl, by rw [i2, HR.out]; show T.reb (.node k v h l.raw r'.raw) = _; rw [HM.out.2.2.1], step_right HG.out HM.out.2.2.2 ⟨i1, i3, i4⟩⟩
    have HC : Hid (cmp tb key k = 0) := cmp_eq h1 h2
    have HR : Hid (T.rem (rankOf tb) (N.node b k v h l r).raw key = if l.raw.isNil = true then (if r.raw.isNil = true then .nil else T.reb r.raw) else if r.raw.isNil = true then T.reb l.raw
        else T.reb (.node (T.least r.raw).1 (T.least r.raw).2 h l.raw (T.rem (rankOf tb) r.raw (T.least r.raw).1))) := (if_neg h1).trans (if_neg h2)
    clear h1 h2 ht tn tl tr
    cases l with
    | nil =>
      have c3' : w.cell? ⟨b, 3, none⟩ = some (.pointer none) := c3
      clear c3
      cases r with
      | nil =>
        have c4' : w.cell? ⟨b, 4, none⟩ = some (.pointer none) := c4
        clear c4
        go_enter Try.func84, Try.ntmps84
        go_wp2_with fail
        refine (compare_any lv tb key k _ HL.out.now).mono ?_
        rintro e w1 ⟨rfl, n, rfl⟩
        rw [HC.out]
        go_wp2_with fail
        refine (compare_any lv tb key k _ (HL.out.drewN n).now).mono ?_
        rintro e w1 ⟨rfl, n', rfl⟩
        rw [HC.out]
        go_wp2_with fail
        go_ret
        exact ⟨.nil, rfl, by rw [HR.out]; rfl, trivial, List.nodup_nil, fun b hb => by simp [N.ids] at hb, ⟨rfl, rfl, rfl, Nat.le_refl _, fun _ _ _ => rfl⟩⟩
      | node b2 k2 v2 h2 l2 r2 =>
        have c4' : w.cell? ⟨b, 4, none⟩ = some (.pointer (some ⟨b2, 0, none⟩)) := c4
        clear c4
        go_enter Try.func84, Try.ntmps84
        go_wp2_with fail
        refine (compare_any lv tb key k _ HL.out.now).mono ?_
        rintro e w1 ⟨rfl, n, rfl⟩
        rw [HC.out]
        go_wp2_with fail
        refine (compare_any lv tb key k _ (HL.out.drewN n).now).mono ?_
        rintro e w1 ⟨rfl, n', rfl⟩
        rw [HC.out]
        go_wp2_with fail
        refine (reb_any (.node b2 k2 v2 h2 l2 r2) _ (HG.out.rt.mem.drewN (n + n')) HG.out.rt.nodup (fun b' k' v' h' l3 r3 e => ?_)).mono ?_
        · injection e with e1 e2 e3 e4 e5 e6
          subst e5 e6
          have q := HT.out.2
          have t1 := T.tall_nonneg l2.raw
          have t2 := T.tall_nonneg r2.raw
          have t3 : (N.node b2 k2 v2 h2 l2 r2).raw.tall = 1 + max l2.raw.tall r2.raw.tall := rfl
          exact ⟨HG.out.rt.lf.part (by omega), HG.out.rt.rt.part (by omega)⟩
        rintro e w3 ⟨t', rfl, i1, i2, i3, i4⟩
        have HD : Hid (t'.In w3 ∧ t'.raw = T.reb (N.node b2 k2 v2 h2 l2 r2).raw ∧ t'.ids.Perm (N.node b2 k2 v2 h2 l2 r2).ids ∧ Fr (· ∈ (N.node b2 k2 v2 h2 l2 r2).ids) (w.drewN (n + n')) w3) := ⟨i1, i2, i3, i4⟩
        clear i1 i2 i3 i4
        go_wp2_with fail
        go_ret
        obtain ⟨i1, i2, i3, i4⟩ := HD.out
        exact ⟨t', rfl, by rw [i2, HR.out]; rfl, put_part (fun x hx => by simp only [N.ids] at hx ⊢; simp [hx]) HG.out.rt.nodup i1 i3 i4⟩
    | node b2 k2 v2 h2 l2 r2 =>
      have c3' : w.cell? ⟨b, 3, none⟩ = some (.pointer (some ⟨b2, 0, none⟩)) := c3
      clear c3
      cases r with
      | nil =>
        have c4' : w.cell? ⟨b, 4, none⟩ = some (.pointer none) := c4
        clear c4
        go_enter Try.func84, Try.ntmps84
        go_wp2_with fail
        refine (compare_any lv tb key k _ HL.out.now).mono ?_
        rintro e w1 ⟨rfl, n, rfl⟩
        rw [HC.out]
        go_wp2_with fail
        refine (compare_any lv tb key k _ (HL.out.drewN n).now).mono ?_
        rintro e w1 ⟨rfl, n', rfl⟩
        rw [HC.out]
        go_wp2_with fail
        refine (reb_any (.node b2 k2 v2 h2 l2 r2) _ (HG.out.lf.mem.drewN (n + n')) HG.out.lf.nodup (fun b' k' v' h' l3 r3 e => ?_)).mono ?_
        · injection e with e1 e2 e3 e4 e5 e6
          subst e5 e6
          have q := HT.out.1
          have t1 := T.tall_nonneg l2.raw
          have t2 := T.tall_nonneg r2.raw
          have t3 : (N.node b2 k2 v2 h2 l2 r2).raw.tall = 1 + max l2.raw.tall r2.raw.tall := rfl
          exact ⟨HG.out.lf.lf.part (by omega), HG.out.lf.rt.part (by omega)⟩
        rintro e w3 ⟨t', rfl, i1, i2, i3, i4⟩
        have HD : Hid (t'.In w3 ∧ t'.raw = T.reb (N.node b2 k2 v2 h2 l2 r2).raw ∧ t'.ids.Perm (N.node b2 k2 v2 h2 l2 r2).ids ∧ Fr (· ∈ (N.node b2 k2 v2 h2 l2 r2).ids) (w.drewN (n + n')) w3) := ⟨i1, i2, i3, i4⟩
        clear i1 i2 i3 i4
        go_wp2_with fail
        go_ret
        obtain ⟨i1, i2, i3, i4⟩ := HD.out
        exact ⟨t', rfl, by rw [i2, HR.out]; rfl, put_part (fun x hx => by simp only [N.ids] at hx ⊢; simp [hx]) HG.out.lf.nodup i1 i3 i4⟩
      | node b4 k4 v4 h4 l4 r4 =>
        have c4' : w.cell? ⟨b, 4, none⟩ = some (.pointer (some ⟨b4, 0, none⟩)) := c4
        clear c4
        obtain ⟨bm, hm, lm, rm, hfst⟩ := first_least (.node b4 k4 v4 h4 l4 r4) (fun e => by cases e)
        have Im := first_in HG.out.rt.mem
        have Hm := first_ids hfst
        rw [hfst] at Im
        have e0 : w.cell? ⟨bm, 0, none⟩ = some (.int .i64 (T.least (N.node b4 k4 v4 h4 l4 r4).raw).1) := Im.1.cell 0
        have e1 : w.cell? ⟨bm, 1, none⟩ = some (.int .i64 (T.least (N.node b4 k4 v4 h4 l4 r4).raw).2) := Im.1.cell 1
        have f0 : w.frozen? ⟨b, 0, none⟩ = false := HG.out.mem.1.free 0
        have f1 : w.frozen? ⟨b, 1, none⟩ = false := HG.out.mem.1.free 1
        have c1 : w.cell? ⟨b, 1, none⟩ = some (.int .i64 v) := HG.out.mem.1.cell 1
        have hbm : bm ≠ b := fun e => (nodup_node HG.out.nodup).2.1 (e ▸ Hm)
        have hbm' : b ≠ bm := fun e => hbm e.symm
        have HF : Hid (N.first (.node b4 k4 v4 h4 l4 r4) = .node bm (T.least (N.node b4 k4 v4 h4 l4 r4).raw).1 (T.least (N.node b4 k4 v4 h4 l4 r4).raw).2 hm lm rm) := hfst
        clear Im Hm hfst
        generalize hlk : (T.least (N.node b4 k4 v4 h4 l4 r4).raw).1 = lk at e0 HF
        generalize hlv : (T.least (N.node b4 k4 v4 h4 l4 r4).raw).2 = lw at e1 HF
        have HK : Hid ((T.least (N.node b4 k4 v4 h4 l4 r4).raw).1 = lk ∧ (T.least (N.node b4 k4 v4 h4 l4 r4).raw).2 = lw) := ⟨hlk, hlv⟩
        clear hlk hlv
        go_enter Try.func84, Try.ntmps84
        go_wp2_with fail
        refine (compare_any lv tb key k _ HL.out.now).mono ?_
        rintro e w1 ⟨rfl, n, rfl⟩
        rw [HC.out]
        go_wp2_with fail
        refine (compare_any lv tb key k _ (HL.out.drewN n).now).mono ?_
        rintro e w1 ⟨rfl, n', rfl⟩
        rw [HC.out]
        go_wp2_with fail
        refine (smallest_any (.node b4 k4 v4 h4 l4 r4) _ (HG.out.rt.mem.drewN (n + n')) (fun e => by cases e)).mono ?_
        rintro e w1 ⟨rfl, rfl⟩
        rw [HF.out]
        simp only [N.ptr]
        go_wp2_with fail
        have F1 : Fr (· = b) w (((w.drewN (n + n')).setCell ⟨b, 0, none⟩ (.int .i64 lk)).setCell ⟨b, 1, none⟩ (.int .i64 lw)) :=
          Fr.setCell (S := (· = b)) (Fr.setCell (S := (· = b)) (fr_drewN (Fr.refl _ _) (n + n')) (p := ⟨b, 0, none⟩) (fun _ => rfl) _) (p := ⟨b, 1, none⟩) (fun _ => rfl) _
        have B1 : Blk (((w.drewN (n + n')).setCell ⟨b, 0, none⟩ (.int .i64 lk)).setCell ⟨b, 1, none⟩ (.int .i64 lw)) b #[.int .i64 lk, .int .i64 lw, .int .i64 h, .pointer (some ⟨b2, 0, none⟩), .pointer (some ⟨b4, 0, none⟩)] 119 := ((blk_drewN HG.out.mem.1 (n + n')).set 0 _).set 1 _
        have g' : Good base (((w.drewN (n + n')).setCell ⟨b, 0, none⟩ (.int .i64 lk)).setCell ⟨b, 1, none⟩ (.int .i64 lw)) (.node b lk lw h (.node b2 k2 v2 h2 l2 r2) (.node b4 k4 v4 h4 l4 r4)) :=
          ⟨⟨B1, N.In.fr F1 HG.out.mem.2.1 (fun x hx e => (nodup_node HG.out.nodup).1 (e ▸ hx)), N.In.fr F1 HG.out.mem.2.2 (fun x hx e => (nodup_node HG.out.nodup).2.1 (e ▸ hx))⟩, HG.out.nodup, HG.out.above, HG.out.right, HG.out.even⟩
        have L1 : LessS base (((w.drewN (n + n')).setCell ⟨b, 0, none⟩ (.int .i64 lk)).setCell ⟨b, 1, none⟩ (.int .i64 lw)) lv tb := HL.out.to (F1.below hbs (fun x e => by rw [e]; exact HG.out.above b (by simp [N.ids])))
        generalize hW : ((w.drewN (n + n')).setCell ⟨b, 0, none⟩ (.int .i64 lk)).setCell ⟨b, 1, none⟩ (.int .i64 lw) = W at F1 B1 g' L1 ⊢
        have m4 : W.cell? ⟨b, 4, none⟩ = some (.pointer (some ⟨b4, 0, none⟩)) := B1.cell 4
        have m0 : W.cell? ⟨bm, 0, none⟩ = some (.int .i64 lk) := by rw [World.cell?_of_block (w := w) (F1.block bm (Array.getElem?_eq_some_iff.1 (show w.heap[bm]? = some _ from (by
          have Im := first_in HG.out.rt.mem; rw [HF.out] at Im; exact Im.1))).1 hbm)]; exact e0
        have HW : Hid (Fr (· = b) w W ∧ Good base W (.node b lk lw h (.node b2 k2 v2 h2 l2 r2) (.node b4 k4 v4 h4 l4 r4)) ∧ LessS base W lv tb) := ⟨F1, g', L1⟩
        have hbW : base ≤ W.heap.size := Nat.le_trans hbs F1.size
        clear F1 B1 g' L1 c0 c3' c4' f0 f1 c1 e0 e1 hW hbs
        refine wp_first_tail (.tmp 0) (some 77) 10 (by kernel_rfl) ⟨rfl, rfl, rfl⟩ (by kernel_rfl) (by kernel_rfl) (by kernel_rfl) (fun _ _ _ h => h) (by kernel_rfl) ?_
        simp only [tied, List.modify_succ_cons, List.modify_zero_cons, List.take_succ_cons, List.take_zero, List.drop_succ_cons, List.drop_zero]
        repeat still_step
        refine wpStill_nil ?_
        go_wp2_with fail
        refine (remove_any base tb lv (.node b4 k4 v4 h4 l4 r4) lk W.drew HW.out.2.1.rt.drew HT.out.2 (by simpa using hbW) HW.out.2.2.drew).mono ?_
        rintro e w1 ⟨r', rfl, hraw, hput⟩
        have hput' := hput.of_drew
        obtain ⟨m1, m2, B1⟩ := mem_right HW.out.2.1 hput'
        have d4 : w1.cell? ⟨b, 4, none⟩ = some (.pointer (some ⟨b4, 0, none⟩)) := B1.cell 4
        have f4 : w1.frozen? ⟨b, 4, none⟩ = false := B1.free 4
        have HM : Hid ((N.node b lk lw h (.node b2 k2 v2 h2 l2 r2) r').In (w1.setCell ⟨b, 4, none⟩ r'.ptr) ∧ (N.node b lk lw h (.node b2 k2 v2 h2 l2 r2) r').ids.Nodup ∧ r'.raw = T.rem (rankOf tb) (N.node b4 k4 v4 h4 l4 r4).raw lk ∧ Put base (.node b4 k4 v4 h4 l4 r4) r' W w1) := ⟨m1, m2, hraw, hput'⟩
        obtain ⟨u, hu⟩ := r'.ptr_some
        rw [hu] at HM ⊢
        have HU : Hid (r'.ptr = .pointer u) := hu
        clear m1 m2 B1 hraw hput hput' hu
        go_wp2_with fail
        refine (reb_any (.node b lk lw h (.node b2 k2 v2 h2 l2 r2) r') _ HM.out.1 HM.out.2.1 (fun b' k' v' h' l3 r3 e => ?_)).mono ?_
        · injection e with e1 e2 e3 e4 e5 e6
          subst e5 e6
          exact ⟨HW.out.2.1.lf.part (by have := HT.out; omega), ⟨by rw [HM.out.2.2.1]; exact T.right_rem _ _ HW.out.2.1.rt.right HW.out.2.1.rt.even, by
            rw [HM.out.2.2.1]
            have := (T.even_rem (rankOf tb) lk HW.out.2.1.rt.right HW.out.2.1.rt.even).2
            have := HT.out
            omega⟩⟩
        rintro e w3 ⟨t', rfl, i1, i2, i3, i4⟩
        have HD : Hid (t'.In w3 ∧ t'.raw = T.reb (N.node b lk lw h (.node b2 k2 v2 h2 l2 r2) r').raw ∧ t'.ids.Perm (N.node b lk lw h (.node b2 k2 v2 h2 l2 r2) r').ids ∧ Fr (· ∈ (N.node b lk lw h (.node b2 k2 v2 h2 l2 r2) r').ids) (w1.setCell ⟨b, 4, none⟩ (.pointer u)) w3) := ⟨i1, i2, i3, i4⟩
        clear i1 i2 i3 i4
        go_wp2_with fail
        go_ret
        obtain ⟨i1, i2, i3, i4⟩ := HD.out
        rw [← HU.out] at i4
        have hp := step_right HW.out.2.1 HM.out.2.2.2 ⟨i1, i3, i4⟩
        refine ⟨t', rfl, ?_, hp.mem, hp.nodup, fun x hx => (hp.ids x hx).imp id (fun q => by have := HW.out.1.size; omega), (HW.out.1.mono (fun x _ e => by rw [e]; simp [N.ids])).trans hp.fr (fun _ _ h => h)⟩
        rw [i2, HR.out, HK.out.1, HK.out.2]
        rw [if_neg (show ¬ (N.node b2 k2 v2 h2 l2 r2).raw.isNil = true from Bool.false_ne_true), if_neg (show ¬ (N.node b4 k4 v4 h4 l4 r4).raw.isNil = true from Bool.false_ne_true)]
        show T.reb (.node lk lw h (N.node b2 k2 v2 h2 l2 r2).raw r'.raw) = T.reb _
        rw [HM.out.2.2.1]

end Go.Proofs.Ytjlcebgfknfelaa.Avl
