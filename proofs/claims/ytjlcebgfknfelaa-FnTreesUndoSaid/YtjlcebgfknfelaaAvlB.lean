/- AVL trees in memory: the rebalancing step. -/
import Derived.Test.YtjlcebgfknfelaaAvlA
namespace Go.Proofs.Ytjlcebgfknfelaa.Avl
open Go Go.RowKit Go.Proofs.Ytjlcebgfknfelaa.Hk Go.Proofs.Ytjlcebgfknfelaa.AvlPure

/-- What the step wants of the two parts of a root. -/
structure Part (t : N) : Prop where
  right : T.Right t.raw
  low : t.raw.tall ≤ 4294960000

theorem Part.hb {t : N} (h : Part t) : 0 ≤ t.raw.ht ∧ t.raw.ht ≤ 4294960000 := by
  have := T.tall_nonneg t.raw
  have e := h.right.ht
  have := h.low
  omega

theorem Part.left {b : Nat} {k v h : Int} {l r : N} (p : Part (.node b k v h l r)) : Part l := ⟨p.right.2.1, by
  have := p.low; have := T.tall_nonneg r.raw; simp only [N.raw, T.tall] at *; omega⟩
theorem Part.rght {b : Nat} {k v h : Int} {l r : N} (p : Part (.node b k v h l r)) : Part r := ⟨p.right.2.2, by
  have := p.low; have := T.tall_nonneg l.raw; simp only [N.raw, T.tall] at *; omega⟩

theorem N.In.drew2 {w : World} {t : N} (h : t.In w) : t.In w.drew.drew := h.drew.drew

/-- What the step leaves. -/
def Done (t : N) (w : World) (e : Ending) (w' : World) : Prop :=
  ∃ t' : N, e = .returned t'.ptr ∧ t'.In w' ∧ t'.raw = T.reb t.raw ∧ t'.ids.Perm t.ids ∧ Fr (· ∈ t.ids) w w'

theorem perm_node_r {b : Nat} {k v h h' : Int} {l r r' : N} (p : r'.ids.Perm r.ids) : (N.node b k v h' l r').ids.Perm (N.node b k v h l r).ids :=
  List.Perm.cons _ (List.Perm.append_left _ p)
theorem perm_node_l {b : Nat} {k v h h' : Int} {l l' r : N} (p : l'.ids.Perm l.ids) : (N.node b k v h' l' r).ids.Perm (N.node b k v h l r).ids :=
  List.Perm.cons _ (List.Perm.append_right _ p)

theorem reb_nil (w : World) : Calls Try.prog 58 #[.pointer none] w (Done .nil w) := by
  go_enter Try.func58, Try.ntmps58
  go_wp2
  go_ret
  exact ⟨.nil, rfl, trivial, rfl, List.Perm.refl _, Fr.refl _ _⟩

set_option maxHeartbeats 800000 in
set_option maxRecDepth 100000 in
theorem reb_keep (b : Nat) (k v h : Int) (l r : N) (w : World) (hin : (N.node b k v h l r).In w) (nd : (N.node b k v h l r).ids.Nodup) (pl : Part l) (pr : Part r)
    (c1 : ¬ l.raw.ht - r.raw.ht ≤ -2) (c2 : ¬ l.raw.ht - r.raw.ht ≥ 2) :
    Calls Try.prog 58 #[.pointer (some ⟨b, 0, none⟩)] w (Done (.node b k v h l r) w) := by
  have bl := pl.hb
  have br := pr.hb
  have HC : Hid (¬ l.raw.ht - r.raw.ht ≤ -2 ∧ ¬ l.raw.ht - r.raw.ht ≥ 2) := ⟨c1, c2⟩
  obtain ⟨n1, n2, _, _, _⟩ := nodup_node nd
  have HN : Hid (b ∉ l.ids ∧ b ∉ r.ids) := ⟨n1, n2⟩
  have HI : Hid ((N.node b k v h l r).In w) := hin
  clear hin nd n1 n2 pl pr
  go_enter Try.func58, Try.ntmps58
  go_wp2_with fail
  refine (recalc_any b k v h l r w HI.out (by omega) (by omega)).mono ?_
  rintro e w1 ⟨rfl, B1, F1⟩
  have i3 : w1.cell? ⟨b, 3, none⟩ = some l.ptr := B1.cell 3
  have i4 : w1.cell? ⟨b, 4, none⟩ = some r.ptr := B1.cell 4
  have HJ : Hid (Blk w1 b #[.int .i64 k, .int .i64 v, .int .i64 (1 + max (N.raw l).ht (N.raw r).ht), N.ptr l, N.ptr r] 119 ∧ Fr (· = b) w w1 ∧ N.In w1 l ∧ N.In w1 r) :=
    ⟨B1, F1, N.In.fr F1 HI.out.2.1 (fun x hx e => HN.out.1 (e ▸ hx)), N.In.fr F1 HI.out.2.2 (fun x hx e => HN.out.2 (e ▸ hx))⟩
  clear B1 F1
  go_wp2_with fail
  refine still_drew (by kernel_rfl) (by kernel_rfl) ?_
  repeat still_step
  still_call (getHeight_any l _ HJ.out.2.2.1.drew)
  repeat still_step
  still_call (getHeight_any r _ HJ.out.2.2.2.drew)
  repeat still_step
  refine wpStill_nil ?_
  go_wp2
  go_ret
  obtain ⟨B1, F1, I1, I2⟩ := HJ.out
  refine ⟨.node b k v (1 + max l.raw.ht r.raw.ht) l r, rfl, ⟨B1.drew, I1.drew, I2.drew⟩, ?_, List.Perm.refl _, (F1.drew).mono (fun n _ e => by rw [e]; simp [N.ids])⟩
  simp only [N.raw, T.reb]
  have := HC.out
  rw [if_neg (by omega), if_neg (by omega)]; rfl

set_option maxHeartbeats 1600000 in
set_option maxRecDepth 100000 in
theorem reb_L1 (b : Nat) (k v h : Int) (l : N) (b2 : Nat) (k2 v2 h2 : Int) (rl rr : N) (w : World) (hin : (N.node b k v h l (.node b2 k2 v2 h2 rl rr)).In w) (nd : (N.node b k v h l (.node b2 k2 v2 h2 rl rr)).ids.Nodup) (pl : Part l) (pr : Part (.node b2 k2 v2 h2 rl rr))
    (c1 : l.raw.ht - (N.raw (.node b2 k2 v2 h2 rl rr)).ht ≤ -2) (c2 : ¬ (N.raw rl).ht > rr.raw.ht) :
    Calls Try.prog 58 #[.pointer (some ⟨b, 0, none⟩)] w (Done (N.node b k v h l (.node b2 k2 v2 h2 rl rr)) w) := by
  have bl := pl.hb
  have br := pr.hb
  have p1 := pr.left.hb
  have p2 := pr.rght.hb
  have HC : Hid (l.raw.ht - (N.raw (.node b2 k2 v2 h2 rl rr)).ht ≤ -2 ∧ ¬ (N.raw rl).ht > rr.raw.ht) := ⟨c1, c2⟩
  have ND : Hid ((N.node b k v h l (.node b2 k2 v2 h2 rl rr)).ids.Nodup) := nd
  obtain ⟨n1, n2, n3, n4, n5⟩ := nodup_node nd
  have HN : Hid (b ∉ N.ids l ∧ b ∉ N.ids (.node b2 k2 v2 h2 rl rr) ∧ (N.ids l).Nodup ∧ (N.ids (.node b2 k2 v2 h2 rl rr)).Nodup ∧ ∀ x ∈ N.ids l, x ∉ N.ids (.node b2 k2 v2 h2 rl rr)) := ⟨n1, n2, n3, n4, n5⟩
  have HI : Hid ((N.node b k v h l (.node b2 k2 v2 h2 rl rr)).In w) := hin
  clear hin nd n1 n2 n3 n4 n5 pl pr
  go_enter Try.func58, Try.ntmps58
  go_wp2_with fail
  refine (recalc_any b k v h l (.node b2 k2 v2 h2 rl rr) w HI.out (by omega) (by omega)).mono ?_
  rintro e w1 ⟨rfl, B1, F1⟩
  have i3 : w1.cell? ⟨b, 3, none⟩ = some l.ptr := B1.cell 3
  have i4 : w1.cell? ⟨b, 4, none⟩ = some (.pointer (some ⟨b2, 0, none⟩)) := B1.cell 4
  have HJ : Hid (Blk w1 b #[.int .i64 k, .int .i64 v, .int .i64 (1 + max (N.raw l).ht (N.raw (.node b2 k2 v2 h2 rl rr)).ht), N.ptr l, N.ptr (.node b2 k2 v2 h2 rl rr)] 119 ∧ Fr (· = b) w w1 ∧ N.In w1 l ∧ N.In w1 (.node b2 k2 v2 h2 rl rr)) :=
    ⟨B1, F1, N.In.fr F1 HI.out.2.1 (fun x hx e => HN.out.1 (e ▸ hx)), N.In.fr F1 HI.out.2.2 (fun x hx e => HN.out.2.1 (e ▸ hx))⟩
  clear B1 F1
  have j3 : w1.cell? ⟨b2, 3, none⟩ = some rl.ptr := HJ.out.2.2.2.1.cell 3
  have j4 : w1.cell? ⟨b2, 4, none⟩ = some rr.ptr := HJ.out.2.2.2.1.cell 4
  go_wp2_with fail
  refine still_drew (by kernel_rfl) (by kernel_rfl) ?_
  repeat still_step
  still_call (getHeight_any l _ HJ.out.2.2.1.drew)
  repeat still_step
  still_call (getHeight_any (.node b2 k2 v2 h2 rl rr) _ HJ.out.2.2.2.drew)
  repeat still_step
  refine wpStill_nil ?_
  go_wp2_with fail
  refine still_drew (by kernel_rfl) (by kernel_rfl) ?_
  repeat still_step
  still_call (getHeight_any rl _ HJ.out.2.2.2.2.1.drew2)
  repeat still_step
  still_call (getHeight_any rr _ HJ.out.2.2.2.2.2.drew2)
  repeat still_step
  refine wpStill_nil ?_
  go_wp2_with fail
  refine (rotL_any b k v (1 + max l.raw.ht (N.raw (.node b2 k2 v2 h2 rl rr)).ht) l b2 k2 v2 h2 rl rr _ ⟨HJ.out.1.drew.drew, HJ.out.2.2.1.drew2, HJ.out.2.2.2.drew2⟩ ND.out (by unfold Hb; omega) (by unfold Hb; omega) (by unfold Hb; omega)).mono ?_
  rintro e w2 ⟨rfl, I2, F2⟩
  have HK : Hid (_ ∧ _) := ⟨I2, F2⟩
  clear I2 F2
  go_wp2
  go_ret
  refine ⟨N.turnL (.node b k v 0 l (.node b2 k2 v2 h2 rl rr)), rfl, HK.out.1, ?_, perm_turnL _, (((HJ.out.2.1.drew.drew).mono (S' := fun n => n = b ∨ n = b2) (fun _ _ e => .inl e)).trans HK.out.2 (fun _ _ h => h)).mono (fun n _ h => h.elim (fun e => by rw [e]; simp [N.ids]) (fun e => by rw [e]; simp [N.ids]))⟩
  have q := HC.out
  exact (T.reb_L1 q.1 (by omega)).symm

set_option maxHeartbeats 1600000 in
set_option maxRecDepth 100000 in
theorem reb_L2 (b : Nat) (k v h : Int) (l : N) (b2 : Nat) (k2 v2 h2 : Int) (b3 : Nat) (k3 v3 h3 : Int) (tx ty : N) (rr : N) (w : World) (hin : (N.node b k v h l (.node b2 k2 v2 h2 (.node b3 k3 v3 h3 tx ty) rr)).In w) (nd : (N.node b k v h l (.node b2 k2 v2 h2 (.node b3 k3 v3 h3 tx ty) rr)).ids.Nodup) (pl : Part l) (pr : Part (.node b2 k2 v2 h2 (.node b3 k3 v3 h3 tx ty) rr))
    (c1 : l.raw.ht - (N.raw (.node b2 k2 v2 h2 (.node b3 k3 v3 h3 tx ty) rr)).ht ≤ -2) (c2 :  (N.raw (.node b3 k3 v3 h3 tx ty)).ht > rr.raw.ht) :
    Calls Try.prog 58 #[.pointer (some ⟨b, 0, none⟩)] w (Done (N.node b k v h l (.node b2 k2 v2 h2 (.node b3 k3 v3 h3 tx ty) rr)) w) := by
  have bl := pl.hb
  have br := pr.hb
  have p1 := pr.left.hb
  have p2 := pr.rght.hb
  have p3 := pr.left.left.hb
  have p4 := pr.left.rght.hb
  have HC : Hid (l.raw.ht - (N.raw (.node b2 k2 v2 h2 (.node b3 k3 v3 h3 tx ty) rr)).ht ≤ -2 ∧ (N.raw (.node b3 k3 v3 h3 tx ty)).ht > rr.raw.ht) := ⟨c1, c2⟩
  have ND : Hid ((N.node b k v h l (.node b2 k2 v2 h2 (.node b3 k3 v3 h3 tx ty) rr)).ids.Nodup) := nd
  obtain ⟨n1, n2, n3, n4, n5⟩ := nodup_node nd
  have HN : Hid (b ∉ N.ids l ∧ b ∉ N.ids (.node b2 k2 v2 h2 (.node b3 k3 v3 h3 tx ty) rr) ∧ (N.ids l).Nodup ∧ (N.ids (.node b2 k2 v2 h2 (.node b3 k3 v3 h3 tx ty) rr)).Nodup ∧ ∀ x ∈ N.ids l, x ∉ N.ids (.node b2 k2 v2 h2 (.node b3 k3 v3 h3 tx ty) rr)) := ⟨n1, n2, n3, n4, n5⟩
  have HI : Hid ((N.node b k v h l (.node b2 k2 v2 h2 (.node b3 k3 v3 h3 tx ty) rr)).In w) := hin
  clear hin nd n1 n2 n3 n4 n5 pl pr
  go_enter Try.func58, Try.ntmps58
  go_wp2_with fail
  refine (recalc_any b k v h l (.node b2 k2 v2 h2 (.node b3 k3 v3 h3 tx ty) rr) w HI.out (by omega) (by omega)).mono ?_
  rintro e w1 ⟨rfl, B1, F1⟩
  have i3 : w1.cell? ⟨b, 3, none⟩ = some l.ptr := B1.cell 3
  have i4 : w1.cell? ⟨b, 4, none⟩ = some (.pointer (some ⟨b2, 0, none⟩)) := B1.cell 4
  have HJ : Hid (Blk w1 b #[.int .i64 k, .int .i64 v, .int .i64 (1 + max (N.raw l).ht (N.raw (.node b2 k2 v2 h2 (.node b3 k3 v3 h3 tx ty) rr)).ht), N.ptr l, N.ptr (.node b2 k2 v2 h2 (.node b3 k3 v3 h3 tx ty) rr)] 119 ∧ Fr (· = b) w w1 ∧ N.In w1 l ∧ N.In w1 (.node b2 k2 v2 h2 (.node b3 k3 v3 h3 tx ty) rr)) :=
    ⟨B1, F1, N.In.fr F1 HI.out.2.1 (fun x hx e => HN.out.1 (e ▸ hx)), N.In.fr F1 HI.out.2.2 (fun x hx e => HN.out.2.1 (e ▸ hx))⟩
  clear B1 F1
  have j3 : w1.cell? ⟨b2, 3, none⟩ = some (.pointer (some ⟨b3, 0, none⟩)) := HJ.out.2.2.2.1.cell 3
  have j4 : w1.cell? ⟨b2, 4, none⟩ = some rr.ptr := HJ.out.2.2.2.1.cell 4
  go_wp2_with fail
  refine still_drew (by kernel_rfl) (by kernel_rfl) ?_
  repeat still_step
  still_call (getHeight_any l _ HJ.out.2.2.1.drew)
  repeat still_step
  still_call (getHeight_any (.node b2 k2 v2 h2 (.node b3 k3 v3 h3 tx ty) rr) _ HJ.out.2.2.2.drew)
  repeat still_step
  refine wpStill_nil ?_
  go_wp2_with fail
  refine still_drew (by kernel_rfl) (by kernel_rfl) ?_
  repeat still_step
  still_call (getHeight_any (.node b3 k3 v3 h3 tx ty) _ HJ.out.2.2.2.2.1.drew2)
  repeat still_step
  still_call (getHeight_any rr _ HJ.out.2.2.2.2.2.drew2)
  repeat still_step
  refine wpStill_nil ?_
  go_wp2_with fail
  refine (rotR_any b2 k2 v2 h2 rr b3 k3 v3 h3 tx ty _ HJ.out.2.2.2.drew2 HN.out.2.2.2.1 (by unfold Hb; omega) (by unfold Hb; omega) (by unfold Hb; omega)).mono ?_
  rintro e w2 ⟨rfl, I2, F2⟩
  have B2 : Blk w2 b #[.int .i64 k, .int .i64 v, .int .i64 (1 + max (N.raw l).ht (N.raw (.node b2 k2 v2 h2 (.node b3 k3 v3 h3 tx ty) rr)).ht), l.ptr, (.pointer (some ⟨b2, 0, none⟩))] 119 := HJ.out.1.drew.drew.fr F2 (fun h => h.elim (fun e => HN.out.2.1 (by simp [N.ids, e])) (fun e => HN.out.2.1 (by simp [N.ids, e])))
  have I3 : N.In w2 l := N.In.fr F2 HJ.out.2.2.1.drew2 (fun x hx h => h.elim (fun e => HN.out.2.2.2.2 x hx (by simp [N.ids, e])) (fun e => HN.out.2.2.2.2 x hx (by simp [N.ids, e])))
  have q4 : w2.cell? ⟨b, 4, none⟩ = some (.pointer (some ⟨b2, 0, none⟩)) := B2.cell 4
  have r4 : w2.frozen? ⟨b, 4, none⟩ = false := B2.free 4
  have HK : Hid (_ ∧ _ ∧ _ ∧ _) := ⟨B2, I2, I3, F2⟩
  clear B2 I2 I3 F2
  go_wp2_with fail
  have F4 : Fr (· = b) w2 (w2.setCell ⟨b, 4, none⟩ (.pointer (some ⟨b3, 0, none⟩))) := Fr.setCell (S := (· = b)) (Fr.refl _ _) (p := ⟨b, 4, none⟩) (fun _ => rfl) _
  have B4 : Blk (w2.setCell ⟨b, 4, none⟩ (.pointer (some ⟨b3, 0, none⟩))) b #[.int .i64 k, .int .i64 v, .int .i64 (1 + max (N.raw l).ht (N.raw (.node b2 k2 v2 h2 (.node b3 k3 v3 h3 tx ty) rr)).ht), l.ptr, (.pointer (some ⟨b3, 0, none⟩))] 119 := HK.out.1.set 4 _
  have I4 : N.In (w2.setCell ⟨b, 4, none⟩ (.pointer (some ⟨b3, 0, none⟩))) (N.turnR (.node b2 k2 v2 h2 (.node b3 k3 v3 h3 tx ty) rr)) := N.In.fr F4 HK.out.2.1 (fun x hx e => HN.out.2.1 ((perm_turnR _).mem_iff.1 (e ▸ hx)))
  have I5 : N.In (w2.setCell ⟨b, 4, none⟩ (.pointer (some ⟨b3, 0, none⟩))) l := N.In.fr F4 HK.out.2.2.1 (fun x hx e => HN.out.1 (e ▸ hx))
  have HM : Hid (_ ∧ _ ∧ _ ∧ _) := ⟨F4, B4, I4, I5⟩
  refine (rotL_any b k v (1 + max (N.raw l).ht (N.raw (.node b2 k2 v2 h2 (.node b3 k3 v3 h3 tx ty) rr)).ht) l b3 k3 v3 _ tx (.node b2 k2 v2 (1 + max ty.raw.ht rr.raw.ht) ty rr) _ ⟨B4, I5, I4⟩ ((perm_node_r (perm_turnR (.node b2 k2 v2 h2 (.node b3 k3 v3 h3 tx ty) rr))).nodup_iff.2 ND.out) (by unfold Hb; omega) (by unfold Hb; omega) (by show 0 ≤ 1 + max ty.raw.ht rr.raw.ht ∧ 1 + max ty.raw.ht rr.raw.ht ≤ 4294967000; omega)).mono ?_
  clear F4 B4 I4 I5
  rintro e w3 ⟨rfl, I6, F6⟩
  have HQ : Hid (_ ∧ _) := ⟨I6, F6⟩
  clear I6 F6
  go_wp2
  go_ret
  refine ⟨N.turnL (.node b k v 0 l (N.turnR (.node b2 k2 v2 h2 (.node b3 k3 v3 h3 tx ty) rr))), rfl, HQ.out.1, ?_, (perm_turnL _).trans (perm_node_r (perm_turnR _)), (((((HJ.out.2.1.drew.drew).mono (S' := fun n => n = b ∨ n = b2 ∨ n = b3) (fun _ _ e => .inl e)).trans (HK.out.2.2.2) (fun _ _ h => .inr h)).trans HM.out.1 (fun _ _ h => .inl h)).trans HQ.out.2 (fun n _ h => h.elim .inl (fun e => .inr (.inr e)))).mono (fun n _ h => h.elim (fun e => by rw [e]; simp [N.ids]) (fun h => h.elim (fun e => by rw [e]; simp [N.ids]) (fun e => by rw [e]; simp [N.ids])))⟩
  have q := HC.out
  exact (T.reb_L2 q.1 q.2).symm

set_option maxHeartbeats 1600000 in
set_option maxRecDepth 100000 in
theorem reb_R1 (b : Nat) (k v h : Int) (b2 : Nat) (k2 v2 h2 : Int) (ll lr : N) (r : N) (w : World) (hin : (N.node b k v h (.node b2 k2 v2 h2 ll lr) r).In w) (nd : (N.node b k v h (.node b2 k2 v2 h2 ll lr) r).ids.Nodup) (pl : Part (.node b2 k2 v2 h2 ll lr)) (pr : Part r)
    (c1 : (N.raw (.node b2 k2 v2 h2 ll lr)).ht - r.raw.ht ≥ 2) (c2 : ¬ (N.raw lr).ht > ll.raw.ht) :
    Calls Try.prog 58 #[.pointer (some ⟨b, 0, none⟩)] w (Done (N.node b k v h (.node b2 k2 v2 h2 ll lr) r) w) := by
  have bl := pl.hb
  have br := pr.hb
  have p1 := pl.left.hb
  have p2 := pl.rght.hb
  have HC : Hid ((N.raw (.node b2 k2 v2 h2 ll lr)).ht - r.raw.ht ≥ 2 ∧ ¬ (N.raw lr).ht > ll.raw.ht) := ⟨c1, c2⟩
  have ND : Hid ((N.node b k v h (.node b2 k2 v2 h2 ll lr) r).ids.Nodup) := nd
  obtain ⟨n1, n2, n3, n4, n5⟩ := nodup_node nd
  have HN : Hid (b ∉ N.ids (.node b2 k2 v2 h2 ll lr) ∧ b ∉ N.ids r ∧ (N.ids (.node b2 k2 v2 h2 ll lr)).Nodup ∧ (N.ids r).Nodup ∧ ∀ x ∈ N.ids (.node b2 k2 v2 h2 ll lr), x ∉ N.ids r) := ⟨n1, n2, n3, n4, n5⟩
  have HI : Hid ((N.node b k v h (.node b2 k2 v2 h2 ll lr) r).In w) := hin
  clear hin nd n1 n2 n3 n4 n5 pl pr
  go_enter Try.func58, Try.ntmps58
  go_wp2_with fail
  refine (recalc_any b k v h (.node b2 k2 v2 h2 ll lr) r w HI.out (by omega) (by omega)).mono ?_
  rintro e w1 ⟨rfl, B1, F1⟩
  have i3 : w1.cell? ⟨b, 3, none⟩ = some (.pointer (some ⟨b2, 0, none⟩)) := B1.cell 3
  have i4 : w1.cell? ⟨b, 4, none⟩ = some r.ptr := B1.cell 4
  have HJ : Hid (Blk w1 b #[.int .i64 k, .int .i64 v, .int .i64 (1 + max (N.raw (.node b2 k2 v2 h2 ll lr)).ht (N.raw r).ht), N.ptr (.node b2 k2 v2 h2 ll lr), N.ptr r] 119 ∧ Fr (· = b) w w1 ∧ N.In w1 (.node b2 k2 v2 h2 ll lr) ∧ N.In w1 r) :=
    ⟨B1, F1, N.In.fr F1 HI.out.2.1 (fun x hx e => HN.out.1 (e ▸ hx)), N.In.fr F1 HI.out.2.2 (fun x hx e => HN.out.2.1 (e ▸ hx))⟩
  clear B1 F1
  have j4 : w1.cell? ⟨b2, 4, none⟩ = some lr.ptr := HJ.out.2.2.1.1.cell 4
  have j3 : w1.cell? ⟨b2, 3, none⟩ = some ll.ptr := HJ.out.2.2.1.1.cell 3
  go_wp2_with fail
  refine still_drew (by kernel_rfl) (by kernel_rfl) ?_
  repeat still_step
  still_call (getHeight_any (.node b2 k2 v2 h2 ll lr) _ HJ.out.2.2.1.drew)
  repeat still_step
  still_call (getHeight_any r _ HJ.out.2.2.2.drew)
  repeat still_step
  refine wpStill_nil ?_
  go_wp2_with fail
  refine still_drew (by kernel_rfl) (by kernel_rfl) ?_
  repeat still_step
  still_call (getHeight_any lr _ HJ.out.2.2.1.2.2.drew2)
  repeat still_step
  still_call (getHeight_any ll _ HJ.out.2.2.1.2.1.drew2)
  repeat still_step
  refine wpStill_nil ?_
  go_wp2_with fail
  refine (rotR_any b k v (1 + max (N.raw (.node b2 k2 v2 h2 ll lr)).ht r.raw.ht) r b2 k2 v2 h2 ll lr _ ⟨HJ.out.1.drew.drew, HJ.out.2.2.1.drew2, HJ.out.2.2.2.drew2⟩ ND.out (by unfold Hb; omega) (by unfold Hb; omega) (by unfold Hb; omega)).mono ?_
  rintro e w2 ⟨rfl, I2, F2⟩
  have HK : Hid (_ ∧ _) := ⟨I2, F2⟩
  clear I2 F2
  go_wp2
  go_ret
  refine ⟨N.turnR (.node b k v 0 (.node b2 k2 v2 h2 ll lr) r), rfl, HK.out.1, ?_, perm_turnR _, (((HJ.out.2.1.drew.drew).mono (S' := fun n => n = b ∨ n = b2) (fun _ _ e => .inl e)).trans HK.out.2 (fun _ _ h => h)).mono (fun n _ h => h.elim (fun e => by rw [e]; simp [N.ids]) (fun e => by rw [e]; simp [N.ids]))⟩
  have q := HC.out
  exact (T.reb_R1 q.1 (by omega)).symm

set_option maxHeartbeats 1600000 in
set_option maxRecDepth 100000 in
theorem reb_R2 (b : Nat) (k v h : Int) (b2 : Nat) (k2 v2 h2 : Int) (ll : N) (b3 : Nat) (k3 v3 h3 : Int) (tx ty : N) (r : N) (w : World) (hin : (N.node b k v h (.node b2 k2 v2 h2 ll (.node b3 k3 v3 h3 tx ty)) r).In w) (nd : (N.node b k v h (.node b2 k2 v2 h2 ll (.node b3 k3 v3 h3 tx ty)) r).ids.Nodup) (pl : Part (.node b2 k2 v2 h2 ll (.node b3 k3 v3 h3 tx ty))) (pr : Part r)
    (c1 : (N.raw (.node b2 k2 v2 h2 ll (.node b3 k3 v3 h3 tx ty))).ht - r.raw.ht ≥ 2) (c2 :  (N.raw (.node b3 k3 v3 h3 tx ty)).ht > ll.raw.ht) :
    Calls Try.prog 58 #[.pointer (some ⟨b, 0, none⟩)] w (Done (N.node b k v h (.node b2 k2 v2 h2 ll (.node b3 k3 v3 h3 tx ty)) r) w) := by
  have bl := pl.hb
  have br := pr.hb
  have p1 := pl.left.hb
  have p2 := pl.rght.hb
  have p3 := pl.rght.left.hb
  have p4 := pl.rght.rght.hb
  have HC : Hid ((N.raw (.node b2 k2 v2 h2 ll (.node b3 k3 v3 h3 tx ty))).ht - r.raw.ht ≥ 2 ∧ (N.raw (.node b3 k3 v3 h3 tx ty)).ht > ll.raw.ht) := ⟨c1, c2⟩
  have ND : Hid ((N.node b k v h (.node b2 k2 v2 h2 ll (.node b3 k3 v3 h3 tx ty)) r).ids.Nodup) := nd
  obtain ⟨n1, n2, n3, n4, n5⟩ := nodup_node nd
  have HN : Hid (b ∉ N.ids (.node b2 k2 v2 h2 ll (.node b3 k3 v3 h3 tx ty)) ∧ b ∉ N.ids r ∧ (N.ids (.node b2 k2 v2 h2 ll (.node b3 k3 v3 h3 tx ty))).Nodup ∧ (N.ids r).Nodup ∧ ∀ x ∈ N.ids (.node b2 k2 v2 h2 ll (.node b3 k3 v3 h3 tx ty)), x ∉ N.ids r) := ⟨n1, n2, n3, n4, n5⟩
  have HI : Hid ((N.node b k v h (.node b2 k2 v2 h2 ll (.node b3 k3 v3 h3 tx ty)) r).In w) := hin
  clear hin nd n1 n2 n3 n4 n5 pl pr
  go_enter Try.func58, Try.ntmps58
  go_wp2_with fail
  refine (recalc_any b k v h (.node b2 k2 v2 h2 ll (.node b3 k3 v3 h3 tx ty)) r w HI.out (by omega) (by omega)).mono ?_
  rintro e w1 ⟨rfl, B1, F1⟩
  have i3 : w1.cell? ⟨b, 3, none⟩ = some (.pointer (some ⟨b2, 0, none⟩)) := B1.cell 3
  have i4 : w1.cell? ⟨b, 4, none⟩ = some r.ptr := B1.cell 4
  have HJ : Hid (Blk w1 b #[.int .i64 k, .int .i64 v, .int .i64 (1 + max (N.raw (.node b2 k2 v2 h2 ll (.node b3 k3 v3 h3 tx ty))).ht (N.raw r).ht), N.ptr (.node b2 k2 v2 h2 ll (.node b3 k3 v3 h3 tx ty)), N.ptr r] 119 ∧ Fr (· = b) w w1 ∧ N.In w1 (.node b2 k2 v2 h2 ll (.node b3 k3 v3 h3 tx ty)) ∧ N.In w1 r) :=
    ⟨B1, F1, N.In.fr F1 HI.out.2.1 (fun x hx e => HN.out.1 (e ▸ hx)), N.In.fr F1 HI.out.2.2 (fun x hx e => HN.out.2.1 (e ▸ hx))⟩
  clear B1 F1
  have j4 : w1.cell? ⟨b2, 4, none⟩ = some (.pointer (some ⟨b3, 0, none⟩)) := HJ.out.2.2.1.1.cell 4
  have j3 : w1.cell? ⟨b2, 3, none⟩ = some ll.ptr := HJ.out.2.2.1.1.cell 3
  go_wp2_with fail
  refine still_drew (by kernel_rfl) (by kernel_rfl) ?_
  repeat still_step
  still_call (getHeight_any (.node b2 k2 v2 h2 ll (.node b3 k3 v3 h3 tx ty)) _ HJ.out.2.2.1.drew)
  repeat still_step
  still_call (getHeight_any r _ HJ.out.2.2.2.drew)
  repeat still_step
  refine wpStill_nil ?_
  go_wp2_with fail
  refine still_drew (by kernel_rfl) (by kernel_rfl) ?_
  repeat still_step
  still_call (getHeight_any (.node b3 k3 v3 h3 tx ty) _ HJ.out.2.2.1.2.2.drew2)
  repeat still_step
  still_call (getHeight_any ll _ HJ.out.2.2.1.2.1.drew2)
  repeat still_step
  refine wpStill_nil ?_
  go_wp2_with fail
  refine (rotL_any b2 k2 v2 h2 ll b3 k3 v3 h3 tx ty _ HJ.out.2.2.1.drew2 HN.out.2.2.1 (by unfold Hb; omega) (by unfold Hb; omega) (by unfold Hb; omega)).mono ?_
  rintro e w2 ⟨rfl, I2, F2⟩
  have B2 : Blk w2 b #[.int .i64 k, .int .i64 v, .int .i64 (1 + max (N.raw (.node b2 k2 v2 h2 ll (.node b3 k3 v3 h3 tx ty))).ht (N.raw r).ht), (.pointer (some ⟨b2, 0, none⟩)), r.ptr] 119 := HJ.out.1.drew.drew.fr F2 (fun h => h.elim (fun e => HN.out.1 (by simp [N.ids, e])) (fun e => HN.out.1 (by simp [N.ids, e])))
  have I3 : N.In w2 r := N.In.fr F2 HJ.out.2.2.2.drew2 (fun x hx h => h.elim (fun e => HN.out.2.2.2.2 b2 (by simp [N.ids]) (e ▸ hx)) (fun e => HN.out.2.2.2.2 b3 (by simp [N.ids]) (e ▸ hx)))
  have q4 : w2.cell? ⟨b, 3, none⟩ = some (.pointer (some ⟨b2, 0, none⟩)) := B2.cell 3
  have r4 : w2.frozen? ⟨b, 3, none⟩ = false := B2.free 3
  have HK : Hid (_ ∧ _ ∧ _ ∧ _) := ⟨B2, I2, I3, F2⟩
  clear B2 I2 I3 F2
  go_wp2_with fail
  have F4 : Fr (· = b) w2 (w2.setCell ⟨b, 3, none⟩ (.pointer (some ⟨b3, 0, none⟩))) := Fr.setCell (S := (· = b)) (Fr.refl _ _) (p := ⟨b, 3, none⟩) (fun _ => rfl) _
  have B4 : Blk (w2.setCell ⟨b, 3, none⟩ (.pointer (some ⟨b3, 0, none⟩))) b #[.int .i64 k, .int .i64 v, .int .i64 (1 + max (N.raw (.node b2 k2 v2 h2 ll (.node b3 k3 v3 h3 tx ty))).ht (N.raw r).ht), (.pointer (some ⟨b3, 0, none⟩)), r.ptr] 119 := HK.out.1.set 3 _
  have I4 : N.In (w2.setCell ⟨b, 3, none⟩ (.pointer (some ⟨b3, 0, none⟩))) (N.turnL (.node b2 k2 v2 h2 ll (.node b3 k3 v3 h3 tx ty))) := N.In.fr F4 HK.out.2.1 (fun x hx e => HN.out.1 ((perm_turnL _).mem_iff.1 (e ▸ hx)))
  have I5 : N.In (w2.setCell ⟨b, 3, none⟩ (.pointer (some ⟨b3, 0, none⟩))) r := N.In.fr F4 HK.out.2.2.1 (fun x hx e => HN.out.2.1 (e ▸ hx))
  have HM : Hid (_ ∧ _ ∧ _ ∧ _) := ⟨F4, B4, I4, I5⟩
  refine (rotR_any b k v (1 + max (N.raw (.node b2 k2 v2 h2 ll (.node b3 k3 v3 h3 tx ty))).ht (N.raw r).ht) r b3 k3 v3 _ (.node b2 k2 v2 (1 + max ll.raw.ht tx.raw.ht) ll tx) ty _ ⟨B4, I4, I5⟩ ((perm_node_l (perm_turnL (.node b2 k2 v2 h2 ll (.node b3 k3 v3 h3 tx ty)))).nodup_iff.2 ND.out) (by unfold Hb; omega) (by show 0 ≤ 1 + max ll.raw.ht tx.raw.ht ∧ 1 + max ll.raw.ht tx.raw.ht ≤ 4294967000; omega) (by unfold Hb; omega)).mono ?_
  clear F4 B4 I4 I5
  rintro e w3 ⟨rfl, I6, F6⟩
  have HQ : Hid (_ ∧ _) := ⟨I6, F6⟩
  clear I6 F6
  go_wp2
  go_ret
  refine ⟨N.turnR (.node b k v 0 (N.turnL (.node b2 k2 v2 h2 ll (.node b3 k3 v3 h3 tx ty))) r), rfl, HQ.out.1, ?_, (perm_turnR _).trans (perm_node_l (perm_turnL _)), (((((HJ.out.2.1.drew.drew).mono (S' := fun n => n = b ∨ n = b2 ∨ n = b3) (fun _ _ e => .inl e)).trans (HK.out.2.2.2) (fun _ _ h => .inr h)).trans HM.out.1 (fun _ _ h => .inl h)).trans HQ.out.2 (fun n _ h => h.elim .inl (fun e => .inr (.inr e)))).mono (fun n _ h => h.elim (fun e => by rw [e]; simp [N.ids]) (fun h => h.elim (fun e => by rw [e]; simp [N.ids]) (fun e => by rw [e]; simp [N.ids])))⟩
  have q := HC.out
  exact (T.reb_R2 q.1 q.2).symm

end Go.Proofs.Ytjlcebgfknfelaa.Avl
