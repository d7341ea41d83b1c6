/- Interval trees in memory: the rebalancing step. For every tree whose two parts have right heights, not too great ones. -/
import Derived.Test.YtmnjkdbopafkfaaIntA
import Derived.Test.YtmnjkdbopafkfaaHk2
namespace Go.Proofs.Ytmnjkdbopafkfaa.Int
open Go Go.RowKit Go.Proofs.Ytmnjkdbopafkfaa.Hk Go.Proofs.Ytmnjkdbopafkfaa.IntPure Go.Proofs.Ytmnjkdbopafkfaa.IntPure.T

/-- What the step wants of the two parts of a root. -/
structure Part (t : N) : Prop where
  right : T.Right t.raw
  low : t.raw.tall ≤ 4294960000
theorem Part.hb {t : N} (h : Part t) : 0 ≤ t.raw.ht ∧ t.raw.ht ≤ 4294960000 := by
  have := T.tall_nonneg t.raw
  have e := h.right.ht
  have := h.low
  omega
theorem Part.left {b : Nat} {s : S} {h m : Int} {l r : N} (p : Part (.node b s h m l r)) : Part l := ⟨p.right.2.1, by
  have := p.low; have := T.tall_nonneg r.raw; simp only [N.raw, T.tall] at *; omega⟩
theorem Part.rght {b : Nat} {s : S} {h m : Int} {l r : N} (p : Part (.node b s h m l r)) : Part r := ⟨p.right.2.2, by
  have := p.low; have := T.tall_nonneg l.raw; simp only [N.raw, T.tall] at *; omega⟩
theorem N.In.drew2 {w : World} {t : N} (h : t.In w) : t.In w.drew.drew := h.drew.drew
theorem reb_L1e {s : S} {h m : Int} {l : T} {s2 : S} {h2 m2 : Int} {rl rr : T} (c1 : ht l - ht (node s2 h2 m2 rl rr) ≤ -2) (c2 : ¬ ht rl > ht rr) :
    reb (node s h m l (node s2 h2 m2 rl rr)) = rotL (T.mk s l (node s2 h2 m2 rl rr)) := by
  have c2' : ¬ ht (lf (node s2 h2 m2 rl rr)) > ht (rt (node s2 h2 m2 rl rr)) := c2
  simp only [reb]; rw [if_pos c1, if_neg c2']
theorem reb_L2e {s : S} {h m : Int} {l : T} {s2 : S} {h2 m2 : Int} {rl rr : T} (c1 : ht l - ht (node s2 h2 m2 rl rr) ≤ -2) (c2 : ht rl > ht rr) :
    reb (node s h m l (node s2 h2 m2 rl rr)) = rotL (T.mk s l (rotR (node s2 h2 m2 rl rr))) := by
  have c2' : ht (lf (node s2 h2 m2 rl rr)) > ht (rt (node s2 h2 m2 rl rr)) := c2
  simp only [reb]; rw [if_pos c1, if_pos c2']
theorem reb_R1e {s : S} {h m : Int} {r : T} {s2 : S} {h2 m2 : Int} {ll lr : T} (c1 : ht (node s2 h2 m2 ll lr) - ht r ≥ 2) (c2 : ¬ ht lr > ht ll) :
    reb (node s h m (node s2 h2 m2 ll lr) r) = rotR (T.mk s (node s2 h2 m2 ll lr) r) := by
  have c2' : ¬ ht (rt (node s2 h2 m2 ll lr)) > ht (lf (node s2 h2 m2 ll lr)) := c2
  simp only [reb]; rw [if_neg (by omega), if_pos c1, if_neg c2']
theorem reb_R2e {s : S} {h m : Int} {r : T} {s2 : S} {h2 m2 : Int} {ll lr : T} (c1 : ht (node s2 h2 m2 ll lr) - ht r ≥ 2) (c2 : ht lr > ht ll) :
    reb (node s h m (node s2 h2 m2 ll lr) r) = rotR (T.mk s (rotL (node s2 h2 m2 ll lr)) r) := by
  have c2' : ht (rt (node s2 h2 m2 ll lr)) > ht (lf (node s2 h2 m2 ll lr)) := c2
  simp only [reb]; rw [if_neg (by omega), if_pos c1, if_pos c2']

/-- What the step leaves. -/
def Done (t : N) (w : World) (e : Ending) (w' : World) : Prop :=
  ∃ t' : N, e = .returned t'.ptr ∧ t'.In w' ∧ t'.raw = T.reb t.raw ∧ t'.ids.Perm t.ids ∧ Fr (· ∈ t.ids) w w'
theorem perm_node_r {b : Nat} {s : S} {h m h' m' : Int} {l r r' : N} (p : r'.ids.Perm r.ids) : (N.node b s h' m' l r').ids.Perm (N.node b s h m l r).ids := List.Perm.cons _ (List.Perm.append_left _ p)
theorem perm_node_l {b : Nat} {s : S} {h m h' m' : Int} {l l' r : N} (p : l'.ids.Perm l.ids) : (N.node b s h' m' l' r).ids.Perm (N.node b s h m l r).ids := List.Perm.cons _ (List.Perm.append_right _ p)
theorem reb_nil (w : World) : Calls Try.prog 62 #[.pointer none] w (Done .nil w) := by
  go_enter Try.func62, Try.ntmps62
  go_wp2
  go_ret
  exact ⟨.nil, rfl, trivial, rfl, List.Perm.refl _, Fr.refl _ _⟩

set_option maxHeartbeats 1600000 in
set_option maxRecDepth 100000 in
theorem reb_K (b : Nat) (s : S) (h m : Int) (l r : N) (w : World) (hin : (N.node b s h m l r).In w) (nd : (N.node b s h m l r).ids.Nodup) (pl : Part l) (pr : Part r) (c1 : ¬ l.raw.ht - r.raw.ht ≤ -2) (c2 : ¬ l.raw.ht - r.raw.ht ≥ 2) :
    Calls Try.prog 62 #[.pointer (some ⟨b, 0, none⟩)] w (Done (N.node b s h m l r) w) := by
  have bl := pl.hb
  have br := pr.hb
  have HC : Hid (¬ l.raw.ht - r.raw.ht ≤ -2 ∧ ¬ l.raw.ht - r.raw.ht ≥ 2) := ⟨c1, c2⟩
  obtain ⟨n1, n2, n3, n4, n5⟩ := nodup_node nd
  have HN : Hid (b ∉ N.ids l ∧ b ∉ N.ids r ∧ (N.ids l).Nodup ∧ (N.ids r).Nodup ∧ (N.node b s h m l r).ids.Nodup) := ⟨n1, n2, n3, n4, nd⟩
  have HI : Hid ((N.node b s h m l r).In w) := hin
  clear hin nd n1 n2 n3 n4 n5 pl pr
  go_enter Try.func62, Try.ntmps62
  go_wp2_with fail
  refine (recalc_any b s h m l r w HI.out (by omega) (by omega)).mono ?_
  rintro e w1 ⟨rfl, B1, F1⟩
  have HJ : Hid _ := (⟨B1, F1, N.In.fr F1 HI.out.2.1 (fun x hx e => HN.out.1 (e ▸ hx)), N.In.fr F1 HI.out.2.2 (fun x hx e => HN.out.2.1 (e ▸ hx))⟩ : _ ∧ _ ∧ _ ∧ _)
  clear B1 F1
  go_wp2_with fail
  refine (updMax_any b s (1 + mxo (N.raw l).ht (N.raw r).ht) m l r w1 ⟨HJ.out.1, HJ.out.2.2.1, HJ.out.2.2.2⟩ HN.out.1 HN.out.2.1).mono ?_
  rintro e w2 ⟨rfl, B2, F2⟩
  have HK : Hid (Blk w2 b (cs s (1 + mxo (N.raw l).ht (N.raw r).ht) (upMax (upMax s.hi (N.raw r)) (N.raw l)) l r) 110 ∧ Fr (· = b) w w2 ∧ N.In w2 l ∧ N.In w2 r) :=
    ⟨B2, HJ.out.2.1.then F2, N.In.fr F2 HJ.out.2.2.1 (fun x hx e => HN.out.1 (e ▸ hx)), N.In.fr F2 HJ.out.2.2.2 (fun x hx e => HN.out.2.1 (e ▸ hx))⟩
  clear B2 F2 HJ
  have i4 : w2.cell? ⟨b, 4, none⟩ = some (N.ptr l) := HK.out.1.cell 4
  have i5 : w2.cell? ⟨b, 5, none⟩ = some (N.ptr r) := HK.out.1.cell 5
  go_wp2_with fail
  refine still_drew (by kernel_rfl) (by kernel_rfl) ?_
  repeat still_step
  still_call (getHeight_any l _ HK.out.2.2.1.drew)
  repeat still_step
  still_call (getHeight_any r _ HK.out.2.2.2.drew)
  repeat still_step
  refine wpStill_nil ?_
  go_wp2
  go_ret
  obtain ⟨B1, F1, I1, I2⟩ := HK.out
  refine ⟨N.mk b s l r, rfl, ⟨B1.drew, I1.drew, I2.drew⟩, ?_, List.Perm.refl _, (F1.drew).into (fun n e => by rw [e]; simp [N.ids])⟩
  simp only [N.raw, T.reb, raw_mk]
  have := HC.out
  rw [if_neg (by omega), if_neg (by omega)]

set_option maxHeartbeats 1600000 in
set_option maxRecDepth 100000 in
theorem reb_L1 (b : Nat) (s : S) (h m : Int) (l : N) (b2 : Nat) (s2 : S) (h2 m2 : Int) (rl rr : N) (w : World) (hin : (N.node b s h m l (.node b2 s2 h2 m2 rl rr)).In w) (nd : (N.node b s h m l (.node b2 s2 h2 m2 rl rr)).ids.Nodup) (pl : Part l) (pr : Part (.node b2 s2 h2 m2 rl rr)) (c1 : l.raw.ht - (N.raw (.node b2 s2 h2 m2 rl rr)).ht ≤ -2) (c2 : ¬ (N.raw rl).ht > rr.raw.ht) :
    Calls Try.prog 62 #[.pointer (some ⟨b, 0, none⟩)] w (Done (N.node b s h m l (.node b2 s2 h2 m2 rl rr)) w) := by
  have bl := pl.hb
  have br := pr.hb
  have p1 := pr.left.hb
  have p2 := pr.rght.hb
  have HC : Hid (l.raw.ht - (N.raw (.node b2 s2 h2 m2 rl rr)).ht ≤ -2 ∧ ¬ (N.raw rl).ht > rr.raw.ht) := ⟨c1, c2⟩
  obtain ⟨n1, n2, n3, n4, n5⟩ := nodup_node nd
  have HN : Hid (b ∉ N.ids l ∧ b ∉ N.ids (.node b2 s2 h2 m2 rl rr) ∧ (N.ids l).Nodup ∧ (N.ids (.node b2 s2 h2 m2 rl rr)).Nodup ∧ (N.node b s h m l (.node b2 s2 h2 m2 rl rr)).ids.Nodup) := ⟨n1, n2, n3, n4, nd⟩
  have HI : Hid ((N.node b s h m l (.node b2 s2 h2 m2 rl rr)).In w) := hin
  clear hin nd n1 n2 n3 n4 n5 pl pr
  go_enter Try.func62, Try.ntmps62
  go_wp2_with fail
  refine (recalc_any b s h m l (.node b2 s2 h2 m2 rl rr) w HI.out (by omega) (by omega)).mono ?_
  rintro e w1 ⟨rfl, B1, F1⟩
  have HJ : Hid _ := (⟨B1, F1, N.In.fr F1 HI.out.2.1 (fun x hx e => HN.out.1 (e ▸ hx)), N.In.fr F1 HI.out.2.2 (fun x hx e => HN.out.2.1 (e ▸ hx))⟩ : _ ∧ _ ∧ _ ∧ _)
  clear B1 F1
  go_wp2_with fail
  refine (updMax_any b s (1 + mxo (N.raw l).ht (N.raw (.node b2 s2 h2 m2 rl rr)).ht) m l (.node b2 s2 h2 m2 rl rr) w1 ⟨HJ.out.1, HJ.out.2.2.1, HJ.out.2.2.2⟩ HN.out.1 HN.out.2.1).mono ?_
  rintro e w2 ⟨rfl, B2, F2⟩
  have HK : Hid (Blk w2 b (cs s (1 + mxo (N.raw l).ht (N.raw (.node b2 s2 h2 m2 rl rr)).ht) (upMax (upMax s.hi (N.raw (.node b2 s2 h2 m2 rl rr))) (N.raw l)) l (.node b2 s2 h2 m2 rl rr)) 110 ∧ Fr (· = b) w w2 ∧ N.In w2 l ∧ N.In w2 (.node b2 s2 h2 m2 rl rr)) :=
    ⟨B2, HJ.out.2.1.then F2, N.In.fr F2 HJ.out.2.2.1 (fun x hx e => HN.out.1 (e ▸ hx)), N.In.fr F2 HJ.out.2.2.2 (fun x hx e => HN.out.2.1 (e ▸ hx))⟩
  clear B2 F2 HJ
  have i4 : w2.cell? ⟨b, 4, none⟩ = some (N.ptr l) := HK.out.1.cell 4
  have i5 : w2.cell? ⟨b, 5, none⟩ = some (.pointer (some ⟨b2, 0, none⟩)) := HK.out.1.cell 5
  have j4 : w2.cell? ⟨b2, 4, none⟩ = some (rl.ptr) := HK.out.2.2.2.1.cell 4
  have j5 : w2.cell? ⟨b2, 5, none⟩ = some (rr.ptr) := HK.out.2.2.2.1.cell 5
  go_wp2_with fail
  refine still_drew (by kernel_rfl) (by kernel_rfl) ?_
  repeat still_step
  still_call (getHeight_any l _ HK.out.2.2.1.drew)
  repeat still_step
  still_call (getHeight_any (.node b2 s2 h2 m2 rl rr) _ HK.out.2.2.2.drew)
  repeat still_step
  refine wpStill_nil ?_
  go_wp2_with fail
  refine still_drew (by kernel_rfl) (by kernel_rfl) ?_
  repeat still_step
  still_call (getHeight_any rl _ HK.out.2.2.2.2.1.drew2)
  repeat still_step
  still_call (getHeight_any rr _ HK.out.2.2.2.2.2.drew2)
  repeat still_step
  refine wpStill_nil ?_
  go_wp2_with fail
  refine (rotL_any b s (1 + mxo (N.raw l).ht (N.raw (.node b2 s2 h2 m2 rl rr)).ht) (upMax (upMax s.hi (N.raw (.node b2 s2 h2 m2 rl rr))) (N.raw l)) l b2 s2 h2 m2 rl rr _ ⟨HK.out.1.drew.drew, HK.out.2.2.1.drew2, HK.out.2.2.2.drew2⟩ HN.out.2.2.2.2 (by unfold Hb; omega) (by unfold Hb; omega) (by unfold Hb; omega)).mono ?_
  rintro e w3 ⟨rfl, I2, F2⟩
  have HZ : Hid (_ ∧ _) := ⟨I2, F2⟩
  clear I2 F2
  go_wp2
  go_ret
  refine ⟨N.turnL (N.node b s (1 + mxo (N.raw l).ht (N.raw (.node b2 s2 h2 m2 rl rr)).ht) (upMax (upMax s.hi (N.raw (.node b2 s2 h2 m2 rl rr))) (N.raw l)) l (.node b2 s2 h2 m2 rl rr)), rfl, HZ.out.1, ?_, perm_turnL _, ((Fr.drew2 HK.out.2.1).into (fun n e => by rw [e]; simp [N.ids])).then (HZ.out.2.into (fun n h => h.elim (fun e => by rw [e]; simp [N.ids]) (fun e => by rw [e]; simp [N.ids])))⟩
  have q := HC.out
  exact (reb_L1e q.1 (by omega)).symm

set_option maxHeartbeats 1600000 in
set_option maxRecDepth 100000 in
theorem reb_R1 (b : Nat) (s : S) (h m : Int) (b2 : Nat) (s2 : S) (h2 m2 : Int) (ll : N) (lr : N) (r : N) (w : World) (hin : (N.node b s h m (.node b2 s2 h2 m2 ll lr) r).In w) (nd : (N.node b s h m (.node b2 s2 h2 m2 ll lr) r).ids.Nodup) (pl : Part (.node b2 s2 h2 m2 ll lr)) (pr : Part r) (c1 : (N.raw (.node b2 s2 h2 m2 ll lr)).ht - r.raw.ht ≥ 2) (c2 : ¬ (N.raw lr).ht > ll.raw.ht) :
    Calls Try.prog 62 #[.pointer (some ⟨b, 0, none⟩)] w (Done (N.node b s h m (.node b2 s2 h2 m2 ll lr) r) w) := by
  have bl := pl.hb
  have br := pr.hb
  have p1 := pl.left.hb
  have p2 := pl.rght.hb
  have HC : Hid ((N.raw (.node b2 s2 h2 m2 ll lr)).ht - r.raw.ht ≥ 2 ∧ ¬ (N.raw lr).ht > ll.raw.ht) := ⟨c1, c2⟩
  obtain ⟨n1, n2, n3, n4, n5⟩ := nodup_node nd
  have HN : Hid (b ∉ N.ids (.node b2 s2 h2 m2 ll lr) ∧ b ∉ N.ids r ∧ (N.ids (.node b2 s2 h2 m2 ll lr)).Nodup ∧ (N.ids r).Nodup ∧ (N.node b s h m (.node b2 s2 h2 m2 ll lr) r).ids.Nodup) := ⟨n1, n2, n3, n4, nd⟩
  have HI : Hid ((N.node b s h m (.node b2 s2 h2 m2 ll lr) r).In w) := hin
  clear hin nd n1 n2 n3 n4 n5 pl pr
  go_enter Try.func62, Try.ntmps62
  go_wp2_with fail
  refine (recalc_any b s h m (.node b2 s2 h2 m2 ll lr) r w HI.out (by omega) (by omega)).mono ?_
  rintro e w1 ⟨rfl, B1, F1⟩
  have HJ : Hid _ := (⟨B1, F1, N.In.fr F1 HI.out.2.1 (fun x hx e => HN.out.1 (e ▸ hx)), N.In.fr F1 HI.out.2.2 (fun x hx e => HN.out.2.1 (e ▸ hx))⟩ : _ ∧ _ ∧ _ ∧ _)
  clear B1 F1
  go_wp2_with fail
  refine (updMax_any b s (1 + mxo (N.raw (.node b2 s2 h2 m2 ll lr)).ht (N.raw r).ht) m (.node b2 s2 h2 m2 ll lr) r w1 ⟨HJ.out.1, HJ.out.2.2.1, HJ.out.2.2.2⟩ HN.out.1 HN.out.2.1).mono ?_
  rintro e w2 ⟨rfl, B2, F2⟩
  have HK : Hid (Blk w2 b (cs s (1 + mxo (N.raw (.node b2 s2 h2 m2 ll lr)).ht (N.raw r).ht) (upMax (upMax s.hi (N.raw r)) (N.raw (.node b2 s2 h2 m2 ll lr))) (.node b2 s2 h2 m2 ll lr) r) 110 ∧ Fr (· = b) w w2 ∧ N.In w2 (.node b2 s2 h2 m2 ll lr) ∧ N.In w2 r) :=
    ⟨B2, HJ.out.2.1.then F2, N.In.fr F2 HJ.out.2.2.1 (fun x hx e => HN.out.1 (e ▸ hx)), N.In.fr F2 HJ.out.2.2.2 (fun x hx e => HN.out.2.1 (e ▸ hx))⟩
  clear B2 F2 HJ
  have i4 : w2.cell? ⟨b, 4, none⟩ = some (.pointer (some ⟨b2, 0, none⟩)) := HK.out.1.cell 4
  have i5 : w2.cell? ⟨b, 5, none⟩ = some (N.ptr r) := HK.out.1.cell 5
  have j4 : w2.cell? ⟨b2, 4, none⟩ = some (ll.ptr) := HK.out.2.2.1.1.cell 4
  have j5 : w2.cell? ⟨b2, 5, none⟩ = some (lr.ptr) := HK.out.2.2.1.1.cell 5
  go_wp2_with fail
  refine still_drew (by kernel_rfl) (by kernel_rfl) ?_
  repeat still_step
  still_call (getHeight_any (.node b2 s2 h2 m2 ll lr) _ HK.out.2.2.1.drew)
  repeat still_step
  still_call (getHeight_any r _ HK.out.2.2.2.drew)
  repeat still_step
  refine wpStill_nil ?_
  go_wp2_with fail
  refine still_drew (by kernel_rfl) (by kernel_rfl) ?_
  repeat still_step
  still_call (getHeight_any lr _ HK.out.2.2.1.2.2.drew2)
  repeat still_step
  still_call (getHeight_any ll _ HK.out.2.2.1.2.1.drew2)
  repeat still_step
  refine wpStill_nil ?_
  go_wp2_with fail
  refine (rotR_any b s (1 + mxo (N.raw (.node b2 s2 h2 m2 ll lr)).ht (N.raw r).ht) (upMax (upMax s.hi (N.raw r)) (N.raw (.node b2 s2 h2 m2 ll lr))) r b2 s2 h2 m2 ll lr _ ⟨HK.out.1.drew.drew, HK.out.2.2.1.drew2, HK.out.2.2.2.drew2⟩ HN.out.2.2.2.2 (by unfold Hb; omega) (by unfold Hb; omega) (by unfold Hb; omega)).mono ?_
  rintro e w3 ⟨rfl, I2, F2⟩
  have HZ : Hid (_ ∧ _) := ⟨I2, F2⟩
  clear I2 F2
  go_wp2
  go_ret
  refine ⟨N.turnR (N.node b s (1 + mxo (N.raw (.node b2 s2 h2 m2 ll lr)).ht (N.raw r).ht) (upMax (upMax s.hi (N.raw r)) (N.raw (.node b2 s2 h2 m2 ll lr))) (.node b2 s2 h2 m2 ll lr) r), rfl, HZ.out.1, ?_, perm_turnR _, ((Fr.drew2 HK.out.2.1).into (fun n e => by rw [e]; simp [N.ids])).then (HZ.out.2.into (fun n h => h.elim (fun e => by rw [e]; simp [N.ids]) (fun e => by rw [e]; simp [N.ids])))⟩
  have q := HC.out
  exact (reb_R1e q.1 (by omega)).symm

set_option maxHeartbeats 1600000 in
set_option maxRecDepth 100000 in
theorem reb_L2 (b : Nat) (s : S) (h m : Int) (l : N) (b2 : Nat) (s2 : S) (h2 m2 : Int) (b3 : Nat) (s3 : S) (h3 m3 : Int) (x y rr : N) (w : World) (hin : (N.node b s h m l (.node b2 s2 h2 m2 (.node b3 s3 h3 m3 x y) rr)).In w) (nd : (N.node b s h m l (.node b2 s2 h2 m2 (.node b3 s3 h3 m3 x y) rr)).ids.Nodup) (pl : Part l) (pr : Part (.node b2 s2 h2 m2 (.node b3 s3 h3 m3 x y) rr)) (c1 : l.raw.ht - (N.raw (.node b2 s2 h2 m2 (.node b3 s3 h3 m3 x y) rr)).ht ≤ -2) (c2 : (N.raw (.node b3 s3 h3 m3 x y)).ht > rr.raw.ht) :
    Calls Try.prog 62 #[.pointer (some ⟨b, 0, none⟩)] w (Done (N.node b s h m l (.node b2 s2 h2 m2 (.node b3 s3 h3 m3 x y) rr)) w) := by
  have bl := pl.hb
  have br := pr.hb
  have p1 := pr.left.hb
  have p2 := pr.rght.hb
  have p3 := pr.left.left.hb
  have p4 := pr.left.rght.hb
  have HC : Hid (l.raw.ht - (N.raw (.node b2 s2 h2 m2 (.node b3 s3 h3 m3 x y) rr)).ht ≤ -2 ∧ (N.raw (.node b3 s3 h3 m3 x y)).ht > rr.raw.ht) := ⟨c1, c2⟩
  obtain ⟨n1, n2, n3, n4, n5⟩ := nodup_node nd
  have HN : Hid (b ∉ N.ids l ∧ b ∉ N.ids (.node b2 s2 h2 m2 (.node b3 s3 h3 m3 x y) rr) ∧ (N.ids l).Nodup ∧ (N.ids (.node b2 s2 h2 m2 (.node b3 s3 h3 m3 x y) rr)).Nodup ∧ (N.node b s h m l (.node b2 s2 h2 m2 (.node b3 s3 h3 m3 x y) rr)).ids.Nodup) := ⟨n1, n2, n3, n4, nd⟩
  have HI : Hid ((N.node b s h m l (.node b2 s2 h2 m2 (.node b3 s3 h3 m3 x y) rr)).In w) := hin
  clear hin nd n1 n2 n3 n4 n5 pl pr
  go_enter Try.func62, Try.ntmps62
  go_wp2_with fail
  refine (recalc_any b s h m l (.node b2 s2 h2 m2 (.node b3 s3 h3 m3 x y) rr) w HI.out (by omega) (by omega)).mono ?_
  rintro e w1 ⟨rfl, B1, F1⟩
  have HJ : Hid _ := (⟨B1, F1, N.In.fr F1 HI.out.2.1 (fun x hx e => HN.out.1 (e ▸ hx)), N.In.fr F1 HI.out.2.2 (fun x hx e => HN.out.2.1 (e ▸ hx))⟩ : _ ∧ _ ∧ _ ∧ _)
  clear B1 F1
  go_wp2_with fail
  refine (updMax_any b s (1 + mxo (N.raw l).ht (N.raw (.node b2 s2 h2 m2 (.node b3 s3 h3 m3 x y) rr)).ht) m l (.node b2 s2 h2 m2 (.node b3 s3 h3 m3 x y) rr) w1 ⟨HJ.out.1, HJ.out.2.2.1, HJ.out.2.2.2⟩ HN.out.1 HN.out.2.1).mono ?_
  rintro e w2 ⟨rfl, B2, F2⟩
  have HK : Hid (Blk w2 b (cs s (1 + mxo (N.raw l).ht (N.raw (.node b2 s2 h2 m2 (.node b3 s3 h3 m3 x y) rr)).ht) (upMax (upMax s.hi (N.raw (.node b2 s2 h2 m2 (.node b3 s3 h3 m3 x y) rr))) (N.raw l)) l (.node b2 s2 h2 m2 (.node b3 s3 h3 m3 x y) rr)) 110 ∧ Fr (· = b) w w2 ∧ N.In w2 l ∧ N.In w2 (.node b2 s2 h2 m2 (.node b3 s3 h3 m3 x y) rr)) :=
    ⟨B2, HJ.out.2.1.then F2, N.In.fr F2 HJ.out.2.2.1 (fun x hx e => HN.out.1 (e ▸ hx)), N.In.fr F2 HJ.out.2.2.2 (fun x hx e => HN.out.2.1 (e ▸ hx))⟩
  clear B2 F2 HJ
  have i4 : w2.cell? ⟨b, 4, none⟩ = some (N.ptr l) := HK.out.1.cell 4
  have i5 : w2.cell? ⟨b, 5, none⟩ = some (.pointer (some ⟨b2, 0, none⟩)) := HK.out.1.cell 5
  have j4 : w2.cell? ⟨b2, 4, none⟩ = some (.pointer (some ⟨b3, 0, none⟩)) := HK.out.2.2.2.1.cell 4
  have j5 : w2.cell? ⟨b2, 5, none⟩ = some (rr.ptr) := HK.out.2.2.2.1.cell 5
  go_wp2_with fail
  refine still_drew (by kernel_rfl) (by kernel_rfl) ?_
  repeat still_step
  still_call (getHeight_any l _ HK.out.2.2.1.drew)
  repeat still_step
  still_call (getHeight_any (.node b2 s2 h2 m2 (.node b3 s3 h3 m3 x y) rr) _ HK.out.2.2.2.drew)
  repeat still_step
  refine wpStill_nil ?_
  go_wp2_with fail
  refine still_drew (by kernel_rfl) (by kernel_rfl) ?_
  repeat still_step
  still_call (getHeight_any (.node b3 s3 h3 m3 x y) _ HK.out.2.2.2.2.1.drew2)
  repeat still_step
  still_call (getHeight_any rr _ HK.out.2.2.2.2.2.drew2)
  repeat still_step
  refine wpStill_nil ?_
  go_wp2_with fail
  refine (rotR_any b2 s2 h2 m2 rr b3 s3 h3 m3 x y _ HK.out.2.2.2.drew2 HN.out.2.2.2.1 (by unfold Hb; omega) (by unfold Hb; omega) (by unfold Hb; omega)).mono ?_
  rintro e w3 ⟨rfl, I2, F2⟩
  replace I2 : N.In w3 (N.mk b3 s3 x (N.mk b2 s2 y rr)) := I2
  have hb2 : ¬ (b = b2 ∨ b = b3) := fun h => h.elim (fun e => HN.out.2.1 (by simp [N.ids, e])) (fun e => HN.out.2.1 (by simp [N.ids, e]))
  have B3 : Blk w3 b (cs s (1 + mxo (N.raw l).ht (N.raw (.node b2 s2 h2 m2 (.node b3 s3 h3 m3 x y) rr)).ht) (upMax (upMax s.hi (N.raw (.node b2 s2 h2 m2 (.node b3 s3 h3 m3 x y) rr))) (N.raw l)) l (.node b2 s2 h2 m2 (.node b3 s3 h3 m3 x y) rr)) 110 := HK.out.1.drew.drew.fr F2 hb2
  have c5 : w3.cell? ⟨b, 5, none⟩ = some (.pointer (some ⟨b2, 0, none⟩)) := B3.cell 5
  have f5 : w3.frozen? ⟨b, 5, none⟩ = false := B3.free 5
  have hp : (N.ids (N.mk b3 s3 x (N.mk b2 s2 y rr))).Perm (N.ids (.node b2 s2 h2 m2 (.node b3 s3 h3 m3 x y) rr)) := perm_turnR (.node b2 s2 h2 m2 (.node b3 s3 h3 m3 x y) rr)
  have hbt : b ∉ N.ids (N.mk b3 s3 x (N.mk b2 s2 y rr)) := fun hx => HN.out.2.1 (hp.mem_iff.1 hx)
  have F3 : Fr (· = b) w3 (w3.setCell ⟨b, 5, none⟩ (.pointer (some ⟨b3, 0, none⟩))) := fr_one
  have nd := nodup_node HN.out.2.2.2.2
  have oI : N.In w3 l := N.In.fr F2 HK.out.2.2.1.drew2 (fun x hx h => h.elim (fun e => nd.2.2.2.2 x hx (e ▸ by simp [N.ids])) (fun e => nd.2.2.2.2 x hx (e ▸ by simp [N.ids])))
  have HZ : Hid _ := (⟨(show N.In (w3.setCell ⟨b, 5, none⟩ (.pointer (some ⟨b3, 0, none⟩))) (N.node b s (1 + mxo (N.raw l).ht (N.raw (.node b2 s2 h2 m2 (.node b3 s3 h3 m3 x y) rr)).ht) (upMax (upMax s.hi (N.raw (.node b2 s2 h2 m2 (.node b3 s3 h3 m3 x y) rr))) (N.raw l)) l (N.mk b3 s3 x (N.mk b2 s2 y rr))) from ⟨B3.set 5 _, N.In.fr F3 oI (fun x hx e => nd.1 (e ▸ hx)), N.In.fr F3 I2 (fun x hx e => hbt (e ▸ hx))⟩),
    (show (N.ids (N.node b s (1 + mxo (N.raw l).ht (N.raw (.node b2 s2 h2 m2 (.node b3 s3 h3 m3 x y) rr)).ht) (upMax (upMax s.hi (N.raw (.node b2 s2 h2 m2 (.node b3 s3 h3 m3 x y) rr))) (N.raw l)) l (N.mk b3 s3 x (N.mk b2 s2 y rr)))).Nodup from ((perm_node_r (h := h) (m := m) hp).nodup_iff).2 HN.out.2.2.2.2), F2, F3, hp⟩ : _ ∧ _ ∧ _ ∧ _ ∧ _)
  have hq := mxo_bd (k := 4294960000) p4 p2
  clear I2 F2 B3 hp hbt F3 nd oI hb2 i4 i5 j4 j5
  go_wp2_with fail
  refine (rotL_any b s (1 + mxo (N.raw l).ht (N.raw (.node b2 s2 h2 m2 (.node b3 s3 h3 m3 x y) rr)).ht) (upMax (upMax s.hi (N.raw (.node b2 s2 h2 m2 (.node b3 s3 h3 m3 x y) rr))) (N.raw l)) l b3 s3 _ _ x (N.mk b2 s2 y rr) _ HZ.out.1 HZ.out.2.1 (by unfold Hb; omega) (by unfold Hb; omega) (by unfold Hb; rw [ht_mk]; omega)).mono ?_
  rintro e w4 ⟨rfl, I4, F4⟩
  have HY : Hid (_ ∧ _) := ⟨I4, F4⟩
  clear I4 F4
  go_wp2_with fail
  go_ret
  refine ⟨N.turnL (N.node b s (1 + mxo (N.raw l).ht (N.raw (.node b2 s2 h2 m2 (.node b3 s3 h3 m3 x y) rr)).ht) (upMax (upMax s.hi (N.raw (.node b2 s2 h2 m2 (.node b3 s3 h3 m3 x y) rr))) (N.raw l)) l (N.mk b3 s3 x (N.mk b2 s2 y rr))), rfl, HY.out.1, ?_, (perm_turnL _).trans (perm_node_r HZ.out.2.2.2.2), ?_⟩
  · have q := HC.out
    exact (reb_L2e q.1 (by omega)).symm
  · exact (((Fr.drew2 HK.out.2.1).into (fun n e => by rw [e]; simp [N.ids])).then (HZ.out.2.2.1.into (fun n h => h.elim (fun e => by rw [e]; simp [N.ids]) (fun e => by rw [e]; simp [N.ids])))).then ((HZ.out.2.2.2.1.into (fun n e => by rw [e]; simp [N.ids])).then (HY.out.2.into (fun n h => h.elim (fun e => by rw [e]; simp [N.ids]) (fun e => by rw [e]; simp [N.ids]))))

set_option maxHeartbeats 1600000 in
set_option maxRecDepth 100000 in
theorem reb_R2 (b : Nat) (s : S) (h m : Int) (b2 : Nat) (s2 : S) (h2 m2 : Int) (ll : N) (b3 : Nat) (s3 : S) (h3 m3 : Int) (x y : N) (r : N) (w : World) (hin : (N.node b s h m (.node b2 s2 h2 m2 ll (.node b3 s3 h3 m3 x y)) r).In w) (nd : (N.node b s h m (.node b2 s2 h2 m2 ll (.node b3 s3 h3 m3 x y)) r).ids.Nodup) (pl : Part (.node b2 s2 h2 m2 ll (.node b3 s3 h3 m3 x y))) (pr : Part r) (c1 : (N.raw (.node b2 s2 h2 m2 ll (.node b3 s3 h3 m3 x y))).ht - r.raw.ht ≥ 2) (c2 : (N.raw (.node b3 s3 h3 m3 x y)).ht > ll.raw.ht) :
    Calls Try.prog 62 #[.pointer (some ⟨b, 0, none⟩)] w (Done (N.node b s h m (.node b2 s2 h2 m2 ll (.node b3 s3 h3 m3 x y)) r) w) := by
  have bl := pl.hb
  have br := pr.hb
  have p1 := pl.left.hb
  have p2 := pl.rght.hb
  have p3 := pl.rght.left.hb
  have p4 := pl.rght.rght.hb
  have HC : Hid ((N.raw (.node b2 s2 h2 m2 ll (.node b3 s3 h3 m3 x y))).ht - r.raw.ht ≥ 2 ∧ (N.raw (.node b3 s3 h3 m3 x y)).ht > ll.raw.ht) := ⟨c1, c2⟩
  obtain ⟨n1, n2, n3, n4, n5⟩ := nodup_node nd
  have HN : Hid (b ∉ N.ids (.node b2 s2 h2 m2 ll (.node b3 s3 h3 m3 x y)) ∧ b ∉ N.ids r ∧ (N.ids (.node b2 s2 h2 m2 ll (.node b3 s3 h3 m3 x y))).Nodup ∧ (N.ids r).Nodup ∧ (N.node b s h m (.node b2 s2 h2 m2 ll (.node b3 s3 h3 m3 x y)) r).ids.Nodup) := ⟨n1, n2, n3, n4, nd⟩
  have HI : Hid ((N.node b s h m (.node b2 s2 h2 m2 ll (.node b3 s3 h3 m3 x y)) r).In w) := hin
  clear hin nd n1 n2 n3 n4 n5 pl pr
  go_enter Try.func62, Try.ntmps62
  go_wp2_with fail
  refine (recalc_any b s h m (.node b2 s2 h2 m2 ll (.node b3 s3 h3 m3 x y)) r w HI.out (by omega) (by omega)).mono ?_
  rintro e w1 ⟨rfl, B1, F1⟩
  have HJ : Hid _ := (⟨B1, F1, N.In.fr F1 HI.out.2.1 (fun x hx e => HN.out.1 (e ▸ hx)), N.In.fr F1 HI.out.2.2 (fun x hx e => HN.out.2.1 (e ▸ hx))⟩ : _ ∧ _ ∧ _ ∧ _)
  clear B1 F1
  go_wp2_with fail
  refine (updMax_any b s (1 + mxo (N.raw (.node b2 s2 h2 m2 ll (.node b3 s3 h3 m3 x y))).ht (N.raw r).ht) m (.node b2 s2 h2 m2 ll (.node b3 s3 h3 m3 x y)) r w1 ⟨HJ.out.1, HJ.out.2.2.1, HJ.out.2.2.2⟩ HN.out.1 HN.out.2.1).mono ?_
  rintro e w2 ⟨rfl, B2, F2⟩
  have HK : Hid (Blk w2 b (cs s (1 + mxo (N.raw (.node b2 s2 h2 m2 ll (.node b3 s3 h3 m3 x y))).ht (N.raw r).ht) (upMax (upMax s.hi (N.raw r)) (N.raw (.node b2 s2 h2 m2 ll (.node b3 s3 h3 m3 x y)))) (.node b2 s2 h2 m2 ll (.node b3 s3 h3 m3 x y)) r) 110 ∧ Fr (· = b) w w2 ∧ N.In w2 (.node b2 s2 h2 m2 ll (.node b3 s3 h3 m3 x y)) ∧ N.In w2 r) :=
    ⟨B2, HJ.out.2.1.then F2, N.In.fr F2 HJ.out.2.2.1 (fun x hx e => HN.out.1 (e ▸ hx)), N.In.fr F2 HJ.out.2.2.2 (fun x hx e => HN.out.2.1 (e ▸ hx))⟩
  clear B2 F2 HJ
  have i4 : w2.cell? ⟨b, 4, none⟩ = some (.pointer (some ⟨b2, 0, none⟩)) := HK.out.1.cell 4
  have i5 : w2.cell? ⟨b, 5, none⟩ = some (N.ptr r) := HK.out.1.cell 5
  have j4 : w2.cell? ⟨b2, 4, none⟩ = some (ll.ptr) := HK.out.2.2.1.1.cell 4
  have j5 : w2.cell? ⟨b2, 5, none⟩ = some (.pointer (some ⟨b3, 0, none⟩)) := HK.out.2.2.1.1.cell 5
  go_wp2_with fail
  refine still_drew (by kernel_rfl) (by kernel_rfl) ?_
  repeat still_step
  still_call (getHeight_any (.node b2 s2 h2 m2 ll (.node b3 s3 h3 m3 x y)) _ HK.out.2.2.1.drew)
  repeat still_step
  still_call (getHeight_any r _ HK.out.2.2.2.drew)
  repeat still_step
  refine wpStill_nil ?_
  go_wp2_with fail
  refine still_drew (by kernel_rfl) (by kernel_rfl) ?_
  repeat still_step
  still_call (getHeight_any (.node b3 s3 h3 m3 x y) _ HK.out.2.2.1.2.2.drew2)
  repeat still_step
  still_call (getHeight_any ll _ HK.out.2.2.1.2.1.drew2)
  repeat still_step
  refine wpStill_nil ?_
  go_wp2_with fail
  refine (rotL_any b2 s2 h2 m2 ll b3 s3 h3 m3 x y _ HK.out.2.2.1.drew2 HN.out.2.2.1 (by unfold Hb; omega) (by unfold Hb; omega) (by unfold Hb; omega)).mono ?_
  rintro e w3 ⟨rfl, I2, F2⟩
  replace I2 : N.In w3 (N.mk b3 s3 (N.mk b2 s2 ll x) y) := I2
  have hb2 : ¬ (b = b2 ∨ b = b3) := fun h => h.elim (fun e => HN.out.1 (by simp [N.ids, e])) (fun e => HN.out.1 (by simp [N.ids, e]))
  have B3 : Blk w3 b (cs s (1 + mxo (N.raw (.node b2 s2 h2 m2 ll (.node b3 s3 h3 m3 x y))).ht (N.raw r).ht) (upMax (upMax s.hi (N.raw r)) (N.raw (.node b2 s2 h2 m2 ll (.node b3 s3 h3 m3 x y)))) (.node b2 s2 h2 m2 ll (.node b3 s3 h3 m3 x y)) r) 110 := HK.out.1.drew.drew.fr F2 hb2
  have c5 : w3.cell? ⟨b, 4, none⟩ = some (.pointer (some ⟨b2, 0, none⟩)) := B3.cell 4
  have f5 : w3.frozen? ⟨b, 4, none⟩ = false := B3.free 4
  have hp : (N.ids (N.mk b3 s3 (N.mk b2 s2 ll x) y)).Perm (N.ids (.node b2 s2 h2 m2 ll (.node b3 s3 h3 m3 x y))) := perm_turnL (.node b2 s2 h2 m2 ll (.node b3 s3 h3 m3 x y))
  have hbt : b ∉ N.ids (N.mk b3 s3 (N.mk b2 s2 ll x) y) := fun hx => HN.out.1 (hp.mem_iff.1 hx)
  have F3 : Fr (· = b) w3 (w3.setCell ⟨b, 4, none⟩ (.pointer (some ⟨b3, 0, none⟩))) := fr_one
  have nd := nodup_node HN.out.2.2.2.2
  have oI : N.In w3 r := N.In.fr F2 HK.out.2.2.2.drew2 (fun x hx h => h.elim (fun e => nd.2.2.2.2 x (e ▸ by simp [N.ids]) hx) (fun e => nd.2.2.2.2 x (e ▸ by simp [N.ids]) hx))
  have HZ : Hid _ := (⟨(show N.In (w3.setCell ⟨b, 4, none⟩ (.pointer (some ⟨b3, 0, none⟩))) (N.node b s (1 + mxo (N.raw (.node b2 s2 h2 m2 ll (.node b3 s3 h3 m3 x y))).ht (N.raw r).ht) (upMax (upMax s.hi (N.raw r)) (N.raw (.node b2 s2 h2 m2 ll (.node b3 s3 h3 m3 x y)))) (N.mk b3 s3 (N.mk b2 s2 ll x) y) r) from ⟨B3.set 4 _, N.In.fr F3 I2 (fun x hx e => hbt (e ▸ hx)), N.In.fr F3 oI (fun x hx e => nd.2.1 (e ▸ hx))⟩),
    (show (N.ids (N.node b s (1 + mxo (N.raw (.node b2 s2 h2 m2 ll (.node b3 s3 h3 m3 x y))).ht (N.raw r).ht) (upMax (upMax s.hi (N.raw r)) (N.raw (.node b2 s2 h2 m2 ll (.node b3 s3 h3 m3 x y)))) (N.mk b3 s3 (N.mk b2 s2 ll x) y) r)).Nodup from ((perm_node_l (h := h) (m := m) hp).nodup_iff).2 HN.out.2.2.2.2), F2, F3, hp⟩ : _ ∧ _ ∧ _ ∧ _ ∧ _)
  have hq := mxo_bd (k := 4294960000) p1 p3
  clear I2 F2 B3 hp hbt F3 nd oI hb2 i4 i5 j4 j5
  go_wp2_with fail
  refine (rotR_any b s (1 + mxo (N.raw (.node b2 s2 h2 m2 ll (.node b3 s3 h3 m3 x y))).ht (N.raw r).ht) (upMax (upMax s.hi (N.raw r)) (N.raw (.node b2 s2 h2 m2 ll (.node b3 s3 h3 m3 x y)))) r b3 s3 _ _ (N.mk b2 s2 ll x) y _ HZ.out.1 HZ.out.2.1 (by unfold Hb; omega) (by unfold Hb; omega) (by unfold Hb; rw [ht_mk]; omega)).mono ?_
  rintro e w4 ⟨rfl, I4, F4⟩
  have HY : Hid (_ ∧ _) := ⟨I4, F4⟩
  clear I4 F4
  go_wp2_with fail
  go_ret
  refine ⟨N.turnR (N.node b s (1 + mxo (N.raw (.node b2 s2 h2 m2 ll (.node b3 s3 h3 m3 x y))).ht (N.raw r).ht) (upMax (upMax s.hi (N.raw r)) (N.raw (.node b2 s2 h2 m2 ll (.node b3 s3 h3 m3 x y)))) (N.mk b3 s3 (N.mk b2 s2 ll x) y) r), rfl, HY.out.1, ?_, (perm_turnR _).trans (perm_node_l HZ.out.2.2.2.2), ?_⟩
  · have q := HC.out
    exact (reb_R2e q.1 (by omega)).symm
  · exact (((Fr.drew2 HK.out.2.1).into (fun n e => by rw [e]; simp [N.ids])).then (HZ.out.2.2.1.into (fun n h => h.elim (fun e => by rw [e]; simp [N.ids]) (fun e => by rw [e]; simp [N.ids])))).then ((HZ.out.2.2.2.1.into (fun n e => by rw [e]; simp [N.ids])).then (HY.out.2.into (fun n h => h.elim (fun e => by rw [e]; simp [N.ids]) (fun e => by rw [e]; simp [N.ids]))))

theorem reb_any (t : N) (w : World) (hin : t.In w) (nd : t.ids.Nodup) (hp : ∀ b s h m l r, t = .node b s h m l r → Part l ∧ Part r) : Calls Try.prog 62 #[t.ptr] w (Done t w) := by
  cases t with
  | nil => exact reb_nil w
  | node b s h m l r =>
    obtain ⟨pl, pr⟩ := hp b s h m l r rfl
    show Calls Try.prog 62 #[.pointer (some ⟨b, 0, none⟩)] w _
    have bl := pl.hb
    have br := pr.hb
    by_cases c1 : l.raw.ht - r.raw.ht ≤ -2
    · cases r with
      | nil => simp only [N.raw, T.ht] at c1 bl; omega
      | node b2 s2 h2 m2 rl rr =>
        have p2 := pr.rght.hb
        by_cases c2 : rl.raw.ht > rr.raw.ht
        · cases rl with
          | nil => simp only [N.raw, T.ht] at c2 p2; omega
          | node b3 s3 h3 m3 x y => exact reb_L2 b s h m l b2 s2 h2 m2 b3 s3 h3 m3 x y rr w hin nd pl pr c1 c2
        · exact reb_L1 b s h m l b2 s2 h2 m2 rl rr w hin nd pl pr c1 c2
    · by_cases c3 : l.raw.ht - r.raw.ht ≥ 2
      · cases l with
        | nil => simp only [N.raw, T.ht] at c3 br; omega
        | node b2 s2 h2 m2 ll lr =>
          have p1 := pl.left.hb
          by_cases c2 : lr.raw.ht > ll.raw.ht
          · cases lr with
            | nil => simp only [N.raw, T.ht] at c2 p1; omega
            | node b3 s3 h3 m3 x y => exact reb_R2 b s h m b2 s2 h2 m2 ll b3 s3 h3 m3 x y r w hin nd pl pr c3 c2
          · exact reb_R1 b s h m b2 s2 h2 m2 ll lr r w hin nd pl pr c3 c2
      · exact reb_K b s h m l r w hin nd pl pr c1 c3
end Go.Proofs.Ytmnjkdbopafkfaa.Int
