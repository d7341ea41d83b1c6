/- Interval trees in memory: what is put. For every balanced tree with right heights and greatest ends. -/
import Derived.Test.YtmnjkdbopafkfaaIntB
import Derived.Test.YtmnjkdbopafkfaaWTab
import Derived.Deep.QuietTactic
import Derived.BigQuiet
namespace Go.Proofs.Ytmnjkdbopafkfaa.Int
open Go Go.RowKit Go.Deep Go.Proofs.Ytmnjkdbopafkfaa.Hk Go.Proofs.Ytmnjkdbopafkfaa.IntPure Go.Proofs.Ytmnjkdbopafkfaa.IntPure.T Go.Proofs.YtmnjkdbopafkfaaW.PrintWords Go.Proofs.YtmnjkdbopafkfaaW.PrintLast Go.Proofs.YtmnjkdbopafkfaaW.PrintMore

/-- A balanced tree with right heights and greatest ends, all of whose nodes lie from 'base' on. -/
structure Good (base : Nat) (w : World) (t : N) : Prop where
  mem : t.In w
  nodup : t.ids.Nodup
  above : ∀ b ∈ t.ids, base ≤ b
  good : T.Good t.raw
theorem Good.part {base : Nat} {w : World} {t : N} (h : Good base w t) (hl : t.raw.tall ≤ 4294960000) : Part t := ⟨h.good.right, hl⟩
theorem Good.lf {base : Nat} {w : World} {b : Nat} {s : S} {h m : Int} {l r : N} (g : Good base w (.node b s h m l r)) : Good base w l :=
  ⟨g.mem.2.1, (nodup_node g.nodup).2.2.1, fun x hx => g.above x (by simp [N.ids, hx]), T.Good.lf g.good⟩
theorem Good.rt {base : Nat} {w : World} {b : Nat} {s : S} {h m : Int} {l r : N} (g : Good base w (.node b s h m l r)) : Good base w r :=
  ⟨g.mem.2.2, (nodup_node g.nodup).2.2.2.1, fun x hx => g.above x (by simp [N.ids, hx]), T.Good.rt g.good⟩
theorem Good.to {base : Nat} {w w' : World} {t : N} (g : Good base w t) (hb : Below w.heap.size w w') : Good base w' t :=
  ⟨N.In.fr (Fr.new (Z := fun _ => False) hb) g.mem (fun _ _ h => h), g.nodup, g.above, g.good⟩
theorem Good.fr {base : Nat} {w w' : World} {t : N} {Z : Nat → Prop} (g : Good base w t) (hf : Fr Z w w') (hn : ∀ b ∈ t.ids, ¬ Z b) : Good base w' t := ⟨N.In.fr hf g.mem hn, g.nodup, g.above, g.good⟩

/-- What a change of a tree leaves. -/
structure Put (t t' : N) (w w' : World) : Prop where
  mem : t'.In w'
  nodup : t'.ids.Nodup
  ids : ∀ b ∈ t'.ids, b ∈ t.ids ∨ w.heap.size ≤ b
  fr : Fr (· ∈ t.ids) w w'
/-- .. told from an elder world on. -/
theorem Put.since {t t' : N} {w W w' : World} (h : Put t t' W w') (hb : Below w.heap.size w W) : Put t t' w w' :=
  ⟨h.mem, h.nodup, fun b hx => (h.ids b hx).imp id (fun q => Nat.le_trans hb.size q), (Fr.new hb).then h.fr⟩
/-- .. and blocks that are none of it are written. -/
theorem Put.upto {t t' : N} {w W w' : World} {Z : Nat → Prop} (h : Put t t' w W) (hf : Fr Z W w') (hz : ∀ k, Z k → w.heap.size ≤ k ∧ k ∉ t'.ids) : Put t t' w w' :=
  ⟨N.In.fr hf h.mem (fun b hb hk => (hz b hk).2 hb), h.nodup, h.ids, h.fr.trans hf (fun n hn hk => absurd (hz n hk).1 (by omega))⟩
theorem new_out {t t' : N} {w W W2 : World} (hin : ∀ b ∈ t.ids, b < w.heap.size) (h : Put t t' W W2) {p : Nat} (h1 : w.heap.size ≤ p) (h2 : p < W.heap.size) : p ∉ t'.ids := fun hp =>
  (h.ids p hp).elim (fun q => by have := hin p q; omega) (fun q => by omega)

/-- Three cells of a box. -/
def box3 (w : World) (p : Nat) (kv : S) : World := ((w.setCell ⟨p, 0, none⟩ (.int .i64 kv.lo)).setCell ⟨p, 1, none⟩ (.int .i64 kv.hi)).setCell ⟨p, 2, none⟩ (.int .i64 kv.v)
abbrev kvc (s : S) : Array Value := #[.int .i64 s.lo, .int .i64 s.hi, .int .i64 s.v]
theorem fr_box3 {w : World} {p : Nat} {kv : S} : Fr (· = p) w (box3 w p kv) := (Fr.one.then Fr.one).then Fr.one
theorem blk_box3 {w : World} {p : Nat} {kv kv' : S} (h : Blk w p (kvc kv') 74) : Blk (box3 w p kv) p (kvc kv) 74 := ((h.set 0 _).set 1 _).set 2 _

set_option maxRecDepth 100000 in
theorem newKV_any (b : Nat) (s : S) (h m : Int) (l r : N) (w : World) (hb : Blk w b (cs s h m l r) 110) :
    Calls Try.prog 54 #[.pointer (some ⟨b, 0, none⟩)] w fun e w' => e = .returned (.agg #[.int .i64 s.lo, .int .i64 s.hi, .int .i64 s.v]) ∧ Below w.heap.size w w' := by
  have hlt := hb.lt
  have hne : b ≠ w.heap.size := by omega
  have c0 : w.cell? ⟨b, 0, none⟩ = some (.int .i64 s.lo) := hb.cell 0
  have c1 : w.cell? ⟨b, 1, none⟩ = some (.int .i64 s.hi) := hb.cell 1
  have c2 : w.cell? ⟨b, 2, none⟩ = some (.int .i64 s.v) := hb.cell 2
  clear hb
  go_enter Try.func54, Try.ntmps54
  go_wp2_with fail
  refine still_tail_drew 15 (by kernel_rfl) (by kernel_rfl) ?_
  simp only [List.take_succ_cons, List.take_zero, List.drop_succ_cons, List.drop_zero]
  repeat still_step
  refine wpStill_nil ?_
  go_wp2_with fail
  exact bodyPost_ret (v := .agg #[.int .i64 s.lo, .int .i64 s.hi, .int .i64 s.v]) (by simp [results, Try.results54, go_sem]) rfl ⟨rfl, by repeat (first | exact Below.refl _ _ | refine Below.setCell ?_ (by simp) _ | refine Below.alloc ?_ (by simp) _ | refine below_dN ?_ _ | (refine Below.drew ?_))⟩

/-- What insert leaves. -/
def Inserted (x : S) (ov : Bool) (t : N) (w : World) (e : Ending) (w' : World) : Prop :=
  ∃ (t' : N) (kv : S) (ok : Bool), e = .returned (.tuple #[t'.ptr, .agg #[.int .i64 kv.lo, .int .i64 kv.hi, .int .i64 kv.v], .bool ok]) ∧ T.ins x ov t.raw = (t'.raw, kv, ok) ∧ Put t t' w w'

set_option maxHeartbeats 800000 in
set_option maxRecDepth 100000 in
theorem insert_nil (x : S) (ov : Bool) (w : World) :
    Calls Try.prog 50 #[.pointer none, .agg #[.int .i64 x.lo, .int .i64 x.hi], .int .i64 x.v, .bool ov] w (Inserted x ov .nil w) := by
  go_enter Try.func50, Try.ntmps50
  go_wp2_with fail
  refine bodyPost_ret (v := .tuple #[.pointer (some ⟨w.heap.size + 1 + 1, 0, none⟩), .agg #[.int .i64 0, .int .i64 0, .int .i64 0], .bool false]) (by simp [results, Try.results50, go_sem]) rfl ?_
  have hw : ((w.alloc (.cells #[.int .i64 x.lo, .int .i64 x.hi] 100)).alloc (.cells #[.int .i64 0, .int .i64 0, .int .i64 0] 74)).heap.size = w.heap.size + 1 + 1 := by simp
  have hB := Blk.new ((w.alloc (.cells #[.int .i64 x.lo, .int .i64 x.hi] 100)).alloc (.cells #[.int .i64 0, .int .i64 0, .int .i64 0] 74)) (cs x 1 x.hi .nil .nil) 110
  rw [hw] at hB
  refine ⟨.node (w.heap.size + 1 + 1) x 1 x.hi .nil .nil, ⟨0, 0, 0⟩, false, rfl, rfl, ⟨⟨?_, trivial, trivial⟩, by simp [N.ids], fun b hb => .inr (by simp [N.ids] at hb; omega), ?_⟩⟩
  · first
      | exact hB
      | exact ((hB.other _ _ (by simp)).other _ _ (by simp)).other _ _ (by simp)
      | (refine Blk.other ?_ _ _ (by simp); refine Blk.other ?_ _ _ (by simp); refine Blk.other ?_ _ _ (by simp); exact hB)
  · repeat (first | exact Fr.refl _ _ | refine Fr.alloc ?_ _ | refine Fr.setCell ?_ (by intro h; simp at h; omega) _)
def ins6.T : Bool × List (List Nat × List Nat) := (true, [([], []), ([], []), ([1], [1]), ([2], [2]), ([3], [3]), ([], []), ([], []), ([], []), ([4, 5, 6, 7], [4, 5, 6, 7]), ([8], [8]), ([9], [9]), ([9], [9]), ([9], [9]), ([0, 0, 1, 2, 3, 4, 5, 6, 7, 8, 9, 10], [0]), ([13, 0, 1, 2, 3, 4, 5, 6, 7, 8, 9, 10], [13]), ([14, 10, 8, 0, 1, 2, 3, 4, 5, 6, 7, 8, 9, 10], [10, 14]), ([11, 15, 0, 1, 2, 3, 4, 5, 6, 7, 8, 9, 10, 11, 13, 14, 15], [11]), ([12, 16, 0, 1, 2, 3, 4, 5, 6, 7, 8, 9, 10, 11, 12, 13, 14, 15, 16], [12])])
def ins6.B : List Nat := [0, 0, 2, 6, 14, 0, 0, 0, 254, 510, 1022, 1022, 1022, 2047, 10239, 26623, 61439, 131071]
theorem ins6.tab : rtab .any (opsOf Try.f50 6) = ins6.T := by kernel_rfl
theorem ins6.bits : waitsOk ins6.T.2 ins6.B = true := by kernel_rfl
def ins8.T : Bool × List (List Nat × List Nat) := (true, [([], []), ([], []), ([1], [1]), ([2], [2]), ([3], [3]), ([], []), ([], []), ([], []), ([4, 5, 6, 7], [4, 5, 6, 7]), ([8], [8]), ([9], [9]), ([9], [9]), ([9], [9]), ([0, 0, 1, 2, 3, 4, 5, 6, 7, 8, 9, 10], [0]), ([13, 0, 1, 2, 3, 4, 5, 6, 7, 8, 9, 10], [13]), ([14, 10, 8, 0, 1, 2, 3, 4, 5, 6, 7, 8, 9, 10], [10, 14]), ([11, 15, 0, 1, 2, 3, 4, 5, 6, 7, 8, 9, 10, 11, 13, 14, 15], [11]), ([12, 16, 0, 1, 2, 3, 4, 5, 6, 7, 8, 9, 10, 11, 12, 13, 14, 15, 16], [12])])
def ins8.B : List Nat := [0, 0, 2, 6, 14, 0, 0, 0, 254, 510, 1022, 1022, 1022, 2047, 10239, 26623, 61439, 131071]
theorem ins8.tab : rtab .any (opsOf Try.f50 8) = ins8.T := by kernel_rfl
theorem ins8.bits : waitsOk ins8.T.2 ins8.B = true := by kernel_rfl
def ins14.T : Bool × List (List Nat × List Nat) := (true, [([], []), ([0], [0]), ([], []), ([], []), ([1, 1, 0, 1], [1]), ([2, 4, 0, 1, 2, 4], [2]), ([3, 5, 0, 1, 2, 3, 4, 5], [3])])
def ins14.B : List Nat := [0, 1, 0, 0, 3, 23, 63]
theorem ins14.tab : rtab .any (opsOf Try.f50 14) = ins14.T := by kernel_rfl
theorem ins14.bits : waitsOk ins14.T.2 ins14.B = true := by kernel_rfl

/-- The boxes that insert lays. -/
structure Boxes (x : S) (w W : World) : Prop where
  bel : Below w.heap.size w W
  key : Blk W w.heap.size #[.int .i64 x.lo, .int .i64 x.hi] 100
  p9 : Blk W (w.heap.size + 1) (kvc ⟨0, 0, 0⟩) 74
  p11 : Blk W (w.heap.size + 1 + 1) (kvc ⟨0, 0, 0⟩) 74
theorem boxes_mk (x : S) (w : World) : Boxes x w (((w.alloc (.cells #[.int .i64 x.lo, .int .i64 x.hi] 100)).alloc (.cells (kvc ⟨0, 0, 0⟩) 74)).alloc (.cells (kvc ⟨0, 0, 0⟩) 74)) := by
  have b1 := Blk.new w #[.int .i64 x.lo, .int .i64 x.hi] 100
  have b2 := Blk.new (w.alloc (.cells #[.int .i64 x.lo, .int .i64 x.hi] 100)) (kvc ⟨0, 0, 0⟩) 74
  have b3 := Blk.new ((w.alloc (.cells #[.int .i64 x.lo, .int .i64 x.hi] 100)).alloc (.cells (kvc ⟨0, 0, 0⟩) 74)) (kvc ⟨0, 0, 0⟩) 74
  rw [alloc_size] at b2
  rw [alloc_size, alloc_size] at b3
  exact ⟨((((Below.refl _ _).alloc (Nat.le_refl _) _).alloc (by simp) _).alloc (by simp; omega) _), (b1.alloc _).alloc _, b2.alloc _, b3⟩
theorem Boxes.drew {x : S} {w W : World} (h : Boxes x w W) : Boxes x w W.drew := ⟨h.bel.drew, h.key, h.p9, h.p11⟩

/-- A node of which one part has been changed, and the pointer to it stored. -/
theorem mem_left {b : Nat} {s : S} {h m : Int} {l r l' : N} {w w1 : World} (gm : (N.node b s h m l r).In w) (gn : (N.node b s h m l r).ids.Nodup) (hp : Put l l' w w1) :
    (N.node b s h m l' r).In (w1.setCell ⟨b, 4, none⟩ l'.ptr) ∧ (N.node b s h m l' r).ids.Nodup ∧ Blk w1 b (cs s h m l r) 110 ∧ b ∉ l'.ids ∧ b ∉ r.ids := by
  obtain ⟨n1, n2, n3, n4, n5⟩ := nodup_node gn
  have hlt := N.In.lt gm
  have hb1 : b ∉ l'.ids := fun hm => (hp.ids b hm).elim n1 (fun hq => by have := hlt b (by simp [N.ids]); omega)
  have B1 : Blk w1 b (cs s h m l r) 110 := gm.1.fr hp.fr n1
  refine ⟨⟨B1.set 4 _, N.In.fr fr_one hp.mem (fun x hx e => hb1 (e ▸ hx)), N.In.fr fr_one (N.In.fr hp.fr gm.2.2 (fun x hx hy => n5 x hy hx)) (fun x hx e => n2 (e ▸ hx))⟩, ?_, B1, hb1, n2⟩
  exact nodup_mk hb1 n2 hp.nodup n4 (fun x hx hy => (hp.ids x hx).elim (fun hq => n5 x hq hy) (fun hq => by have := hlt x (by simp [N.ids, hy]); omega))
theorem mem_right {b : Nat} {s : S} {h m : Int} {l r r' : N} {w w1 : World} (gm : (N.node b s h m l r).In w) (gn : (N.node b s h m l r).ids.Nodup) (hp : Put r r' w w1) :
    (N.node b s h m l r').In (w1.setCell ⟨b, 5, none⟩ r'.ptr) ∧ (N.node b s h m l r').ids.Nodup ∧ Blk w1 b (cs s h m l r) 110 ∧ b ∉ l.ids ∧ b ∉ r'.ids := by
  obtain ⟨n1, n2, n3, n4, n5⟩ := nodup_node gn
  have hlt := N.In.lt gm
  have hb1 : b ∉ r'.ids := fun hm => (hp.ids b hm).elim n2 (fun hq => by have := hlt b (by simp [N.ids]); omega)
  have B1 : Blk w1 b (cs s h m l r) 110 := gm.1.fr hp.fr n2
  refine ⟨⟨B1.set 5 _, N.In.fr fr_one (N.In.fr hp.fr gm.2.1 (fun x hx hy => n5 x hx hy)) (fun x hx e => n1 (e ▸ hx)), N.In.fr fr_one hp.mem (fun x hx e => hb1 (e ▸ hx))⟩, ?_, B1, n1, hb1⟩
  exact nodup_mk n1 hb1 n3 hp.nodup (fun x hx hy => (hp.ids x hy).elim (fun hq => n5 x hx hq) (fun hq => by have := hlt x (by simp [N.ids, hx]); omega))
/-- A tree whose node has been changed in part, and the step at its root: as a change of the whole. -/
theorem put_same {b : Nat} {s x : S} {h m : Int} {l r : N} {w w3 : World} {t' : N} (gn : (N.node b s h m l r).ids.Nodup)
    (hd : t'.In w3 ∧ t'.ids.Perm (N.node b x h m l r).ids ∧ Fr (fun n => n ∈ (N.node b x h m l r).ids ∨ w.heap.size ≤ n) w w3) : Put (.node b s h m l r) t' w w3 :=
  ⟨hd.1, hd.2.1.nodup_iff.2 gn, fun y hy => .inl (hd.2.1.mem_iff.1 hy), hd.2.2.mono (fun n hn q => q.elim id (fun q => by omega))⟩
theorem out_left {b : Nat} {s : S} {h m : Int} {l r l' : N} {n p : Nat} (hlt : ∀ x ∈ (N.node b s h m l r).ids, x < n) (hp : n ≤ p) (ho : p ∉ l'.ids) : p ∉ (N.node b s h m l' r).ids := fun hx => by
  rcases List.mem_cons.1 hx with e | hx
  · have := hlt b (by simp [N.ids]); omega
  · rcases List.mem_append.1 hx with hx | hx
    · exact ho hx
    · have := hlt p (by simp [N.ids, hx]); omega
theorem out_right {b : Nat} {s : S} {h m : Int} {l r r' : N} {n p : Nat} (hlt : ∀ x ∈ (N.node b s h m l r).ids, x < n) (hp : n ≤ p) (ho : p ∉ r'.ids) : p ∉ (N.node b s h m l r').ids := fun hx => by
  rcases List.mem_cons.1 hx with e | hx
  · have := hlt b (by simp [N.ids]); omega
  · rcases List.mem_append.1 hx with hx | hx
    · have := hlt p (by simp [N.ids, hx]); omega
    · exact ho hx
theorem put_left {b : Nat} {s : S} {h m : Int} {l r l' : N} {w w1 w3 : World} {t' : N} (gm : (N.node b s h m l r).In w) (gn : (N.node b s h m l r).ids.Nodup) (hp : Put l l' w w1)
    (hd : t'.In w3 ∧ t'.ids.Perm (N.node b s h m l' r).ids ∧ Fr (fun n => n ∈ (N.node b s h m l' r).ids ∨ w.heap.size ≤ n) (w1.setCell ⟨b, 4, none⟩ l'.ptr) w3) : Put (.node b s h m l r) t' w w3 := by
  obtain ⟨_, nd, _, _, _⟩ := mem_left gm gn hp
  refine ⟨hd.1, hd.2.1.nodup_iff.2 nd, fun x hx => ?_, ?_⟩
  · rcases List.mem_cons.1 (hd.2.1.mem_iff.1 hx) with e | e
    · rw [e]; left; simp [N.ids]
    · rcases List.mem_append.1 e with e | e
      · exact (hp.ids x e).imp (fun q => by simp [N.ids, q]) id
      · left; simp [N.ids, e]
  · have f1 : Fr (· ∈ (N.node b s h m l r).ids) w w1 := hp.fr.into (fun n q => by simp [N.ids, q])
    refine (f1.then (fr_one.into (fun n e => by rw [e]; simp [N.ids]))).trans hd.2.2 (fun n hn q => ?_)
    rcases q with q | q
    · rcases List.mem_cons.1 q with e | e
      · rw [e]; simp [N.ids]
      · rcases List.mem_append.1 e with e | e
        · exact (hp.ids n e).elim (fun z => by simp [N.ids, z]) (fun z => by omega)
        · simp [N.ids, e]
    · omega
theorem put_right {b : Nat} {s : S} {h m : Int} {l r r' : N} {w w1 w3 : World} {t' : N} (gm : (N.node b s h m l r).In w) (gn : (N.node b s h m l r).ids.Nodup) (hp : Put r r' w w1)
    (hd : t'.In w3 ∧ t'.ids.Perm (N.node b s h m l r').ids ∧ Fr (fun n => n ∈ (N.node b s h m l r').ids ∨ w.heap.size ≤ n) (w1.setCell ⟨b, 5, none⟩ r'.ptr) w3) : Put (.node b s h m l r) t' w w3 := by
  obtain ⟨_, nd, _, _, _⟩ := mem_right gm gn hp
  refine ⟨hd.1, hd.2.1.nodup_iff.2 nd, fun x hx => ?_, ?_⟩
  · rcases List.mem_cons.1 (hd.2.1.mem_iff.1 hx) with e | e
    · rw [e]; left; simp [N.ids]
    · rcases List.mem_append.1 e with e | e
      · left; simp [N.ids, e]
      · exact (hp.ids x e).imp (fun q => by simp [N.ids, q]) id
  · have f1 : Fr (· ∈ (N.node b s h m l r).ids) w w1 := hp.fr.into (fun n q => by simp [N.ids, q])
    refine (f1.then (fr_one.into (fun n e => by rw [e]; simp [N.ids]))).trans hd.2.2 (fun n hn q => ?_)
    rcases q with q | q
    · rcases List.mem_cons.1 q with e | e
      · rw [e]; simp [N.ids]
      · rcases List.mem_append.1 e with e | e
        · simp [N.ids, e]
        · exact (hp.ids n e).elim (fun z => by simp [N.ids, z]) (fun z => by omega)
    · omega

set_option maxHeartbeats 8000000 in
set_option maxRecDepth 100000 in
theorem insert_any {base : Nat} (x : S) (ov : Bool) : ∀ (t : N) (w : World), Good base w t → t.raw.tall ≤ 4294950000 →
    Calls Try.prog 50 #[t.ptr, .agg #[.int .i64 x.lo, .int .i64 x.hi], .int .i64 x.v, .bool ov] w (Inserted x ov t w)
  | .nil, w, _, _ => insert_nil x ov w
  | .node b s h m l r, w, g, ht => by
    have tn : (N.node b s h m l r).raw.tall = 1 + max l.raw.tall r.raw.tall := rfl
    have tl := T.tall_nonneg l.raw
    have tr := T.tall_nonneg r.raw
    have HT : Hid (l.raw.tall ≤ 4294950000 ∧ r.raw.tall ≤ 4294950000) := ⟨by omega, by omega⟩
    have HG : Hid (Good base w (.node b s h m l r)) := g
    clear g ht tn tl tr
    show Calls Try.prog 50 #[.pointer (some ⟨b, 0, none⟩), .agg #[.int .i64 x.lo, .int .i64 x.hi], .int .i64 x.v, .bool ov] w _
    have HB0 := hid (boxes_mk x w)
    by_cases h1 : x.lo < s.lo
    · have HR : Hid (T.ins x ov (N.node b s h m l r).raw = (T.reb (.node s h m (T.ins x ov l.raw).1 r.raw), (T.ins x ov l.raw).2)) := if_pos h1
      go_enter Try.func50, Try.ntmps50
      go_wp2_with fail
      have hbel := HB0.out.bel
      have HB : Hid (Boxes x w (((w.alloc (.cells #[.int .i64 x.lo, .int .i64 x.hi] 100)).alloc (.cells #[.int .i64 0, .int .i64 0, .int .i64 0] 74)).alloc (.cells #[.int .i64 0, .int .i64 0, .int .i64 0] 74))) := HB0.out
      clear hbel
      generalize ((w.alloc (.cells #[.int .i64 x.lo, .int .i64 x.hi] 100)).alloc (.cells #[.int .i64 0, .int .i64 0, .int .i64 0] 74)).alloc (.cells #[.int .i64 0, .int .i64 0, .int .i64 0] 74) = W at HB ⊢
      clear HB0
      have k0 : W.cell? ⟨w.heap.size, 0, none⟩ = some (.int .i64 x.lo) := HB.out.key.cell 0
      have k1 : W.cell? ⟨w.heap.size, 1, none⟩ = some (.int .i64 x.hi) := HB.out.key.cell 1
      have c0 : W.cell? ⟨b, 0, none⟩ = some (.int .i64 s.lo) := (HG.out.mem.1.fr (Fr.new (Z := fun _ => False) HB.out.bel) (fun h => h)).cell 0
      refine still_drew (by kernel_rfl) (by kernel_rfl) ?_
      repeat still_step
      refine wpStill_nil ?_
      go_wp2_with fail
      clear h1
      have c5 : W.cell? ⟨b, 4, none⟩ = some l.ptr := (HG.out.mem.1.fr (Fr.new (Z := fun _ => False) HB.out.bel) (fun h => h)).cell 4
      clear c0
      refine start_ (n := 18) (S := fun w' => w'.cell? ⟨b, 4, none⟩ = some (l.ptr) ∧ w'.cell? ⟨w.heap.size, 0, none⟩ = some (.int .i64 x.lo) ∧ w'.cell? ⟨w.heap.size, 1, none⟩ = some (.int .i64 x.hi)) (ds := [8, 15, 16]) #[false, false, false, false, false, false, false, false, false, false, false, false, false, false, false, false, false, false] (by kernel_rfl) rfl rfl ⟨c5, k0, k1⟩ (fun hHeld => ?_)
      refine with_tabW ins6.tab ins6.bits (fun HT_ HW_ => ?_)
      clear c5 k0 k1
      refine pure_ (i := 0) (N := some 31) (v := ?_) (a' := ?_) #[true, false, false, false, false, false, false, false, false, false, false, false, false, false, false, false, false, false] rfl rfl (any_of HT_.out (by kernel_rfl)) (fun _ _ _ h => h) (Or.inl ⟨by rfl, ?_⟩) ?_ ?_
      rotate_left
      · intro w'
        go_simp
        with_reducible rfl
      rotate_left
      · simp only [Act.put, List.setIfInBounds_toArray, List.set_cons_zero, List.set_cons_succ]
        rfl
      refine pure_ (i := 1) (N := some 32) (v := ?_) (a' := ?_) #[true, true, false, false, false, false, false, false, false, false, false, false, false, false, false, false, false, false] rfl rfl (any_of HT_.out (by kernel_rfl)) (fun _ _ _ h => h) (Or.inl ⟨by rfl, ?_⟩) ?_ ?_
      rotate_left
      · intro w'
        go_simp
        with_reducible rfl
      rotate_left
      · simp only [Act.put, List.setIfInBounds_toArray, List.set_cons_zero, List.set_cons_succ]
        rfl
      refine pure_ (i := 2) (N := some 33) (v := ?_) (a' := ?_) #[true, true, true, false, false, false, false, false, false, false, false, false, false, false, false, false, false, false] rfl rfl (any_of HT_.out (by kernel_rfl)) (fun _ _ _ h => h) (Or.inl ⟨by rfl, ?_⟩) ?_ ?_
      rotate_left
      · intro w'
        go_simp
        with_reducible rfl
      rotate_left
      · simp only [Act.put, List.setIfInBounds_toArray, List.set_cons_zero, List.set_cons_succ]
        rfl
      refine pure_ (i := 3) (N := some 34) (v := ?_) (a' := ?_) #[true, true, true, true, false, false, false, false, false, false, false, false, false, false, false, false, false, false] rfl rfl (any_of HT_.out (by kernel_rfl)) (fun _ _ _ h => h) (Or.inl ⟨by rfl, ?_⟩) ?_ ?_
      rotate_left
      · intro w'
        go_simp
        with_reducible rfl
      rotate_left
      · simp only [Act.put, List.setIfInBounds_toArray, List.set_cons_zero, List.set_cons_succ]
        rfl
      refine take_ (i := 4) (N := some 35) (v := ?_) (a' := ?_) #[true, true, true, true, true, false, false, false, false, false, false, false, false, false, false, false, false, false] rfl rfl (take_ofW HT_.out HW_.out (by kernel_rfl)) (fun _ _ _ h => h) (Or.inl ⟨by rfl, ?_⟩) hHeld ?_ ?_
      rotate_left
      · intro w' s0
        obtain ⟨s1, s2, s3⟩ := s0
        go_simp
        with_reducible rfl
      rotate_left
      · simp only [Act.put, List.setIfInBounds_toArray, List.set_cons_zero, List.set_cons_succ]
        rfl
      refine take_ (i := 5) (N := some 36) (v := ?_) (a' := ?_) #[true, true, true, true, true, true, false, false, false, false, false, false, false, false, false, false, false, false] rfl rfl (take_ofW HT_.out HW_.out (by kernel_rfl)) (fun _ _ _ h => h) (Or.inl ⟨by rfl, ?_⟩) hHeld ?_ ?_
      rotate_left
      · intro w' s0
        obtain ⟨s1, s2, s3⟩ := s0
        go_simp
        with_reducible rfl
      rotate_left
      · simp only [Act.put, List.setIfInBounds_toArray, List.set_cons_zero, List.set_cons_succ]
        rfl
      refine pure_ (i := 6) (N := some 37) (v := ?_) (a' := ?_) #[true, true, true, true, true, true, true, false, false, false, false, false, false, false, false, false, false, false] rfl rfl (any_of HT_.out (by kernel_rfl)) (fun _ _ _ h => h) (Or.inl ⟨by rfl, ?_⟩) ?_ ?_
      rotate_left
      · intro w'
        go_simp
        with_reducible rfl
      rotate_left
      · simp only [Act.put, List.setIfInBounds_toArray, List.set_cons_zero, List.set_cons_succ]
        rfl
      refine pure_ (i := 7) (N := some 38) (v := ?_) (a' := ?_) #[true, true, true, true, true, true, true, true, false, false, false, false, false, false, false, false, false, false] rfl rfl (any_of HT_.out (by kernel_rfl)) (fun _ _ _ h => h) (Or.inl ⟨by rfl, ?_⟩) ?_ ?_
      rotate_left
      · intro w'
        go_simp
        with_reducible rfl
      rotate_left
      · simp only [Act.put, List.setIfInBounds_toArray, List.set_cons_zero, List.set_cons_succ]
        rfl
      refine last_ (i := 8) (N := some 39) #[true, true, true, true, true, true, true, true, true, false, false, false, false, false, false, false, false, false] rfl rfl (one_of HT_.out (by kernel_rfl)) (by decide) (fun K_ hK => ?_)
      refine call_ (N := some 39) 50 #[l.ptr, .agg #[.int .i64 x.lo, .int .i64 x.hi], .int .i64 x.v, .bool ov] (by rfl) rfl (by go_simp) ?_
      have HCall_ := insert_any x ov l (W.drew.drew) (HG.out.lf.to HB.out.bel.drew.drew) HT.out.1
      refine HCall_.mono ?_
      clear HCall_
      rintro e w2 ⟨l', kv, ok, rfl, hraw, hput0⟩
      have hput : Put l l' w w2 := Put.since (W := W.drew.drew) hput0 HB.out.bel.drew.drew
      obtain ⟨q1, q2, q3, q4, q5⟩ := mem_left HG.out.mem HG.out.nodup hput
      have hlt := N.In.lt HG.out.mem
      have n9 : w.heap.size + 1 ∉ l'.ids := new_out (W := W.drew.drew) (fun b hb => hlt b (by simp [N.ids, hb])) hput0 (by omega) (by have := HB.out.p9.lt; exact this)
      have n11 : w.heap.size + 1 + 1 ∉ l'.ids := new_out (W := W.drew.drew) (fun b hb => hlt b (by simp [N.ids, hb])) hput0 (by omega) (by have := HB.out.p11.lt; exact this)
      have hb0 := hlt b (by simp [N.ids])
      have o9 : w.heap.size + 1 ∉ (N.node b s h m l' r).ids := out_left hlt (by omega) n9
      have o11 : w.heap.size + 1 + 1 ∉ (N.node b s h m l' r).ids := out_left hlt (by omega) n11
      have b9 : Blk w2 (w.heap.size + 1) (kvc ⟨0, 0, 0⟩) 74 := Blk.fr (w := W.drew.drew) HB.out.p9 hput0.fr (fun hx => by have := hlt (w.heap.size + 1) (by simp [N.ids, hx]); omega)
      have b11 : Blk w2 (w.heap.size + 1 + 1) (kvc ⟨0, 0, 0⟩) 74 := Blk.fr (w := W.drew.drew) HB.out.p11 hput0.fr (fun hx => by have := hlt (w.heap.size + 1 + 1) (by simp [N.ids, hx]); omega)
      have HP : Hid (w.heap.size + 1 ∉ (N.node b s h m l' r).ids ∧ w.heap.size + 1 + 1 ∉ (N.node b s h m l' r).ids ∧ b ≠ w.heap.size + 1 + 1 ∧ b ≠ w.heap.size + 1) := ⟨o9, o11, by omega, by omega⟩
      have H2 : Hid (Put l l' w w2 ∧ (N.node b s h m l' r).In (w2.setCell ⟨b, 4, none⟩ l'.ptr) ∧ (N.node b s h m l' r).ids.Nodup ∧ Blk w2 b (cs s h m l r) 110 ∧ Blk w2 (w.heap.size + 1) (kvc ⟨0, 0, 0⟩) 74 ∧ Blk w2 (w.heap.size + 1 + 1) (kvc ⟨0, 0, 0⟩) 74 ∧ T.ins x ov l.raw = (l'.raw, kv, ok)) := ⟨hput, q1, q2, q3, b9, b11, hraw⟩
      clear hput0 hput q1 q2 q3 q4 q5 n9 n11 o9 o11 b9 b11 hraw hlt hb0
      obtain ⟨u, hu⟩ := l'.ptr_some
      have HU : Hid (l'.ptr = .pointer u) := hu
      rw [hu] at H2 ⊢
      clear hu
      refine ⟨_, rfl, ?_⟩
      refine hK.out _ _ ?_
      clear hK K_
      refine norm_ (a' := ?_) ?_ ?_
      rotate_left
      · show Act.put _ (some 39) _ = _
        simp only [Act.put, List.setIfInBounds_toArray, List.set_cons_zero, List.set_cons_succ]
        rfl
      refine pure_ (i := 9) (N := some 30) (v := ?_) (a' := ?_) #[true, true, true, true, true, true, true, true, true, true, false, false, false, false, false, false, false, false] rfl rfl (any_of HT_.out (by kernel_rfl)) (fun _ _ _ h => h) (Or.inl ⟨by rfl, ?_⟩) ?_ ?_
      rotate_left
      · intro w'
        go_simp
        with_reducible rfl
      rotate_left
      · simp only [Act.put, List.setIfInBounds_toArray, List.set_cons_zero, List.set_cons_succ]
        rfl
      refine pure_ (i := 10) (N := some 40) (v := ?_) (a' := ?_) #[true, true, true, true, true, true, true, true, true, true, true, false, false, false, false, false, false, false] rfl rfl (any_of HT_.out (by kernel_rfl)) (fun _ _ _ h => h) (Or.inl ⟨by rfl, ?_⟩) ?_ ?_
      rotate_left
      · intro w'
        go_simp
        with_reducible rfl
      rotate_left
      · simp only [Act.put, List.setIfInBounds_toArray, List.set_cons_zero, List.set_cons_succ]
        rfl
      refine pure_ (i := 11) (N := some 41) (v := ?_) (a' := ?_) #[true, true, true, true, true, true, true, true, true, true, true, true, false, false, false, false, false, false] rfl rfl (any_of HT_.out (by kernel_rfl)) (fun _ _ _ h => h) (Or.inl ⟨by rfl, ?_⟩) ?_ ?_
      rotate_left
      · intro w'
        go_simp
        with_reducible rfl
      rotate_left
      · simp only [Act.put, List.setIfInBounds_toArray, List.set_cons_zero, List.set_cons_succ]
        rfl
      refine pure_ (i := 12) (N := some 42) (v := ?_) (a' := ?_) #[true, true, true, true, true, true, true, true, true, true, true, true, true, false, false, false, false, false] rfl rfl (any_of HT_.out (by kernel_rfl)) (fun _ _ _ h => h) (Or.inl ⟨by rfl, ?_⟩) ?_ ?_
      rotate_left
      · intro w'
        go_simp
        with_reducible rfl
      rotate_left
      · simp only [Act.put, List.setIfInBounds_toArray, List.set_cons_zero, List.set_cons_succ]
        rfl
      refine pure_ (i := 13) (N := some 43) (v := ?_) (a' := ?_) #[true, true, true, true, true, true, true, true, true, true, true, true, true, true, false, false, false, false] rfl rfl (any_of HT_.out (by kernel_rfl)) (fun _ _ _ h => h) (Or.inl ⟨by rfl, ?_⟩) ?_ ?_
      rotate_left
      · intro w'
        go_simp
        with_reducible rfl
      rotate_left
      · simp only [Act.put, List.setIfInBounds_toArray, List.set_cons_zero, List.set_cons_succ]
        rfl
      refine pure_ (i := 14) (N := some 44) (v := ?_) (a' := ?_) #[true, true, true, true, true, true, true, true, true, true, true, true, true, true, true, false, false, false] rfl rfl (any_of HT_.out (by kernel_rfl)) (fun _ _ _ h => h) (Or.inl ⟨by rfl, ?_⟩) ?_ ?_
      rotate_left
      · intro w'
        go_simp
        with_reducible rfl
      rotate_left
      · simp only [Act.put, List.setIfInBounds_toArray, List.set_cons_zero, List.set_cons_succ]
        rfl
      have d0 : w2.cell? ⟨b, 4, none⟩ = some l.ptr := H2.out.2.2.2.1.cell 4
      have d1 : w2.frozen? ⟨b, 4, none⟩ = false := H2.out.2.2.2.1.free 4
      have e0 : w2.cell? ⟨w.heap.size + 1 + 1, 0, none⟩ = some (.int .i64 0) := H2.out.2.2.2.2.2.1.cell 0
      have e1 : w2.cell? ⟨w.heap.size + 1 + 1, 1, none⟩ = some (.int .i64 0) := H2.out.2.2.2.2.2.1.cell 1
      have e2 : w2.cell? ⟨w.heap.size + 1 + 1, 2, none⟩ = some (.int .i64 0) := H2.out.2.2.2.2.2.1.cell 2
      have f0 : w2.frozen? ⟨w.heap.size + 1 + 1, 0, none⟩ = false := H2.out.2.2.2.2.2.1.free 0
      have f1 : w2.frozen? ⟨w.heap.size + 1 + 1, 1, none⟩ = false := H2.out.2.2.2.2.2.1.free 1
      have f2 : w2.frozen? ⟨w.heap.size + 1 + 1, 2, none⟩ = false := H2.out.2.2.2.2.2.1.free 2
      have hne : w.heap.size + 1 + 1 ≠ b := fun e => HP.out.2.2.1 e.symm
      have hne' : b ≠ w.heap.size + 1 + 1 := HP.out.2.2.1
      refine last_ (i := 15) (N := none) #[true, true, true, true, true, true, true, true, true, true, true, true, true, true, true, true, false, false] rfl rfl (one_of HT_.out (by kernel_rfl)) (by decide) (fun K_ hK => ?_)
      refine skip_ (w1 := ?_) (by rfl) rfl ?_ ?_
      rotate_left
      · go_simp
        rfl
      refine hK.out _ _ ?_
      clear hK K_
      refine last_ (i := 16) (N := none) #[true, true, true, true, true, true, true, true, true, true, true, true, true, true, true, true, true, false] rfl rfl (one_of HT_.out (by kernel_rfl)) (by decide) (fun K_ hK => ?_)
      refine skip_ (w1 := ?_) (by rfl) rfl ?_ ?_
      rotate_left
      · go_simp
        rfl
      refine hK.out _ _ ?_
      clear hK K_
      refine pure_ (i := 17) (N := some 12) (v := ?_) (a' := ?_) #[true, true, true, true, true, true, true, true, true, true, true, true, true, true, true, true, true, true] rfl rfl (any_of HT_.out (by kernel_rfl)) (fun _ _ _ h => h) (Or.inl ⟨by rfl, ?_⟩) ?_ ?_
      rotate_left
      · intro w'
        go_simp
        with_reducible rfl
      rotate_left
      · simp only [Act.put, List.setIfInBounds_toArray, List.set_cons_zero, List.set_cons_succ]
        rfl
      refine done_ (done_of HT_.out (by kernel_rfl)) ?_
      clear HT_ HW_
      clear d0 d1 e0 e1 e2 f0 f1 f2 hHeld
      have H11 : Hid (Blk ((((w2.setCell ⟨b, 4, none⟩ (.pointer u)).setCell ⟨w.heap.size + 1 + 1, 0, none⟩ (.int .i64 kv.lo)).setCell ⟨w.heap.size + 1 + 1, 1, none⟩ (.int .i64 kv.hi)).setCell ⟨w.heap.size + 1 + 1, 2, none⟩ (.int .i64 kv.v)) (w.heap.size + 1 + 1) (kvc kv) 74) := blk_box3 (w := w2.setCell ⟨b, 4, none⟩ (.pointer u)) (H2.out.2.2.2.2.2.1.other _ _ hne)
      have H9 : Hid (Blk ((((w2.setCell ⟨b, 4, none⟩ (.pointer u)).setCell ⟨w.heap.size + 1 + 1, 0, none⟩ (.int .i64 kv.lo)).setCell ⟨w.heap.size + 1 + 1, 1, none⟩ (.int .i64 kv.hi)).setCell ⟨w.heap.size + 1 + 1, 2, none⟩ (.int .i64 kv.v)) (w.heap.size + 1) (kvc ⟨0, 0, 0⟩) 74) := (H2.out.2.2.2.2.1.other ⟨b, 4, none⟩ _ (fun e => HP.out.2.2.2 e.symm)).fr (fr_box3 (w := w2.setCell ⟨b, 4, none⟩ (.pointer u)) (p := w.heap.size + 1 + 1) (kv := kv)) (by omega)
      have HI : Hid ((N.node b s h m l' r).In ((((w2.setCell ⟨b, 4, none⟩ (.pointer u)).setCell ⟨w.heap.size + 1 + 1, 0, none⟩ (.int .i64 kv.lo)).setCell ⟨w.heap.size + 1 + 1, 1, none⟩ (.int .i64 kv.hi)).setCell ⟨w.heap.size + 1 + 1, 2, none⟩ (.int .i64 kv.v)) ∧ Fr (· = w.heap.size + 1 + 1) (w2.setCell ⟨b, 4, none⟩ (.pointer u)) ((((w2.setCell ⟨b, 4, none⟩ (.pointer u)).setCell ⟨w.heap.size + 1 + 1, 0, none⟩ (.int .i64 kv.lo)).setCell ⟨w.heap.size + 1 + 1, 1, none⟩ (.int .i64 kv.hi)).setCell ⟨w.heap.size + 1 + 1, 2, none⟩ (.int .i64 kv.v))) := ⟨N.In.fr (fr_box3 (w := w2.setCell ⟨b, 4, none⟩ (.pointer u)) (p := w.heap.size + 1 + 1) (kv := kv)) H2.out.2.1 (fun y hy e => HP.out.2.1 (e ▸ hy)), fr_box3 (w := w2.setCell ⟨b, 4, none⟩ (.pointer u)) (p := w.heap.size + 1 + 1) (kv := kv)⟩
      clear hne hne'
      go_wp2_with fail
      generalize (((w2.setCell ⟨b, 4, none⟩ (.pointer u)).setCell ⟨w.heap.size + 1 + 1, 0, none⟩ (.int .i64 kv.lo)).setCell ⟨w.heap.size + 1 + 1, 1, none⟩ (.int .i64 kv.hi)).setCell ⟨w.heap.size + 1 + 1, 2, none⟩ (.int .i64 kv.v) = w3 at H11 H9 HI ⊢
      have e0 : w3.cell? ⟨w.heap.size + 1 + 1, 0, none⟩ = some (.int .i64 kv.lo) := H11.out.cell 0
      have e1 : w3.cell? ⟨w.heap.size + 1 + 1, 1, none⟩ = some (.int .i64 kv.hi) := H11.out.cell 1
      have e2 : w3.cell? ⟨w.heap.size + 1 + 1, 2, none⟩ = some (.int .i64 kv.v) := H11.out.cell 2
      refine start_ (n := 7) (S := fun w' => w'.cell? ⟨w.heap.size + 1 + 1, 0, none⟩ = some (.int .i64 kv.lo) ∧ w'.cell? ⟨w.heap.size + 1 + 1, 1, none⟩ = some (.int .i64 kv.hi) ∧ w'.cell? ⟨w.heap.size + 1 + 1, 2, none⟩ = some (.int .i64 kv.v)) (ds := [5]) #[false, false, false, false, false, false, false] (by kernel_rfl) rfl rfl ⟨e0, e1, e2⟩ (fun hHeld => ?_)
      refine with_tabW ins14.tab ins14.bits (fun HT_ HW_ => ?_)
      clear e0 e1 e2
      refine pure_ (i := 0) (N := some 83) (v := ?_) (a' := ?_) #[true, false, false, false, false, false, false] rfl rfl (any_of HT_.out (by kernel_rfl)) (fun _ _ _ h => h) (Or.inl ⟨by rfl, ?_⟩) ?_ ?_
      rotate_left
      · intro w'
        go_simp
        with_reducible rfl
      rotate_left
      · simp only [Act.put, List.setIfInBounds_toArray, List.set_cons_zero, List.set_cons_succ]
        rfl
      refine take_ (i := 2) (N := some 85) (v := ?_) (a' := ?_) #[true, false, true, false, false, false, false] rfl rfl (take_ofW HT_.out HW_.out (by kernel_rfl)) (fun _ _ _ h => h) (Or.inl ⟨by rfl, ?_⟩) hHeld ?_ ?_
      rotate_left
      · intro w' s0
        obtain ⟨s1, s2, s3⟩ := s0
        go_simp
        with_reducible rfl
      rotate_left
      · simp only [Act.put, List.setIfInBounds_toArray, List.set_cons_zero, List.set_cons_succ]
        rfl
      refine pure_ (i := 3) (N := some 86) (v := ?_) (a' := ?_) #[true, false, true, true, false, false, false] rfl rfl (any_of HT_.out (by kernel_rfl)) (fun _ _ _ h => h) (Or.inl ⟨by rfl, ?_⟩) ?_ ?_
      rotate_left
      · intro w'
        go_simp
        with_reducible rfl
      rotate_left
      · simp only [Act.put, List.setIfInBounds_toArray, List.set_cons_zero, List.set_cons_succ]
        rfl
      refine one_ (i := 1) (N := some 84) #[true, true, true, true, false, false, false] rfl rfl (one_of HT_.out (by kernel_rfl)) (by decide) (fun K_ hK => ?_)
      refine call_ (N := some 84) 62 #[.pointer (some ⟨b, 0, none⟩)] (by rfl) rfl (by go_simp) ?_
      have HCall_ := reb_any (N.node b s h m l' r) w3.drew (N.In.drew HI.out.1) H2.out.2.2.1 (fun b' s' h' m' l2 r2 e => by
          have hr1 : l'.raw = (T.ins x ov l.raw).1 := by rw [H2.out.2.2.2.2.2.2]
          injection e with e1 e2 e3 e4 e5 e6
          subst e5 e6
          exact ⟨⟨by rw [hr1]; exact (T.good_ins x ov HG.out.lf.good).1.right, by rw [hr1]; have := (T.good_ins x ov HG.out.lf.good).2; have := HT.out; omega⟩, ⟨HG.out.rt.good.right, by have := HT.out; omega⟩⟩)
      refine HCall_.mono ?_
      clear HCall_
      rintro e w4 ⟨t', rfl, i1, i2, i3, i4⟩
      have H4 : Hid (Blk w4 (w.heap.size + 1 + 1) (kvc kv) 74 ∧ Blk w4 (w.heap.size + 1) (kvc ⟨0, 0, 0⟩) 74 ∧ t'.In w4 ∧ t'.raw = T.reb (N.node b s h m l' r).raw ∧ t'.ids.Perm (N.node b s h m l' r).ids ∧ Fr (· ∈ (N.node b s h m l' r).ids) w3 w4) :=
        ⟨Blk.fr (w := w3.drew) H11.out i4 HP.out.2.1, Blk.fr (w := w3.drew) H9.out i4 HP.out.1, i1, i2, i3, ⟨i4.os, i4.tape, i4.output, i4.size, i4.block⟩⟩
      clear i1 i2 i3 i4
      obtain ⟨u4, hu4⟩ := t'.ptr_some
      have HU4 : Hid (t'.ptr = .pointer u4) := hu4
      rw [hu4]
      clear hu4
      refine ⟨_, rfl, ?_⟩
      refine hK.out _ _ ⟨H4.out.1.cell 0, H4.out.1.cell 1, H4.out.1.cell 2⟩ (fun hHeld => ?_)
      clear hK K_
      refine norm_ (a' := ?_) ?_ ?_
      rotate_left
      · show Act.put _ (some 84) _ = _
        simp only [Act.put, List.setIfInBounds_toArray, List.set_cons_zero, List.set_cons_succ]
        rfl
      refine pure_ (i := 4) (N := some 8) (v := ?_) (a' := ?_) #[true, true, true, true, true, false, false] rfl rfl (any_of HT_.out (by kernel_rfl)) (fun _ _ _ h => h) (Or.inl ⟨by rfl, ?_⟩) ?_ ?_
      rotate_left
      · intro w'
        go_simp
        with_reducible rfl
      rotate_left
      · simp only [Act.put, List.setIfInBounds_toArray, List.set_cons_zero, List.set_cons_succ]
        rfl
      clear hHeld
      have e0 : w4.cell? ⟨w.heap.size + 1, 0, none⟩ = some (.int .i64 0) := H4.out.2.1.cell 0
      have e1 : w4.cell? ⟨w.heap.size + 1, 1, none⟩ = some (.int .i64 0) := H4.out.2.1.cell 1
      have e2 : w4.cell? ⟨w.heap.size + 1, 2, none⟩ = some (.int .i64 0) := H4.out.2.1.cell 2
      have f0 : w4.frozen? ⟨w.heap.size + 1, 0, none⟩ = false := H4.out.2.1.free 0
      have f1 : w4.frozen? ⟨w.heap.size + 1, 1, none⟩ = false := H4.out.2.1.free 1
      have f2 : w4.frozen? ⟨w.heap.size + 1, 2, none⟩ = false := H4.out.2.1.free 2
      refine last_ (i := 5) (N := none) #[true, true, true, true, true, true, false] rfl rfl (one_of HT_.out (by kernel_rfl)) (by decide) (fun K_ hK => ?_)
      refine skip_ (w1 := ?_) (by rfl) rfl ?_ ?_
      rotate_left
      · go_simp
        rfl
      refine hK.out _ _ ?_
      clear hK K_
      clear e0 e1 e2 f0 f1 f2
      refine pure_ (i := 6) (N := some 10) (v := ?_) (a' := ?_) #[true, true, true, true, true, true, true] rfl rfl (any_of HT_.out (by kernel_rfl)) (fun _ _ _ h => h) (Or.inl ⟨by rfl, ?_⟩) ?_ ?_
      rotate_left
      · intro w'
        go_simp
        with_reducible rfl
      rotate_left
      · simp only [Act.put, List.setIfInBounds_toArray, List.set_cons_zero, List.set_cons_succ]
        rfl
      refine done_ (done_of HT_.out (by kernel_rfl)) ?_
      clear HT_ HW_
      have z0 : (((w4.setCell ⟨w.heap.size + 1, 0, none⟩ (.int .i64 kv.lo)).setCell ⟨w.heap.size + 1, 1, none⟩ (.int .i64 kv.hi)).setCell ⟨w.heap.size + 1, 2, none⟩ (.int .i64 kv.v)).cell? ⟨w.heap.size + 1, 0, none⟩ = some (.int .i64 kv.lo) := (blk_box3 (kv := kv) H4.out.2.1).cell 0
      have z1 : (((w4.setCell ⟨w.heap.size + 1, 0, none⟩ (.int .i64 kv.lo)).setCell ⟨w.heap.size + 1, 1, none⟩ (.int .i64 kv.hi)).setCell ⟨w.heap.size + 1, 2, none⟩ (.int .i64 kv.v)).cell? ⟨w.heap.size + 1, 1, none⟩ = some (.int .i64 kv.hi) := (blk_box3 (kv := kv) H4.out.2.1).cell 1
      have z2 : (((w4.setCell ⟨w.heap.size + 1, 0, none⟩ (.int .i64 kv.lo)).setCell ⟨w.heap.size + 1, 1, none⟩ (.int .i64 kv.hi)).setCell ⟨w.heap.size + 1, 2, none⟩ (.int .i64 kv.v)).cell? ⟨w.heap.size + 1, 2, none⟩ = some (.int .i64 kv.v) := (blk_box3 (kv := kv) H4.out.2.1).cell 2
      go_wp2_with fail
      refine bodyPost_ret (v := .tuple #[.pointer u4, .agg #[.int .i64 kv.lo, .int .i64 kv.hi, .int .i64 kv.v], .bool ok]) (by simp [results, Try.results50, go_sem, z0, z1, z2]) rfl ?_
      refine ⟨t', kv, ok, by rw [HU4.out], by rw [HR.out, H2.out.2.2.2.2.2.2, H4.out.2.2.2.1]; rfl, ?_⟩
      have h9 : w.heap.size + 1 ∉ t'.ids := fun hx => HP.out.1 (H4.out.2.2.2.2.1.mem_iff.1 hx)
      have hf : Fr (fun n => n ∈ (N.node b s h m l' r).ids ∨ w.heap.size ≤ n) (w2.setCell ⟨b, 4, none⟩ l'.ptr) (box3 w4 (w.heap.size + 1) kv) := by
        rw [HU.out]
        exact ((HI.out.2.into (fun n e => .inr (by omega))).then (H4.out.2.2.2.2.2.into (fun n e => .inl e))).then (fr_box3.into (fun n e => .inr (by omega)))
      exact put_left HG.out.mem HG.out.nodup H2.out.1 ⟨N.In.fr fr_box3 H4.out.2.2.1 (fun y hy e => h9 (e ▸ hy)), H4.out.2.2.2.2.1, hf⟩
    · by_cases h2 : x.lo > s.lo
      · have HR : Hid (T.ins x ov (N.node b s h m l r).raw = (T.reb (.node s h m l.raw (T.ins x ov r.raw).1), (T.ins x ov r.raw).2)) := (if_neg h1).trans (if_pos h2)
        go_enter Try.func50, Try.ntmps50
        go_wp2_with fail
        have hbel := HB0.out.bel
        have HB : Hid (Boxes x w (((w.alloc (.cells #[.int .i64 x.lo, .int .i64 x.hi] 100)).alloc (.cells #[.int .i64 0, .int .i64 0, .int .i64 0] 74)).alloc (.cells #[.int .i64 0, .int .i64 0, .int .i64 0] 74))) := HB0.out
        clear hbel
        generalize ((w.alloc (.cells #[.int .i64 x.lo, .int .i64 x.hi] 100)).alloc (.cells #[.int .i64 0, .int .i64 0, .int .i64 0] 74)).alloc (.cells #[.int .i64 0, .int .i64 0, .int .i64 0] 74) = W at HB ⊢
        clear HB0
        have k0 : W.cell? ⟨w.heap.size, 0, none⟩ = some (.int .i64 x.lo) := HB.out.key.cell 0
        have k1 : W.cell? ⟨w.heap.size, 1, none⟩ = some (.int .i64 x.hi) := HB.out.key.cell 1
        have c0 : W.cell? ⟨b, 0, none⟩ = some (.int .i64 s.lo) := (HG.out.mem.1.fr (Fr.new (Z := fun _ => False) HB.out.bel) (fun h => h)).cell 0
        refine still_drew (by kernel_rfl) (by kernel_rfl) ?_
        repeat still_step
        refine wpStill_nil ?_
        go_wp2_with fail
        refine still_drew (by kernel_rfl) (by kernel_rfl) ?_
        repeat still_step
        refine wpStill_nil ?_
        go_wp2_with fail
        clear h1 h2
        have c5 : W.cell? ⟨b, 5, none⟩ = some r.ptr := (HG.out.mem.1.fr (Fr.new (Z := fun _ => False) HB.out.bel) (fun h => h)).cell 5
        clear c0
        refine start_ (n := 18) (S := fun w' => w'.cell? ⟨b, 5, none⟩ = some (r.ptr) ∧ w'.cell? ⟨w.heap.size, 0, none⟩ = some (.int .i64 x.lo) ∧ w'.cell? ⟨w.heap.size, 1, none⟩ = some (.int .i64 x.hi)) (ds := [8, 15, 16]) #[false, false, false, false, false, false, false, false, false, false, false, false, false, false, false, false, false, false] (by kernel_rfl) rfl rfl ⟨c5, k0, k1⟩ (fun hHeld => ?_)
        refine with_tabW ins8.tab ins8.bits (fun HT_ HW_ => ?_)
        clear c5 k0 k1
        refine pure_ (i := 0) (N := some 54) (v := ?_) (a' := ?_) #[true, false, false, false, false, false, false, false, false, false, false, false, false, false, false, false, false, false] rfl rfl (any_of HT_.out (by kernel_rfl)) (fun _ _ _ h => h) (Or.inl ⟨by rfl, ?_⟩) ?_ ?_
        rotate_left
        · intro w'
          go_simp
          with_reducible rfl
        rotate_left
        · simp only [Act.put, List.setIfInBounds_toArray, List.set_cons_zero, List.set_cons_succ]
          rfl
        refine pure_ (i := 1) (N := some 55) (v := ?_) (a' := ?_) #[true, true, false, false, false, false, false, false, false, false, false, false, false, false, false, false, false, false] rfl rfl (any_of HT_.out (by kernel_rfl)) (fun _ _ _ h => h) (Or.inl ⟨by rfl, ?_⟩) ?_ ?_
        rotate_left
        · intro w'
          go_simp
          with_reducible rfl
        rotate_left
        · simp only [Act.put, List.setIfInBounds_toArray, List.set_cons_zero, List.set_cons_succ]
          rfl
        refine pure_ (i := 2) (N := some 56) (v := ?_) (a' := ?_) #[true, true, true, false, false, false, false, false, false, false, false, false, false, false, false, false, false, false] rfl rfl (any_of HT_.out (by kernel_rfl)) (fun _ _ _ h => h) (Or.inl ⟨by rfl, ?_⟩) ?_ ?_
        rotate_left
        · intro w'
          go_simp
          with_reducible rfl
        rotate_left
        · simp only [Act.put, List.setIfInBounds_toArray, List.set_cons_zero, List.set_cons_succ]
          rfl
        refine pure_ (i := 3) (N := some 57) (v := ?_) (a' := ?_) #[true, true, true, true, false, false, false, false, false, false, false, false, false, false, false, false, false, false] rfl rfl (any_of HT_.out (by kernel_rfl)) (fun _ _ _ h => h) (Or.inl ⟨by rfl, ?_⟩) ?_ ?_
        rotate_left
        · intro w'
          go_simp
          with_reducible rfl
        rotate_left
        · simp only [Act.put, List.setIfInBounds_toArray, List.set_cons_zero, List.set_cons_succ]
          rfl
        refine take_ (i := 4) (N := some 58) (v := ?_) (a' := ?_) #[true, true, true, true, true, false, false, false, false, false, false, false, false, false, false, false, false, false] rfl rfl (take_ofW HT_.out HW_.out (by kernel_rfl)) (fun _ _ _ h => h) (Or.inl ⟨by rfl, ?_⟩) hHeld ?_ ?_
        rotate_left
        · intro w' s0
          obtain ⟨s1, s2, s3⟩ := s0
          go_simp
          with_reducible rfl
        rotate_left
        · simp only [Act.put, List.setIfInBounds_toArray, List.set_cons_zero, List.set_cons_succ]
          rfl
        refine take_ (i := 5) (N := some 59) (v := ?_) (a' := ?_) #[true, true, true, true, true, true, false, false, false, false, false, false, false, false, false, false, false, false] rfl rfl (take_ofW HT_.out HW_.out (by kernel_rfl)) (fun _ _ _ h => h) (Or.inl ⟨by rfl, ?_⟩) hHeld ?_ ?_
        rotate_left
        · intro w' s0
          obtain ⟨s1, s2, s3⟩ := s0
          go_simp
          with_reducible rfl
        rotate_left
        · simp only [Act.put, List.setIfInBounds_toArray, List.set_cons_zero, List.set_cons_succ]
          rfl
        refine pure_ (i := 6) (N := some 60) (v := ?_) (a' := ?_) #[true, true, true, true, true, true, true, false, false, false, false, false, false, false, false, false, false, false] rfl rfl (any_of HT_.out (by kernel_rfl)) (fun _ _ _ h => h) (Or.inl ⟨by rfl, ?_⟩) ?_ ?_
        rotate_left
        · intro w'
          go_simp
          with_reducible rfl
        rotate_left
        · simp only [Act.put, List.setIfInBounds_toArray, List.set_cons_zero, List.set_cons_succ]
          rfl
        refine pure_ (i := 7) (N := some 61) (v := ?_) (a' := ?_) #[true, true, true, true, true, true, true, true, false, false, false, false, false, false, false, false, false, false] rfl rfl (any_of HT_.out (by kernel_rfl)) (fun _ _ _ h => h) (Or.inl ⟨by rfl, ?_⟩) ?_ ?_
        rotate_left
        · intro w'
          go_simp
          with_reducible rfl
        rotate_left
        · simp only [Act.put, List.setIfInBounds_toArray, List.set_cons_zero, List.set_cons_succ]
          rfl
        refine last_ (i := 8) (N := some 62) #[true, true, true, true, true, true, true, true, true, false, false, false, false, false, false, false, false, false] rfl rfl (one_of HT_.out (by kernel_rfl)) (by decide) (fun K_ hK => ?_)
        refine call_ (N := some 62) 50 #[r.ptr, .agg #[.int .i64 x.lo, .int .i64 x.hi], .int .i64 x.v, .bool ov] (by rfl) rfl (by go_simp) ?_
        have HCall_ := insert_any x ov r (W.drew.drew.drew) (HG.out.rt.to HB.out.bel.drew.drew.drew) HT.out.2
        refine HCall_.mono ?_
        clear HCall_
        rintro e w2 ⟨r', kv, ok, rfl, hraw, hput0⟩
        have hput : Put r r' w w2 := Put.since (W := W.drew.drew.drew) hput0 HB.out.bel.drew.drew.drew
        obtain ⟨q1, q2, q3, q4, q5⟩ := mem_right HG.out.mem HG.out.nodup hput
        have hlt := N.In.lt HG.out.mem
        have n9 : w.heap.size + 1 ∉ r'.ids := new_out (W := W.drew.drew.drew) (fun b hb => hlt b (by simp [N.ids, hb])) hput0 (by omega) (by have := HB.out.p9.lt; exact this)
        have n11 : w.heap.size + 1 + 1 ∉ r'.ids := new_out (W := W.drew.drew.drew) (fun b hb => hlt b (by simp [N.ids, hb])) hput0 (by omega) (by have := HB.out.p11.lt; exact this)
        have hb0 := hlt b (by simp [N.ids])
        have o9 : w.heap.size + 1 ∉ (N.node b s h m l r').ids := out_right hlt (by omega) n9
        have o11 : w.heap.size + 1 + 1 ∉ (N.node b s h m l r').ids := out_right hlt (by omega) n11
        have b9 : Blk w2 (w.heap.size + 1) (kvc ⟨0, 0, 0⟩) 74 := Blk.fr (w := W.drew.drew.drew) HB.out.p9 hput0.fr (fun hx => by have := hlt (w.heap.size + 1) (by simp [N.ids, hx]); omega)
        have b11 : Blk w2 (w.heap.size + 1 + 1) (kvc ⟨0, 0, 0⟩) 74 := Blk.fr (w := W.drew.drew.drew) HB.out.p11 hput0.fr (fun hx => by have := hlt (w.heap.size + 1 + 1) (by simp [N.ids, hx]); omega)
        have HP : Hid (w.heap.size + 1 ∉ (N.node b s h m l r').ids ∧ w.heap.size + 1 + 1 ∉ (N.node b s h m l r').ids ∧ b ≠ w.heap.size + 1 + 1 ∧ b ≠ w.heap.size + 1) := ⟨o9, o11, by omega, by omega⟩
        have H2 : Hid (Put r r' w w2 ∧ (N.node b s h m l r').In (w2.setCell ⟨b, 5, none⟩ r'.ptr) ∧ (N.node b s h m l r').ids.Nodup ∧ Blk w2 b (cs s h m l r) 110 ∧ Blk w2 (w.heap.size + 1) (kvc ⟨0, 0, 0⟩) 74 ∧ Blk w2 (w.heap.size + 1 + 1) (kvc ⟨0, 0, 0⟩) 74 ∧ T.ins x ov r.raw = (r'.raw, kv, ok)) := ⟨hput, q1, q2, q3, b9, b11, hraw⟩
        clear hput0 hput q1 q2 q3 q4 q5 n9 n11 o9 o11 b9 b11 hraw hlt hb0
        obtain ⟨u, hu⟩ := r'.ptr_some
        have HU : Hid (r'.ptr = .pointer u) := hu
        rw [hu] at H2 ⊢
        clear hu
        refine ⟨_, rfl, ?_⟩
        refine hK.out _ _ ?_
        clear hK K_
        refine norm_ (a' := ?_) ?_ ?_
        rotate_left
        · show Act.put _ (some 62) _ = _
          simp only [Act.put, List.setIfInBounds_toArray, List.set_cons_zero, List.set_cons_succ]
          rfl
        refine pure_ (i := 9) (N := some 53) (v := ?_) (a' := ?_) #[true, true, true, true, true, true, true, true, true, true, false, false, false, false, false, false, false, false] rfl rfl (any_of HT_.out (by kernel_rfl)) (fun _ _ _ h => h) (Or.inl ⟨by rfl, ?_⟩) ?_ ?_
        rotate_left
        · intro w'
          go_simp
          with_reducible rfl
        rotate_left
        · simp only [Act.put, List.setIfInBounds_toArray, List.set_cons_zero, List.set_cons_succ]
          rfl
        refine pure_ (i := 10) (N := some 63) (v := ?_) (a' := ?_) #[true, true, true, true, true, true, true, true, true, true, true, false, false, false, false, false, false, false] rfl rfl (any_of HT_.out (by kernel_rfl)) (fun _ _ _ h => h) (Or.inl ⟨by rfl, ?_⟩) ?_ ?_
        rotate_left
        · intro w'
          go_simp
          with_reducible rfl
        rotate_left
        · simp only [Act.put, List.setIfInBounds_toArray, List.set_cons_zero, List.set_cons_succ]
          rfl
        refine pure_ (i := 11) (N := some 64) (v := ?_) (a' := ?_) #[true, true, true, true, true, true, true, true, true, true, true, true, false, false, false, false, false, false] rfl rfl (any_of HT_.out (by kernel_rfl)) (fun _ _ _ h => h) (Or.inl ⟨by rfl, ?_⟩) ?_ ?_
        rotate_left
        · intro w'
          go_simp
          with_reducible rfl
        rotate_left
        · simp only [Act.put, List.setIfInBounds_toArray, List.set_cons_zero, List.set_cons_succ]
          rfl
        refine pure_ (i := 12) (N := some 65) (v := ?_) (a' := ?_) #[true, true, true, true, true, true, true, true, true, true, true, true, true, false, false, false, false, false] rfl rfl (any_of HT_.out (by kernel_rfl)) (fun _ _ _ h => h) (Or.inl ⟨by rfl, ?_⟩) ?_ ?_
        rotate_left
        · intro w'
          go_simp
          with_reducible rfl
        rotate_left
        · simp only [Act.put, List.setIfInBounds_toArray, List.set_cons_zero, List.set_cons_succ]
          rfl
        refine pure_ (i := 13) (N := some 66) (v := ?_) (a' := ?_) #[true, true, true, true, true, true, true, true, true, true, true, true, true, true, false, false, false, false] rfl rfl (any_of HT_.out (by kernel_rfl)) (fun _ _ _ h => h) (Or.inl ⟨by rfl, ?_⟩) ?_ ?_
        rotate_left
        · intro w'
          go_simp
          with_reducible rfl
        rotate_left
        · simp only [Act.put, List.setIfInBounds_toArray, List.set_cons_zero, List.set_cons_succ]
          rfl
        refine pure_ (i := 14) (N := some 67) (v := ?_) (a' := ?_) #[true, true, true, true, true, true, true, true, true, true, true, true, true, true, true, false, false, false] rfl rfl (any_of HT_.out (by kernel_rfl)) (fun _ _ _ h => h) (Or.inl ⟨by rfl, ?_⟩) ?_ ?_
        rotate_left
        · intro w'
          go_simp
          with_reducible rfl
        rotate_left
        · simp only [Act.put, List.setIfInBounds_toArray, List.set_cons_zero, List.set_cons_succ]
          rfl
        have d0 : w2.cell? ⟨b, 5, none⟩ = some r.ptr := H2.out.2.2.2.1.cell 5
        have d1 : w2.frozen? ⟨b, 5, none⟩ = false := H2.out.2.2.2.1.free 5
        have e0 : w2.cell? ⟨w.heap.size + 1 + 1, 0, none⟩ = some (.int .i64 0) := H2.out.2.2.2.2.2.1.cell 0
        have e1 : w2.cell? ⟨w.heap.size + 1 + 1, 1, none⟩ = some (.int .i64 0) := H2.out.2.2.2.2.2.1.cell 1
        have e2 : w2.cell? ⟨w.heap.size + 1 + 1, 2, none⟩ = some (.int .i64 0) := H2.out.2.2.2.2.2.1.cell 2
        have f0 : w2.frozen? ⟨w.heap.size + 1 + 1, 0, none⟩ = false := H2.out.2.2.2.2.2.1.free 0
        have f1 : w2.frozen? ⟨w.heap.size + 1 + 1, 1, none⟩ = false := H2.out.2.2.2.2.2.1.free 1
        have f2 : w2.frozen? ⟨w.heap.size + 1 + 1, 2, none⟩ = false := H2.out.2.2.2.2.2.1.free 2
        have hne : w.heap.size + 1 + 1 ≠ b := fun e => HP.out.2.2.1 e.symm
        have hne' : b ≠ w.heap.size + 1 + 1 := HP.out.2.2.1
        refine last_ (i := 15) (N := none) #[true, true, true, true, true, true, true, true, true, true, true, true, true, true, true, true, false, false] rfl rfl (one_of HT_.out (by kernel_rfl)) (by decide) (fun K_ hK => ?_)
        refine skip_ (w1 := ?_) (by rfl) rfl ?_ ?_
        rotate_left
        · go_simp
          rfl
        refine hK.out _ _ ?_
        clear hK K_
        refine last_ (i := 16) (N := none) #[true, true, true, true, true, true, true, true, true, true, true, true, true, true, true, true, true, false] rfl rfl (one_of HT_.out (by kernel_rfl)) (by decide) (fun K_ hK => ?_)
        refine skip_ (w1 := ?_) (by rfl) rfl ?_ ?_
        rotate_left
        · go_simp
          rfl
        refine hK.out _ _ ?_
        clear hK K_
        refine pure_ (i := 17) (N := some 12) (v := ?_) (a' := ?_) #[true, true, true, true, true, true, true, true, true, true, true, true, true, true, true, true, true, true] rfl rfl (any_of HT_.out (by kernel_rfl)) (fun _ _ _ h => h) (Or.inl ⟨by rfl, ?_⟩) ?_ ?_
        rotate_left
        · intro w'
          go_simp
          with_reducible rfl
        rotate_left
        · simp only [Act.put, List.setIfInBounds_toArray, List.set_cons_zero, List.set_cons_succ]
          rfl
        refine done_ (done_of HT_.out (by kernel_rfl)) ?_
        clear HT_ HW_
        clear d0 d1 e0 e1 e2 f0 f1 f2 hHeld
        have H11 : Hid (Blk ((((w2.setCell ⟨b, 5, none⟩ (.pointer u)).setCell ⟨w.heap.size + 1 + 1, 0, none⟩ (.int .i64 kv.lo)).setCell ⟨w.heap.size + 1 + 1, 1, none⟩ (.int .i64 kv.hi)).setCell ⟨w.heap.size + 1 + 1, 2, none⟩ (.int .i64 kv.v)) (w.heap.size + 1 + 1) (kvc kv) 74) := blk_box3 (w := w2.setCell ⟨b, 5, none⟩ (.pointer u)) (H2.out.2.2.2.2.2.1.other _ _ hne)
        have H9 : Hid (Blk ((((w2.setCell ⟨b, 5, none⟩ (.pointer u)).setCell ⟨w.heap.size + 1 + 1, 0, none⟩ (.int .i64 kv.lo)).setCell ⟨w.heap.size + 1 + 1, 1, none⟩ (.int .i64 kv.hi)).setCell ⟨w.heap.size + 1 + 1, 2, none⟩ (.int .i64 kv.v)) (w.heap.size + 1) (kvc ⟨0, 0, 0⟩) 74) := (H2.out.2.2.2.2.1.other ⟨b, 5, none⟩ _ (fun e => HP.out.2.2.2 e.symm)).fr (fr_box3 (w := w2.setCell ⟨b, 5, none⟩ (.pointer u)) (p := w.heap.size + 1 + 1) (kv := kv)) (by omega)
        have HI : Hid ((N.node b s h m l r').In ((((w2.setCell ⟨b, 5, none⟩ (.pointer u)).setCell ⟨w.heap.size + 1 + 1, 0, none⟩ (.int .i64 kv.lo)).setCell ⟨w.heap.size + 1 + 1, 1, none⟩ (.int .i64 kv.hi)).setCell ⟨w.heap.size + 1 + 1, 2, none⟩ (.int .i64 kv.v)) ∧ Fr (· = w.heap.size + 1 + 1) (w2.setCell ⟨b, 5, none⟩ (.pointer u)) ((((w2.setCell ⟨b, 5, none⟩ (.pointer u)).setCell ⟨w.heap.size + 1 + 1, 0, none⟩ (.int .i64 kv.lo)).setCell ⟨w.heap.size + 1 + 1, 1, none⟩ (.int .i64 kv.hi)).setCell ⟨w.heap.size + 1 + 1, 2, none⟩ (.int .i64 kv.v))) := ⟨N.In.fr (fr_box3 (w := w2.setCell ⟨b, 5, none⟩ (.pointer u)) (p := w.heap.size + 1 + 1) (kv := kv)) H2.out.2.1 (fun y hy e => HP.out.2.1 (e ▸ hy)), fr_box3 (w := w2.setCell ⟨b, 5, none⟩ (.pointer u)) (p := w.heap.size + 1 + 1) (kv := kv)⟩
        clear hne hne'
        go_wp2_with fail
        generalize (((w2.setCell ⟨b, 5, none⟩ (.pointer u)).setCell ⟨w.heap.size + 1 + 1, 0, none⟩ (.int .i64 kv.lo)).setCell ⟨w.heap.size + 1 + 1, 1, none⟩ (.int .i64 kv.hi)).setCell ⟨w.heap.size + 1 + 1, 2, none⟩ (.int .i64 kv.v) = w3 at H11 H9 HI ⊢
        have e0 : w3.cell? ⟨w.heap.size + 1 + 1, 0, none⟩ = some (.int .i64 kv.lo) := H11.out.cell 0
        have e1 : w3.cell? ⟨w.heap.size + 1 + 1, 1, none⟩ = some (.int .i64 kv.hi) := H11.out.cell 1
        have e2 : w3.cell? ⟨w.heap.size + 1 + 1, 2, none⟩ = some (.int .i64 kv.v) := H11.out.cell 2
        refine start_ (n := 7) (S := fun w' => w'.cell? ⟨w.heap.size + 1 + 1, 0, none⟩ = some (.int .i64 kv.lo) ∧ w'.cell? ⟨w.heap.size + 1 + 1, 1, none⟩ = some (.int .i64 kv.hi) ∧ w'.cell? ⟨w.heap.size + 1 + 1, 2, none⟩ = some (.int .i64 kv.v)) (ds := [5]) #[false, false, false, false, false, false, false] (by kernel_rfl) rfl rfl ⟨e0, e1, e2⟩ (fun hHeld => ?_)
        refine with_tabW ins14.tab ins14.bits (fun HT_ HW_ => ?_)
        clear e0 e1 e2
        refine pure_ (i := 0) (N := some 83) (v := ?_) (a' := ?_) #[true, false, false, false, false, false, false] rfl rfl (any_of HT_.out (by kernel_rfl)) (fun _ _ _ h => h) (Or.inl ⟨by rfl, ?_⟩) ?_ ?_
        rotate_left
        · intro w'
          go_simp
          with_reducible rfl
        rotate_left
        · simp only [Act.put, List.setIfInBounds_toArray, List.set_cons_zero, List.set_cons_succ]
          rfl
        refine take_ (i := 2) (N := some 85) (v := ?_) (a' := ?_) #[true, false, true, false, false, false, false] rfl rfl (take_ofW HT_.out HW_.out (by kernel_rfl)) (fun _ _ _ h => h) (Or.inl ⟨by rfl, ?_⟩) hHeld ?_ ?_
        rotate_left
        · intro w' s0
          obtain ⟨s1, s2, s3⟩ := s0
          go_simp
          with_reducible rfl
        rotate_left
        · simp only [Act.put, List.setIfInBounds_toArray, List.set_cons_zero, List.set_cons_succ]
          rfl
        refine pure_ (i := 3) (N := some 86) (v := ?_) (a' := ?_) #[true, false, true, true, false, false, false] rfl rfl (any_of HT_.out (by kernel_rfl)) (fun _ _ _ h => h) (Or.inl ⟨by rfl, ?_⟩) ?_ ?_
        rotate_left
        · intro w'
          go_simp
          with_reducible rfl
        rotate_left
        · simp only [Act.put, List.setIfInBounds_toArray, List.set_cons_zero, List.set_cons_succ]
          rfl
        refine one_ (i := 1) (N := some 84) #[true, true, true, true, false, false, false] rfl rfl (one_of HT_.out (by kernel_rfl)) (by decide) (fun K_ hK => ?_)
        refine call_ (N := some 84) 62 #[.pointer (some ⟨b, 0, none⟩)] (by rfl) rfl (by go_simp) ?_
        have HCall_ := reb_any (N.node b s h m l r') w3.drew (N.In.drew HI.out.1) H2.out.2.2.1 (fun b' s' h' m' l2 r2 e => by
            have hr1 : r'.raw = (T.ins x ov r.raw).1 := by rw [H2.out.2.2.2.2.2.2]
            injection e with e1 e2 e3 e4 e5 e6
            subst e5 e6
            exact ⟨⟨HG.out.lf.good.right, by have := HT.out; omega⟩, ⟨by rw [hr1]; exact (T.good_ins x ov HG.out.rt.good).1.right, by rw [hr1]; have := (T.good_ins x ov HG.out.rt.good).2; have := HT.out; omega⟩⟩)
        refine HCall_.mono ?_
        clear HCall_
        rintro e w4 ⟨t', rfl, i1, i2, i3, i4⟩
        have H4 : Hid (Blk w4 (w.heap.size + 1 + 1) (kvc kv) 74 ∧ Blk w4 (w.heap.size + 1) (kvc ⟨0, 0, 0⟩) 74 ∧ t'.In w4 ∧ t'.raw = T.reb (N.node b s h m l r').raw ∧ t'.ids.Perm (N.node b s h m l r').ids ∧ Fr (· ∈ (N.node b s h m l r').ids) w3 w4) :=
          ⟨Blk.fr (w := w3.drew) H11.out i4 HP.out.2.1, Blk.fr (w := w3.drew) H9.out i4 HP.out.1, i1, i2, i3, ⟨i4.os, i4.tape, i4.output, i4.size, i4.block⟩⟩
        clear i1 i2 i3 i4
        obtain ⟨u4, hu4⟩ := t'.ptr_some
        have HU4 : Hid (t'.ptr = .pointer u4) := hu4
        rw [hu4]
        clear hu4
        refine ⟨_, rfl, ?_⟩
        refine hK.out _ _ ⟨H4.out.1.cell 0, H4.out.1.cell 1, H4.out.1.cell 2⟩ (fun hHeld => ?_)
        clear hK K_
        refine norm_ (a' := ?_) ?_ ?_
        rotate_left
        · show Act.put _ (some 84) _ = _
          simp only [Act.put, List.setIfInBounds_toArray, List.set_cons_zero, List.set_cons_succ]
          rfl
        refine pure_ (i := 4) (N := some 8) (v := ?_) (a' := ?_) #[true, true, true, true, true, false, false] rfl rfl (any_of HT_.out (by kernel_rfl)) (fun _ _ _ h => h) (Or.inl ⟨by rfl, ?_⟩) ?_ ?_
        rotate_left
        · intro w'
          go_simp
          with_reducible rfl
        rotate_left
        · simp only [Act.put, List.setIfInBounds_toArray, List.set_cons_zero, List.set_cons_succ]
          rfl
        clear hHeld
        have e0 : w4.cell? ⟨w.heap.size + 1, 0, none⟩ = some (.int .i64 0) := H4.out.2.1.cell 0
        have e1 : w4.cell? ⟨w.heap.size + 1, 1, none⟩ = some (.int .i64 0) := H4.out.2.1.cell 1
        have e2 : w4.cell? ⟨w.heap.size + 1, 2, none⟩ = some (.int .i64 0) := H4.out.2.1.cell 2
        have f0 : w4.frozen? ⟨w.heap.size + 1, 0, none⟩ = false := H4.out.2.1.free 0
        have f1 : w4.frozen? ⟨w.heap.size + 1, 1, none⟩ = false := H4.out.2.1.free 1
        have f2 : w4.frozen? ⟨w.heap.size + 1, 2, none⟩ = false := H4.out.2.1.free 2
        refine last_ (i := 5) (N := none) #[true, true, true, true, true, true, false] rfl rfl (one_of HT_.out (by kernel_rfl)) (by decide) (fun K_ hK => ?_)
        refine skip_ (w1 := ?_) (by rfl) rfl ?_ ?_
        rotate_left
        · go_simp
          rfl
        refine hK.out _ _ ?_
        clear hK K_
        clear e0 e1 e2 f0 f1 f2
        refine pure_ (i := 6) (N := some 10) (v := ?_) (a' := ?_) #[true, true, true, true, true, true, true] rfl rfl (any_of HT_.out (by kernel_rfl)) (fun _ _ _ h => h) (Or.inl ⟨by rfl, ?_⟩) ?_ ?_
        rotate_left
        · intro w'
          go_simp
          with_reducible rfl
        rotate_left
        · simp only [Act.put, List.setIfInBounds_toArray, List.set_cons_zero, List.set_cons_succ]
          rfl
        refine done_ (done_of HT_.out (by kernel_rfl)) ?_
        clear HT_ HW_
        have z0 : (((w4.setCell ⟨w.heap.size + 1, 0, none⟩ (.int .i64 kv.lo)).setCell ⟨w.heap.size + 1, 1, none⟩ (.int .i64 kv.hi)).setCell ⟨w.heap.size + 1, 2, none⟩ (.int .i64 kv.v)).cell? ⟨w.heap.size + 1, 0, none⟩ = some (.int .i64 kv.lo) := (blk_box3 (kv := kv) H4.out.2.1).cell 0
        have z1 : (((w4.setCell ⟨w.heap.size + 1, 0, none⟩ (.int .i64 kv.lo)).setCell ⟨w.heap.size + 1, 1, none⟩ (.int .i64 kv.hi)).setCell ⟨w.heap.size + 1, 2, none⟩ (.int .i64 kv.v)).cell? ⟨w.heap.size + 1, 1, none⟩ = some (.int .i64 kv.hi) := (blk_box3 (kv := kv) H4.out.2.1).cell 1
        have z2 : (((w4.setCell ⟨w.heap.size + 1, 0, none⟩ (.int .i64 kv.lo)).setCell ⟨w.heap.size + 1, 1, none⟩ (.int .i64 kv.hi)).setCell ⟨w.heap.size + 1, 2, none⟩ (.int .i64 kv.v)).cell? ⟨w.heap.size + 1, 2, none⟩ = some (.int .i64 kv.v) := (blk_box3 (kv := kv) H4.out.2.1).cell 2
        go_wp2_with fail
        refine bodyPost_ret (v := .tuple #[.pointer u4, .agg #[.int .i64 kv.lo, .int .i64 kv.hi, .int .i64 kv.v], .bool ok]) (by simp [results, Try.results50, go_sem, z0, z1, z2]) rfl ?_
        refine ⟨t', kv, ok, by rw [HU4.out], by rw [HR.out, H2.out.2.2.2.2.2.2, H4.out.2.2.2.1]; rfl, ?_⟩
        have h9 : w.heap.size + 1 ∉ t'.ids := fun hx => HP.out.1 (H4.out.2.2.2.2.1.mem_iff.1 hx)
        have hf : Fr (fun n => n ∈ (N.node b s h m l r').ids ∨ w.heap.size ≤ n) (w2.setCell ⟨b, 5, none⟩ r'.ptr) (box3 w4 (w.heap.size + 1) kv) := by
          rw [HU.out]
          exact ((HI.out.2.into (fun n e => .inr (by omega))).then (H4.out.2.2.2.2.2.into (fun n e => .inl e))).then (fr_box3.into (fun n e => .inr (by omega)))
        exact put_right HG.out.mem HG.out.nodup H2.out.1 ⟨N.In.fr fr_box3 H4.out.2.2.1 (fun y hy e => h9 (e ▸ hy)), H4.out.2.2.2.2.1, hf⟩
      · have HRS : Hid (T.ins x ov (N.node b s h m l r).raw = if ov = true then (T.reb (.node x h m l.raw r.raw), s, true) else ((N.node b s h m l r).raw, s, true)) := (if_neg h1).trans (if_neg h2)
        cases ov with
        | false =>
          go_enter Try.func50, Try.ntmps50
          go_wp2_with fail
          have hbel := HB0.out.bel
          have HB : Hid (Boxes x w (((w.alloc (.cells #[.int .i64 x.lo, .int .i64 x.hi] 100)).alloc (.cells #[.int .i64 0, .int .i64 0, .int .i64 0] 74)).alloc (.cells #[.int .i64 0, .int .i64 0, .int .i64 0] 74))) := HB0.out
          clear hbel
          generalize ((w.alloc (.cells #[.int .i64 x.lo, .int .i64 x.hi] 100)).alloc (.cells #[.int .i64 0, .int .i64 0, .int .i64 0] 74)).alloc (.cells #[.int .i64 0, .int .i64 0, .int .i64 0] 74) = W at HB ⊢
          clear HB0
          have k0 : W.cell? ⟨w.heap.size, 0, none⟩ = some (.int .i64 x.lo) := HB.out.key.cell 0
          have k1 : W.cell? ⟨w.heap.size, 1, none⟩ = some (.int .i64 x.hi) := HB.out.key.cell 1
          have c0 : W.cell? ⟨b, 0, none⟩ = some (.int .i64 s.lo) := (HG.out.mem.1.fr (Fr.new (Z := fun _ => False) HB.out.bel) (fun h => h)).cell 0
          refine still_drew (by kernel_rfl) (by kernel_rfl) ?_
          repeat still_step
          refine wpStill_nil ?_
          go_wp2_with fail
          refine still_drew (by kernel_rfl) (by kernel_rfl) ?_
          repeat still_step
          refine wpStill_nil ?_
          go_wp2_with fail
          have HN : Hid (w.heap.size + 1 ∉ (N.node b x h m l r).ids ∧ w.heap.size + 1 + 1 ∉ (N.node b x h m l r).ids ∧ b ≠ w.heap.size + 1 + 1 ∧ b ≠ w.heap.size + 1 ∧ b ≠ w.heap.size) := by
            have hlt := N.In.lt HG.out.mem
            have hb0 := hlt b (by simp [N.ids])
            have ho : ∀ p, w.heap.size ≤ p → p ∉ (N.node b x h m l r).ids := fun p hp hx => by have := hlt p hx; omega
            exact ⟨ho _ (by omega), ho _ (by omega), by omega, by omega, by omega⟩
          have HGW : Hid (Good base W.drew.drew (N.node b s h m l r)) := HG.out.to HB.out.bel.drew.drew
          have HR : Hid (T.ins x false (N.node b s h m l r).raw = ((N.node b s h m l r).raw, s, true)) := HRS.out.trans (if_neg (by simp))
          clear h1 h2 c0 k0 k1
          go_wp2_with fail
          refine (newKV_any b s h m l r _ HGW.out.mem.1).mono ?_
          rintro e w2 ⟨rfl, hb⟩
          have H2 : Hid (Good base w2 (N.node b s h m l r) ∧ Blk w2 (w.heap.size + 1) (kvc ⟨0, 0, 0⟩) 74 ∧ Below w.heap.size w w2) :=
            ⟨HGW.out.to hb, Blk.fr (w := W.drew.drew) HB.out.p9 (Fr.new (Z := fun _ => False) hb) (fun h => h), below_at (b := W.drew.drew) HB.out.bel.drew.drew hb HB.out.bel.size⟩
          clear hb
          have e0 : w2.cell? ⟨w.heap.size + 1, 0, none⟩ = some (.int .i64 0) := H2.out.2.1.cell 0
          have e1 : w2.cell? ⟨w.heap.size + 1, 1, none⟩ = some (.int .i64 0) := H2.out.2.1.cell 1
          have e2 : w2.cell? ⟨w.heap.size + 1, 2, none⟩ = some (.int .i64 0) := H2.out.2.1.cell 2
          have f0 : w2.frozen? ⟨w.heap.size + 1, 0, none⟩ = false := H2.out.2.1.free 0
          have f1 : w2.frozen? ⟨w.heap.size + 1, 1, none⟩ = false := H2.out.2.1.free 1
          have f2 : w2.frozen? ⟨w.heap.size + 1, 2, none⟩ = false := H2.out.2.1.free 2
          have z0 : (((w2.setCell ⟨w.heap.size + 1, 0, none⟩ (.int .i64 s.lo)).setCell ⟨w.heap.size + 1, 1, none⟩ (.int .i64 s.hi)).setCell ⟨w.heap.size + 1, 2, none⟩ (.int .i64 s.v)).cell? ⟨w.heap.size + 1, 0, none⟩ = some (.int .i64 s.lo) := (blk_box3 (kv := s) H2.out.2.1).cell 0
          have z1 : (((w2.setCell ⟨w.heap.size + 1, 0, none⟩ (.int .i64 s.lo)).setCell ⟨w.heap.size + 1, 1, none⟩ (.int .i64 s.hi)).setCell ⟨w.heap.size + 1, 2, none⟩ (.int .i64 s.v)).cell? ⟨w.heap.size + 1, 1, none⟩ = some (.int .i64 s.hi) := (blk_box3 (kv := s) H2.out.2.1).cell 1
          have z2 : (((w2.setCell ⟨w.heap.size + 1, 0, none⟩ (.int .i64 s.lo)).setCell ⟨w.heap.size + 1, 1, none⟩ (.int .i64 s.hi)).setCell ⟨w.heap.size + 1, 2, none⟩ (.int .i64 s.v)).cell? ⟨w.heap.size + 1, 2, none⟩ = some (.int .i64 s.v) := (blk_box3 (kv := s) H2.out.2.1).cell 2
          go_wp2_with fail
          refine bodyPost_ret (v := .tuple #[.pointer (some ⟨b, 0, none⟩), .agg #[.int .i64 s.lo, .int .i64 s.hi, .int .i64 s.v], .bool true]) (by simp [results, Try.results50, go_sem, z0, z1, z2]) rfl ?_
          refine ⟨N.node b s h m l r, s, true, rfl, HR.out, N.In.fr (fr_box3 (kv := s)) H2.out.1.mem (fun y hy e => HN.out.1 (e ▸ hy)), HG.out.nodup, fun y hy => .inl hy, ?_⟩
          exact (Fr.new H2.out.2.2).trans (fr_box3 (kv := s)) (fun n hn e => by omega)
        | true =>
          go_enter Try.func50, Try.ntmps50
          go_wp2_with fail
          have hbel := HB0.out.bel
          have HB : Hid (Boxes x w (((w.alloc (.cells #[.int .i64 x.lo, .int .i64 x.hi] 100)).alloc (.cells #[.int .i64 0, .int .i64 0, .int .i64 0] 74)).alloc (.cells #[.int .i64 0, .int .i64 0, .int .i64 0] 74))) := HB0.out
          clear hbel
          generalize ((w.alloc (.cells #[.int .i64 x.lo, .int .i64 x.hi] 100)).alloc (.cells #[.int .i64 0, .int .i64 0, .int .i64 0] 74)).alloc (.cells #[.int .i64 0, .int .i64 0, .int .i64 0] 74) = W at HB ⊢
          clear HB0
          have k0 : W.cell? ⟨w.heap.size, 0, none⟩ = some (.int .i64 x.lo) := HB.out.key.cell 0
          have k1 : W.cell? ⟨w.heap.size, 1, none⟩ = some (.int .i64 x.hi) := HB.out.key.cell 1
          have c0 : W.cell? ⟨b, 0, none⟩ = some (.int .i64 s.lo) := (HG.out.mem.1.fr (Fr.new (Z := fun _ => False) HB.out.bel) (fun h => h)).cell 0
          refine still_drew (by kernel_rfl) (by kernel_rfl) ?_
          repeat still_step
          refine wpStill_nil ?_
          go_wp2_with fail
          refine still_drew (by kernel_rfl) (by kernel_rfl) ?_
          repeat still_step
          refine wpStill_nil ?_
          go_wp2_with fail
          have HN : Hid (w.heap.size + 1 ∉ (N.node b x h m l r).ids ∧ w.heap.size + 1 + 1 ∉ (N.node b x h m l r).ids ∧ b ≠ w.heap.size + 1 + 1 ∧ b ≠ w.heap.size + 1 ∧ b ≠ w.heap.size) := by
            have hlt := N.In.lt HG.out.mem
            have hb0 := hlt b (by simp [N.ids])
            have ho : ∀ p, w.heap.size ≤ p → p ∉ (N.node b x h m l r).ids := fun p hp hx => by have := hlt p hx; omega
            exact ⟨ho _ (by omega), ho _ (by omega), by omega, by omega, by omega⟩
          have HGW : Hid (Good base W.drew.drew (N.node b s h m l r)) := HG.out.to HB.out.bel.drew.drew
          have HR : Hid (T.ins x true (N.node b s h m l r).raw = (T.reb (.node x h m l.raw r.raw), s, true)) := HRS.out.trans (if_pos trivial)
          clear h1 h2 c0 k0 k1
          go_wp2_with fail
          refine (newKV_any b s h m l r _ HGW.out.mem.1).mono ?_
          rintro e w2 ⟨rfl, hb⟩
          have hf0 := Fr.new (Z := fun _ => False) hb
          have H2 : Hid (Good base w2 (N.node b s h m l r) ∧ Blk w2 (w.heap.size + 1) (kvc ⟨0, 0, 0⟩) 74 ∧ Blk w2 (w.heap.size + 1 + 1) (kvc ⟨0, 0, 0⟩) 74 ∧ Blk w2 w.heap.size #[.int .i64 x.lo, .int .i64 x.hi] 100 ∧ Below w.heap.size w w2) :=
            ⟨HGW.out.to hb, Blk.fr (w := W.drew.drew) HB.out.p9 hf0 (fun h => h), Blk.fr (w := W.drew.drew) HB.out.p11 hf0 (fun h => h), Blk.fr (w := W.drew.drew) HB.out.key hf0 (fun h => h), below_at (b := W.drew.drew) HB.out.bel.drew.drew hb HB.out.bel.size⟩
          clear hb hf0
          have e0 : w2.cell? ⟨w.heap.size + 1 + 1, 0, none⟩ = some (.int .i64 0) := H2.out.2.2.1.cell 0
          have e1 : w2.cell? ⟨w.heap.size + 1 + 1, 1, none⟩ = some (.int .i64 0) := H2.out.2.2.1.cell 1
          have e2 : w2.cell? ⟨w.heap.size + 1 + 1, 2, none⟩ = some (.int .i64 0) := H2.out.2.2.1.cell 2
          have f0 : w2.frozen? ⟨w.heap.size + 1 + 1, 0, none⟩ = false := H2.out.2.2.1.free 0
          have f1 : w2.frozen? ⟨w.heap.size + 1 + 1, 1, none⟩ = false := H2.out.2.2.1.free 1
          have f2 : w2.frozen? ⟨w.heap.size + 1 + 1, 2, none⟩ = false := H2.out.2.2.1.free 2
          go_upto_region 12 with fail
          clear e0 e1 e2 f0 f1 f2
          have H3 : Hid (Blk (box3 w2 (w.heap.size + 1 + 1) s) b (cs s h m l r) 110 ∧ Blk (box3 w2 (w.heap.size + 1 + 1) s) (w.heap.size + 1 + 1) (kvc s) 74 ∧ Blk (box3 w2 (w.heap.size + 1 + 1) s) (w.heap.size + 1) (kvc ⟨0, 0, 0⟩) 74 ∧ Blk (box3 w2 (w.heap.size + 1 + 1) s) w.heap.size #[.int .i64 x.lo, .int .i64 x.hi] 100 ∧ l.In (box3 w2 (w.heap.size + 1 + 1) s) ∧ r.In (box3 w2 (w.heap.size + 1 + 1) s) ∧ Fr (fun n => w.heap.size ≤ n) w (box3 w2 (w.heap.size + 1 + 1) s)) := by
            have ho := HN.out
            have hl : ∀ y ∈ (N.node b x h m l r).ids, y ≠ w.heap.size + 1 + 1 := fun y hy e => ho.2.1 (e ▸ hy)
            exact ⟨H2.out.1.mem.1.fr fr_box3 ho.2.2.1, blk_box3 H2.out.2.2.1, H2.out.2.1.fr fr_box3 (by omega), H2.out.2.2.2.1.fr fr_box3 (by omega), N.In.fr fr_box3 H2.out.1.mem.2.1 (fun y hy => hl y (by simp [N.ids, hy])), N.In.fr fr_box3 H2.out.1.mem.2.2 (fun y hy => hl y (by simp [N.ids, hy])), (Fr.new H2.out.2.2.2.2).then (fr_box3.into (fun n e => by omega))⟩
          change Code.wp _ _ _ _ (box3 w2 (w.heap.size + 1 + 1) s)
          generalize box3 w2 (w.heap.size + 1 + 1) s = w4 at H3 ⊢
          have k0 : w4.cell? ⟨w.heap.size, 0, none⟩ = some (.int .i64 x.lo) := H3.out.2.2.2.1.cell 0
          have k1 : w4.cell? ⟨w.heap.size, 1, none⟩ = some (.int .i64 x.hi) := H3.out.2.2.2.1.cell 1
          have d0 : w4.cell? ⟨b, 0, none⟩ = some (.int .i64 s.lo) := H3.out.1.cell 0
          have d1 : w4.cell? ⟨b, 1, none⟩ = some (.int .i64 s.hi) := H3.out.1.cell 1
          have d2 : w4.cell? ⟨b, 2, none⟩ = some (.int .i64 s.v) := H3.out.1.cell 2
          have f0 : w4.frozen? ⟨b, 0, none⟩ = false := H3.out.1.free 0
          have f1 : w4.frozen? ⟨b, 1, none⟩ = false := H3.out.1.free 1
          have f2 : w4.frozen? ⟨b, 2, none⟩ = false := H3.out.1.free 2
          go_wp2_with fail
          clear k0 k1 d0 d1 d2 f0 f1 f2
          have hfb : Fr (· = b) w4 (((w4.setCell ⟨b, 0, none⟩ (.int .i64 x.lo)).setCell ⟨b, 1, none⟩ (.int .i64 x.hi)).setCell ⟨b, 2, none⟩ (.int .i64 x.v)) := (Fr.one.then Fr.one).then Fr.one
          have nd := nodup_node HG.out.nodup
          have HI : Hid ((N.node b x h m l r).In (((w4.setCell ⟨b, 0, none⟩ (.int .i64 x.lo)).setCell ⟨b, 1, none⟩ (.int .i64 x.hi)).setCell ⟨b, 2, none⟩ (.int .i64 x.v)) ∧ Fr (fun n => n ∈ (N.node b x h m l r).ids ∨ w.heap.size ≤ n) w (((w4.setCell ⟨b, 0, none⟩ (.int .i64 x.lo)).setCell ⟨b, 1, none⟩ (.int .i64 x.hi)).setCell ⟨b, 2, none⟩ (.int .i64 x.v))) :=
            ⟨⟨((H3.out.1.set 0 _).set 1 _).set 2 _, N.In.fr hfb H3.out.2.2.2.2.1 (fun y hy e => nd.1 (e ▸ hy)), N.In.fr hfb H3.out.2.2.2.2.2.1 (fun y hy e => nd.2.1 (e ▸ hy))⟩, (H3.out.2.2.2.2.2.2.into (fun n e => .inr e)).then (hfb.into (fun n e => by rw [e]; simp [N.ids]))⟩
          have H11 : Hid (Blk (((w4.setCell ⟨b, 0, none⟩ (.int .i64 x.lo)).setCell ⟨b, 1, none⟩ (.int .i64 x.hi)).setCell ⟨b, 2, none⟩ (.int .i64 x.v)) (w.heap.size + 1 + 1) (kvc s) 74) := H3.out.2.1.fr hfb (fun e => HN.out.2.2.1 e.symm)
          have H9 : Hid (Blk (((w4.setCell ⟨b, 0, none⟩ (.int .i64 x.lo)).setCell ⟨b, 1, none⟩ (.int .i64 x.hi)).setCell ⟨b, 2, none⟩ (.int .i64 x.v)) (w.heap.size + 1) (kvc ⟨0, 0, 0⟩) 74) := H3.out.2.2.1.fr hfb (fun e => HN.out.2.2.2.1 e.symm)
          clear hfb nd
          generalize ((w4.setCell ⟨b, 0, none⟩ (.int .i64 x.lo)).setCell ⟨b, 1, none⟩ (.int .i64 x.hi)).setCell ⟨b, 2, none⟩ (.int .i64 x.v) = w3 at HI H11 H9 ⊢
          have HP : Hid (w.heap.size + 1 ∉ (N.node b x h m l r).ids ∧ w.heap.size + 1 + 1 ∉ (N.node b x h m l r).ids ∧ b ≠ w.heap.size + 1 + 1 ∧ b ≠ w.heap.size + 1) := ⟨HN.out.1, HN.out.2.1, HN.out.2.2.1, HN.out.2.2.2.1⟩
          have e0 : w3.cell? ⟨w.heap.size + 1 + 1, 0, none⟩ = some (.int .i64 s.lo) := H11.out.cell 0
          have e1 : w3.cell? ⟨w.heap.size + 1 + 1, 1, none⟩ = some (.int .i64 s.hi) := H11.out.cell 1
          have e2 : w3.cell? ⟨w.heap.size + 1 + 1, 2, none⟩ = some (.int .i64 s.v) := H11.out.cell 2
          refine start_ (n := 7) (S := fun w' => w'.cell? ⟨w.heap.size + 1 + 1, 0, none⟩ = some (.int .i64 s.lo) ∧ w'.cell? ⟨w.heap.size + 1 + 1, 1, none⟩ = some (.int .i64 s.hi) ∧ w'.cell? ⟨w.heap.size + 1 + 1, 2, none⟩ = some (.int .i64 s.v)) (ds := [5]) #[false, false, false, false, false, false, false] (by kernel_rfl) rfl rfl ⟨e0, e1, e2⟩ (fun hHeld => ?_)
          refine with_tabW ins14.tab ins14.bits (fun HT_ HW_ => ?_)
          clear e0 e1 e2
          refine pure_ (i := 0) (N := some 83) (v := ?_) (a' := ?_) #[true, false, false, false, false, false, false] rfl rfl (any_of HT_.out (by kernel_rfl)) (fun _ _ _ h => h) (Or.inl ⟨by rfl, ?_⟩) ?_ ?_
          rotate_left
          · intro w'
            go_simp
            with_reducible rfl
          rotate_left
          · simp only [Act.put, List.setIfInBounds_toArray, List.set_cons_zero, List.set_cons_succ]
            rfl
          refine take_ (i := 2) (N := some 85) (v := ?_) (a' := ?_) #[true, false, true, false, false, false, false] rfl rfl (take_ofW HT_.out HW_.out (by kernel_rfl)) (fun _ _ _ h => h) (Or.inl ⟨by rfl, ?_⟩) hHeld ?_ ?_
          rotate_left
          · intro w' s0
            obtain ⟨s1, s2, s3⟩ := s0
            go_simp
            with_reducible rfl
          rotate_left
          · simp only [Act.put, List.setIfInBounds_toArray, List.set_cons_zero, List.set_cons_succ]
            rfl
          refine pure_ (i := 3) (N := some 86) (v := ?_) (a' := ?_) #[true, false, true, true, false, false, false] rfl rfl (any_of HT_.out (by kernel_rfl)) (fun _ _ _ h => h) (Or.inl ⟨by rfl, ?_⟩) ?_ ?_
          rotate_left
          · intro w'
            go_simp
            with_reducible rfl
          rotate_left
          · simp only [Act.put, List.setIfInBounds_toArray, List.set_cons_zero, List.set_cons_succ]
            rfl
          refine one_ (i := 1) (N := some 84) #[true, true, true, true, false, false, false] rfl rfl (one_of HT_.out (by kernel_rfl)) (by decide) (fun K_ hK => ?_)
          refine call_ (N := some 84) 62 #[.pointer (some ⟨b, 0, none⟩)] (by rfl) rfl (by go_simp) ?_
          have HCall_ := reb_any (N.node b x h m l r) w3.drew (N.In.drew HI.out.1) HG.out.nodup (fun b' s' h' m' l2 r2 e => by
              injection e with e1 e2 e3 e4 e5 e6
              subst e5 e6
              exact ⟨HG.out.lf.part (by have := HT.out; omega), HG.out.rt.part (by have := HT.out; omega)⟩)
          refine HCall_.mono ?_
          clear HCall_
          rintro e w4 ⟨t', rfl, i1, i2, i3, i4⟩
          have H4 : Hid (Blk w4 (w.heap.size + 1 + 1) (kvc s) 74 ∧ Blk w4 (w.heap.size + 1) (kvc ⟨0, 0, 0⟩) 74 ∧ t'.In w4 ∧ t'.raw = T.reb (N.node b x h m l r).raw ∧ t'.ids.Perm (N.node b x h m l r).ids ∧ Fr (· ∈ (N.node b x h m l r).ids) w3 w4) :=
            ⟨Blk.fr (w := w3.drew) H11.out i4 HP.out.2.1, Blk.fr (w := w3.drew) H9.out i4 HP.out.1, i1, i2, i3, ⟨i4.os, i4.tape, i4.output, i4.size, i4.block⟩⟩
          clear i1 i2 i3 i4
          obtain ⟨u4, hu4⟩ := t'.ptr_some
          have HU4 : Hid (t'.ptr = .pointer u4) := hu4
          rw [hu4]
          clear hu4
          refine ⟨_, rfl, ?_⟩
          refine hK.out _ _ ⟨H4.out.1.cell 0, H4.out.1.cell 1, H4.out.1.cell 2⟩ (fun hHeld => ?_)
          clear hK K_
          refine norm_ (a' := ?_) ?_ ?_
          rotate_left
          · show Act.put _ (some 84) _ = _
            simp only [Act.put, List.setIfInBounds_toArray, List.set_cons_zero, List.set_cons_succ]
            rfl
          refine pure_ (i := 4) (N := some 8) (v := ?_) (a' := ?_) #[true, true, true, true, true, false, false] rfl rfl (any_of HT_.out (by kernel_rfl)) (fun _ _ _ h => h) (Or.inl ⟨by rfl, ?_⟩) ?_ ?_
          rotate_left
          · intro w'
            go_simp
            with_reducible rfl
          rotate_left
          · simp only [Act.put, List.setIfInBounds_toArray, List.set_cons_zero, List.set_cons_succ]
            rfl
          clear hHeld
          have e0 : w4.cell? ⟨w.heap.size + 1, 0, none⟩ = some (.int .i64 0) := H4.out.2.1.cell 0
          have e1 : w4.cell? ⟨w.heap.size + 1, 1, none⟩ = some (.int .i64 0) := H4.out.2.1.cell 1
          have e2 : w4.cell? ⟨w.heap.size + 1, 2, none⟩ = some (.int .i64 0) := H4.out.2.1.cell 2
          have f0 : w4.frozen? ⟨w.heap.size + 1, 0, none⟩ = false := H4.out.2.1.free 0
          have f1 : w4.frozen? ⟨w.heap.size + 1, 1, none⟩ = false := H4.out.2.1.free 1
          have f2 : w4.frozen? ⟨w.heap.size + 1, 2, none⟩ = false := H4.out.2.1.free 2
          refine last_ (i := 5) (N := none) #[true, true, true, true, true, true, false] rfl rfl (one_of HT_.out (by kernel_rfl)) (by decide) (fun K_ hK => ?_)
          refine skip_ (w1 := ?_) (by rfl) rfl ?_ ?_
          rotate_left
          · go_simp
            rfl
          refine hK.out _ _ ?_
          clear hK K_
          clear e0 e1 e2 f0 f1 f2
          refine pure_ (i := 6) (N := some 10) (v := ?_) (a' := ?_) #[true, true, true, true, true, true, true] rfl rfl (any_of HT_.out (by kernel_rfl)) (fun _ _ _ h => h) (Or.inl ⟨by rfl, ?_⟩) ?_ ?_
          rotate_left
          · intro w'
            go_simp
            with_reducible rfl
          rotate_left
          · simp only [Act.put, List.setIfInBounds_toArray, List.set_cons_zero, List.set_cons_succ]
            rfl
          refine done_ (done_of HT_.out (by kernel_rfl)) ?_
          clear HT_ HW_
          have z0 : (((w4.setCell ⟨w.heap.size + 1, 0, none⟩ (.int .i64 s.lo)).setCell ⟨w.heap.size + 1, 1, none⟩ (.int .i64 s.hi)).setCell ⟨w.heap.size + 1, 2, none⟩ (.int .i64 s.v)).cell? ⟨w.heap.size + 1, 0, none⟩ = some (.int .i64 s.lo) := (blk_box3 (kv := s) H4.out.2.1).cell 0
          have z1 : (((w4.setCell ⟨w.heap.size + 1, 0, none⟩ (.int .i64 s.lo)).setCell ⟨w.heap.size + 1, 1, none⟩ (.int .i64 s.hi)).setCell ⟨w.heap.size + 1, 2, none⟩ (.int .i64 s.v)).cell? ⟨w.heap.size + 1, 1, none⟩ = some (.int .i64 s.hi) := (blk_box3 (kv := s) H4.out.2.1).cell 1
          have z2 : (((w4.setCell ⟨w.heap.size + 1, 0, none⟩ (.int .i64 s.lo)).setCell ⟨w.heap.size + 1, 1, none⟩ (.int .i64 s.hi)).setCell ⟨w.heap.size + 1, 2, none⟩ (.int .i64 s.v)).cell? ⟨w.heap.size + 1, 2, none⟩ = some (.int .i64 s.v) := (blk_box3 (kv := s) H4.out.2.1).cell 2
          go_wp2_with fail
          refine bodyPost_ret (v := .tuple #[.pointer u4, .agg #[.int .i64 s.lo, .int .i64 s.hi, .int .i64 s.v], .bool true]) (by simp [results, Try.results50, go_sem, z0, z1, z2]) rfl ?_
          refine ⟨t', s, true, by rw [HU4.out], by rw [HR.out, H4.out.2.2.2.1]; rfl, ?_⟩
          have h9 : w.heap.size + 1 ∉ t'.ids := fun hx => HP.out.1 (H4.out.2.2.2.2.1.mem_iff.1 hx)
          exact put_same HG.out.nodup ⟨N.In.fr fr_box3 H4.out.2.2.1 (fun y hy e => h9 (e ▸ hy)), H4.out.2.2.2.2.1, (HI.out.2.then (H4.out.2.2.2.2.2.into (fun n e => .inl e))).then (fr_box3.into (fun n e => .inr (by omega)))⟩
end Go.Proofs.Ytmnjkdbopafkfaa.Int
