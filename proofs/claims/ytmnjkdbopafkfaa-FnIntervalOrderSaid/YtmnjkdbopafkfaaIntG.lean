/- Interval trees in memory: more of the tree's own methods. -/
import Derived.Test.YtmnjkdbopafkfaaIntF
namespace Go.Proofs.Ytmnjkdbopafkfaa.Int
open Go Go.RowKit Go.Deep Go.Proofs.Ytmnjkdbopafkfaa.Hk Go.Proofs.Ytmnjkdbopafkfaa.IntPure Go.Proofs.Ytmnjkdbopafkfaa.IntPure.T Go.Proofs.YtmnjkdbopafkfaaW.PrintWords Go.Proofs.YtmnjkdbopafkfaaW.PrintLast Go.Proofs.YtmnjkdbopafkfaaW.PrintMore
def ovm1.T : Bool × List (List Nat × List Nat) := (true, [([], []), ([0], [0]), ([1], [1]), ([2], [2]), ([], []), ([], []), ([4, 5], [4, 5]), ([3, 6, 6], [3, 6]), ([7, 7, 0, 1, 2, 3, 4, 5, 6, 7], [7])])
def ovm1.B : List Nat := [0, 1, 3, 7, 0, 0, 48, 127, 255]
theorem ovm1.tab : rtab .any (opsOf Try.f38 1) = ovm1.T := by kernel_rfl
theorem ovm1.bits : waitsOk ovm1.T.2 ovm1.B = true := by kernel_rfl

set_option maxHeartbeats 4000000 in
set_option maxRecDepth 100000 in
theorem tRemove_any (base R : Nat) (t : N) (key : Int) (w : World) (hT : Tree base R t w) (ht : t.raw.tall ≤ 4294950000) :
    Calls Try.prog 36 #[.pointer (some ⟨R, 0, none⟩), .int .i64 key] w (Turned base R t (T.rem t.raw key) w) := by
  have HT := hid hT
  have HS := hid ht
  have HB0 : Hid (Below w.heap.size w (w.alloc (.cells #[.int .i64 0, .int .i64 0, .int .i64 0] 74)) ∧ Blk (w.alloc (.cells #[.int .i64 0, .int .i64 0, .int .i64 0] 74)) w.heap.size Z3 74) := ⟨(Below.refl _ _).alloc (Nat.le_refl _) _, Blk.new _ _ _⟩
  have c0 : (w.alloc (.cells #[.int .i64 0, .int .i64 0, .int .i64 0] 74)).cell? ⟨R, 0, none⟩ = some t.ptr := (HT.out.below HB0.out.1).root.cell 0
  clear hT ht
  go_enter Try.func36, Try.ntmps36
  go_wp2_with fail
  generalize w.alloc (.cells #[.int .i64 0, .int .i64 0, .int .i64 0] 74) = W0 at HB0 c0 ⊢
  refine (remove_any t key W0 (HT.out.good.to HB0.out.1) HS.out).mono ?_
  rintro e w2 ⟨t', kv, ok, rfl, hraw, hput⟩
  have HIN := hid HT.out.lt.2
  have HP : Hid (T.rem t.raw key = (t'.raw, kv, ok) ∧ Put t t' W0 w2) := ⟨hraw, hput⟩
  have HM : Hid (Put t t' w w2 ∧ Blk w2 w.heap.size Z3 74 ∧ w.heap.size ∉ t'.ids ∧ Blk w2 R #[t.ptr] 86) := by
    have hp := hput.since HB0.out.1
    exact ⟨hp, HB0.out.2.fr hput.fr (fun e => by have := HIN.out _ e; omega), new_out HIN.out hput (Nat.le_refl _) HB0.out.2.lt, HT.out.root.fr hp.fr HT.out.out⟩
  clear hraw hput c0
  obtain ⟨u, hu⟩ := t'.ptr_some
  have HU : Hid (t'.ptr = .pointer u) := hu
  rw [hu]
  clear hu
  have HN : Hid (R ≠ w2.heap.size ∧ R ≠ w.heap.size ∧ w.heap.size ≠ w2.heap.size) := by
    have h1 := HT.out.lt.1
    have h2 := HM.out.2.1.lt
    exact ⟨by omega, by omega, by omega⟩
  have HG : Hid (Blk (w2.alloc (.cells #[.int .i64 kv.lo, .int .i64 kv.hi, .int .i64 kv.v] 74)) w2.heap.size (kvc kv) 74 ∧ Fr (fun _ => False) w2 (w2.alloc (.cells #[.int .i64 kv.lo, .int .i64 kv.hi, .int .i64 kv.v] 74))) :=
    ⟨Blk.new _ _ _, Fr.new ((Below.refl _ _).alloc (Nat.le_refl _) _)⟩
  go_upto_region 2 with fail
  generalize w2.alloc (.cells #[.int .i64 kv.lo, .int .i64 kv.hi, .int .i64 kv.v] 74) = w5 at HG ⊢
  have H5 : Hid (Blk w5 w2.heap.size (kvc kv) 74 ∧ Blk w5 w.heap.size Z3 74 ∧ Blk w5 R #[t.ptr] 86 ∧ Put t t' w w5) :=
    ⟨HG.out.1, HM.out.2.1.fr HG.out.2 (fun h => h), HM.out.2.2.2.fr HG.out.2 (fun h => h), HM.out.1.upto HG.out.2 (fun _ h => h.elim)⟩
  have r0 : w5.cell? ⟨R, 0, none⟩ = some t.ptr := H5.out.2.2.1.cell 0
  have r1 : w5.frozen? ⟨R, 0, none⟩ = false := H5.out.2.2.1.free 0
  have d0 : w5.cell? ⟨w2.heap.size, 0, none⟩ = some (.int .i64 kv.lo) := H5.out.1.cell 0
  have e0 : w5.cell? ⟨w.heap.size, 0, none⟩ = some (.int .i64 0) := H5.out.2.1.cell 0
  have f0 : w5.frozen? ⟨w.heap.size, 0, none⟩ = false := H5.out.2.1.free 0
  have d1 : w5.cell? ⟨w2.heap.size, 1, none⟩ = some (.int .i64 kv.hi) := H5.out.1.cell 1
  have e1 : w5.cell? ⟨w.heap.size, 1, none⟩ = some (.int .i64 0) := H5.out.2.1.cell 1
  have f1 : w5.frozen? ⟨w.heap.size, 1, none⟩ = false := H5.out.2.1.free 1
  have d2 : w5.cell? ⟨w2.heap.size, 2, none⟩ = some (.int .i64 kv.v) := H5.out.1.cell 2
  have e2 : w5.cell? ⟨w.heap.size, 2, none⟩ = some (.int .i64 0) := H5.out.2.1.cell 2
  have f2 : w5.frozen? ⟨w.heap.size, 2, none⟩ = false := H5.out.2.1.free 2
  have n1 : R ≠ w2.heap.size := HN.out.1
  have n2 : R ≠ w.heap.size := HN.out.2.1
  have n3 : w.heap.size ≠ w2.heap.size := HN.out.2.2
  have n4 : w2.heap.size ≠ R := n1.symm
  have n5 : w.heap.size ≠ R := n2.symm
  have n6 : w2.heap.size ≠ w.heap.size := n3.symm
  go_wp2_with fail
  have HD : Hid (Blk (w5.setCell ⟨R, 0, none⟩ (.pointer u)) w.heap.size Z3 74) := H5.out.2.1.other _ _ n5
  clear r0 r1 d0 d1 d2 e0 e1 e2 f0 f1 f2
  have z0 : (box3 (w5.setCell ⟨R, 0, none⟩ (.pointer u)) w.heap.size kv).cell? ⟨w.heap.size, 0, none⟩ = some (.int .i64 kv.lo) := (blk_box3 (kv := kv) (kv' := ⟨0, 0, 0⟩) HD.out).cell 0
  have z1 : (box3 (w5.setCell ⟨R, 0, none⟩ (.pointer u)) w.heap.size kv).cell? ⟨w.heap.size, 1, none⟩ = some (.int .i64 kv.hi) := (blk_box3 (kv := kv) (kv' := ⟨0, 0, 0⟩) HD.out).cell 1
  have z2 : (box3 (w5.setCell ⟨R, 0, none⟩ (.pointer u)) w.heap.size kv).cell? ⟨w.heap.size, 2, none⟩ = some (.int .i64 kv.v) := (blk_box3 (kv := kv) (kv' := ⟨0, 0, 0⟩) HD.out).cell 2
  unfold box3 at z0 z1 z2
  refine bodyPost_ret (v := .tuple #[.agg #[.int .i64 kv.lo, .int .i64 kv.hi, .int .i64 kv.v], .bool ok]) (by simp [results, Try.results36, go_sem, z0, z1, z2]) rfl ?_
  have hraw := HP.out.1
  have hgood : T.Good t'.raw := by have h_ := (T.good_rem key HT.out.good.good).1; rw [hraw] at h_; exact h_
  have hq := Put.turned HT.out H5.out.2.2.2 hgood (w' := box3 (w5.setCell ⟨R, 0, none⟩ (.pointer u)) w.heap.size kv) (Z := (· = w.heap.size)) (by rw [HU.out]; exact fr_box3) (fun k e => by subst e; exact ⟨Nat.le_refl _, HM.out.2.2.1⟩)
  exact ⟨t', by rw [hraw], by rw [hraw], hq.1, hq.2.1, hq.2.2⟩

set_option maxHeartbeats 800000 in
set_option maxRecDepth 100000 in
theorem tSize_any (base R : Nat) (t : N) (w : World) (hT : Tree base R t w) (hs : t.raw.size ≤ 4611686018427387) :
    Calls Try.prog 42 #[.pointer (some ⟨R, 0, none⟩)] w fun e w' => e = .returned (.int .i64 t.raw.size) ∧ w = w' := by
  have HT := hid hT
  have HS := hid hs
  have c0 : w.cell? ⟨R, 0, none⟩ = some t.ptr := hT.root.cell 0
  clear hT hs
  go_enter Try.func42, Try.ntmps42
  go_wp2_with fail
  refine (size_any t w HT.out.good.mem HS.out).mono ?_
  rintro e w' ⟨rfl, rfl⟩
  go_wp2_with fail
  go_ret
  exact ⟨rfl, rfl⟩
set_option maxHeartbeats 800000 in
set_option maxRecDepth 100000 in
theorem tHeight_any (base R : Nat) (t : N) (w : World) (hT : Tree base R t w) :
    Calls Try.prog 43 #[.pointer (some ⟨R, 0, none⟩)] w fun e w' => e = .returned (.int .i64 t.raw.ht) ∧ w' = w := by
  have HT := hid hT
  have c0 : w.cell? ⟨R, 0, none⟩ = some t.ptr := hT.root.cell 0
  clear hT
  go_enter Try.func43, Try.ntmps43
  go_wp2_with fail
  refine (getHeight_any t w HT.out.good.mem).mono ?_
  rintro e w' ⟨rfl, rfl⟩
  go_wp2_with fail
  go_ret
  exact ⟨rfl, rfl⟩
set_option maxHeartbeats 800000 in
set_option maxRecDepth 100000 in
theorem tNew_any (w : World) : Calls Try.prog 25 #[] w fun e w' => ∃ R, e = .returned (.pointer (some ⟨R, 0, none⟩)) ∧ Tree w.heap.size R .nil w' ∧ Below w.heap.size w w' := by
  go_enter Try.func25, Try.ntmps25
  go_wp2_with fail
  go_ret
  exact ⟨w.heap.size, rfl, ⟨Blk.new _ _ _, ⟨trivial, List.nodup_nil, fun _ h => by simp [N.ids] at h, ⟨trivial, trivial, trivial⟩⟩, by simp [N.ids], Nat.le_refl _⟩, (Below.refl _ _).alloc (Nat.le_refl _) _⟩

set_option maxHeartbeats 4000000 in
set_option maxRecDepth 100000 in
theorem tGet_any (base R : Nat) (t : N) (key : Int) (w : World) (hT : Tree base R t w) :
    Calls Try.prog 37 #[.pointer (some ⟨R, 0, none⟩), .int .i64 key] w fun e w' =>
      e = .returned (.tuple #[.agg #[.int .i64 ((T.find key t.raw).getD ⟨0, 0, 0⟩).lo, .int .i64 ((T.find key t.raw).getD ⟨0, 0, 0⟩).hi, .int .i64 ((T.find key t.raw).getD ⟨0, 0, 0⟩).v], .bool (T.find key t.raw).isSome]) ∧ Below w.heap.size w w' := by
  have HT := hid hT
  have HB0 : Hid (Below w.heap.size w (w.alloc (.cells #[.int .i64 0, .int .i64 0, .int .i64 0] 74)) ∧ Blk (w.alloc (.cells #[.int .i64 0, .int .i64 0, .int .i64 0] 74)) w.heap.size Z3 74) := ⟨(Below.refl _ _).alloc (Nat.le_refl _) _, Blk.new _ _ _⟩
  have c0 : (w.alloc (.cells #[.int .i64 0, .int .i64 0, .int .i64 0] 74)).cell? ⟨R, 0, none⟩ = some t.ptr := (HT.out.below HB0.out.1).root.cell 0
  clear hT
  go_enter Try.func37, Try.ntmps37
  go_wp2_with fail
  generalize w.alloc (.cells #[.int .i64 0, .int .i64 0, .int .i64 0] 74) = W0 at HB0 c0 ⊢
  have HI : Hid (t.In W0) := (HT.out.good.to HB0.out.1).mem
  refine (search_any key t W0 HI.out).mono ?_
  rintro e w2 ⟨rfl, rfl⟩
  clear c0
  cases hq : t.seek key with
  | nil =>
    have HF := hid (seek_nil key hq)
    have f0 : W0.frozen? ⟨w.heap.size, 0, none⟩ = false := HB0.out.2.free 0
    have f1 : W0.frozen? ⟨w.heap.size, 1, none⟩ = false := HB0.out.2.free 1
    have f2 : W0.frozen? ⟨w.heap.size, 2, none⟩ = false := HB0.out.2.free 2
    have e0 : W0.cell? ⟨w.heap.size, 0, none⟩ = some (.int .i64 0) := HB0.out.2.cell 0
    have e1 : W0.cell? ⟨w.heap.size, 1, none⟩ = some (.int .i64 0) := HB0.out.2.cell 1
    have e2 : W0.cell? ⟨w.heap.size, 2, none⟩ = some (.int .i64 0) := HB0.out.2.cell 2
    rw [show N.ptr .nil = .pointer none from rfl]
    go_wp2_with fail
    have z0 : (box3 W0 w.heap.size ⟨0, 0, 0⟩).cell? ⟨w.heap.size, 0, none⟩ = some (.int .i64 0) := (blk_box3 (kv := ⟨0, 0, 0⟩) (kv' := ⟨0, 0, 0⟩) HB0.out.2).cell 0
    have z1 : (box3 W0 w.heap.size ⟨0, 0, 0⟩).cell? ⟨w.heap.size, 1, none⟩ = some (.int .i64 0) := (blk_box3 (kv := ⟨0, 0, 0⟩) (kv' := ⟨0, 0, 0⟩) HB0.out.2).cell 1
    have z2 : (box3 W0 w.heap.size ⟨0, 0, 0⟩).cell? ⟨w.heap.size, 2, none⟩ = some (.int .i64 0) := (blk_box3 (kv := ⟨0, 0, 0⟩) (kv' := ⟨0, 0, 0⟩) HB0.out.2).cell 2
    unfold box3 at z0 z1 z2
    refine bodyPost_ret (v := .tuple #[.agg #[.int .i64 0, .int .i64 0, .int .i64 0], .bool false]) (by simp [results, Try.results37, go_sem, z0, z1, z2]) rfl ⟨by rw [HF.out]; rfl, ?_⟩
    repeat (first | exact HB0.out.1 | refine Below.setCell ?_ (by simp) _)
  | node b s h m l r =>
    have HF := hid (seek_node key hq)
    have HN : Hid (Blk W0 b (cs s h m l r) 110) := by
      have h1 := seek_in key HI.out
      rw [hq] at h1
      exact h1.1
    rw [show N.ptr (.node b s h m l r) = .pointer (some ⟨b, 0, none⟩) from rfl]
    clear hq
    go_wp2_with fail
    refine (newKV_any b s h m l r W0 HN.out).mono ?_
    rintro e w3 ⟨rfl, hb⟩
    have H3 : Hid (Below w.heap.size w w3 ∧ Blk w3 w.heap.size Z3 74) := ⟨below_at HB0.out.1 hb HB0.out.1.size, HB0.out.2.fr (Fr.new (Z := fun _ => False) hb) (fun h => h)⟩
    clear hb
    have f0 : w3.frozen? ⟨w.heap.size, 0, none⟩ = false := H3.out.2.free 0
    have f1 : w3.frozen? ⟨w.heap.size, 1, none⟩ = false := H3.out.2.free 1
    have f2 : w3.frozen? ⟨w.heap.size, 2, none⟩ = false := H3.out.2.free 2
    have e0 : w3.cell? ⟨w.heap.size, 0, none⟩ = some (.int .i64 0) := H3.out.2.cell 0
    have e1 : w3.cell? ⟨w.heap.size, 1, none⟩ = some (.int .i64 0) := H3.out.2.cell 1
    have e2 : w3.cell? ⟨w.heap.size, 2, none⟩ = some (.int .i64 0) := H3.out.2.cell 2
    go_wp2_with fail
    have z0 : (box3 w3 w.heap.size s).cell? ⟨w.heap.size, 0, none⟩ = some (.int .i64 s.lo) := (blk_box3 (kv := s) (kv' := ⟨0, 0, 0⟩) H3.out.2).cell 0
    have z1 : (box3 w3 w.heap.size s).cell? ⟨w.heap.size, 1, none⟩ = some (.int .i64 s.hi) := (blk_box3 (kv := s) (kv' := ⟨0, 0, 0⟩) H3.out.2).cell 1
    have z2 : (box3 w3 w.heap.size s).cell? ⟨w.heap.size, 2, none⟩ = some (.int .i64 s.v) := (blk_box3 (kv := s) (kv' := ⟨0, 0, 0⟩) H3.out.2).cell 2
    unfold box3 at z0 z1 z2
    refine bodyPost_ret (v := .tuple #[.agg #[.int .i64 s.lo, .int .i64 s.hi, .int .i64 s.v], .bool true]) (by simp [results, Try.results37, go_sem, z0, z1, z2]) rfl ⟨by rw [HF.out]; rfl, ?_⟩
    repeat (first | exact H3.out.1 | refine Below.setCell ?_ (by simp) _)

set_option maxHeartbeats 4000000 in
set_option maxRecDepth 100000 in
theorem tOverlaps_any (base R : Nat) (t : N) (a b : Int) (hab : a ≤ b) (w : World) (hT : Tree base R t w) (hs : t.raw.size ≤ 1099511627776) :
    Calls Try.prog 38 #[.pointer (some ⟨R, 0, none⟩), .int .i64 a, .int .i64 b] w fun e w' => ∃ v, e = .returned v ∧ spK.R 74 w' w.heap.size (fun _ => True) v ((T.over a b t.raw).map tri) ∧ Below w.heap.size w w' := by
  have HT := hid hT
  have HS : Hid (t.raw.size ≤ 1099511627776 ∧ a ≤ b) := ⟨hs, hab⟩
  have c0 : w.cell? ⟨R, 0, none⟩ = some t.ptr := hT.root.cell 0
  clear hT hs hab
  go_enter Try.func38, Try.ntmps38
  go_wp2_with fail
  refine start_ (n := 9) (S := fun w' => w'.cell? ⟨R, 0, none⟩ = some (t.ptr)) (ds := [7]) #[false, false, false, false, false, false, false, false, false] (by kernel_rfl) rfl rfl c0 (fun hHeld => ?_)
  refine with_tabW ovm1.tab ovm1.bits (fun HT_ HW_ => ?_)
  clear c0
  refine pure_ (i := 0) (N := some 7) (v := ?_) (a' := ?_) #[true, false, false, false, false, false, false, false, false] rfl rfl (any_of HT_.out (by kernel_rfl)) (fun _ _ _ h => h) (Or.inl ⟨by rfl, ?_⟩) ?_ ?_
  rotate_left
  · intro w'
    go_simp
    with_reducible rfl
  rotate_left
  · simp only [Act.put, List.setIfInBounds_toArray, List.set_cons_zero, List.set_cons_succ]
    rfl
  refine pure_ (i := 1) (N := some 8) (v := ?_) (a' := ?_) #[true, true, false, false, false, false, false, false, false] rfl rfl (any_of HT_.out (by kernel_rfl)) (fun _ _ _ h => h) (Or.inl ⟨by rfl, ?_⟩) ?_ ?_
  rotate_left
  · intro w'
    go_simp
    with_reducible rfl
  rotate_left
  · simp only [Act.put, List.setIfInBounds_toArray, List.set_cons_zero, List.set_cons_succ]
    rfl
  refine pure_ (i := 2) (N := some 9) (v := ?_) (a' := ?_) #[true, true, true, false, false, false, false, false, false] rfl rfl (any_of HT_.out (by kernel_rfl)) (fun _ _ _ h => h) (Or.inl ⟨by rfl, ?_⟩) ?_ ?_
  rotate_left
  · intro w'
    go_simp
    with_reducible rfl
  rotate_left
  · simp only [Act.put, List.setIfInBounds_toArray, List.set_cons_zero, List.set_cons_succ]
    rfl
  refine take_ (i := 3) (N := some 10) (v := ?_) (a' := ?_) #[true, true, true, true, false, false, false, false, false] rfl rfl (take_ofW HT_.out HW_.out (by kernel_rfl)) (fun _ _ _ h => h) (Or.inl ⟨by rfl, ?_⟩) hHeld ?_ ?_
  rotate_left
  · intro w' s0
    go_simp
    with_reducible rfl
  rotate_left
  · simp only [Act.put, List.setIfInBounds_toArray, List.set_cons_zero, List.set_cons_succ]
    rfl
  refine pure_ (i := 4) (N := some 11) (v := ?_) (a' := ?_) #[true, true, true, true, true, false, false, false, false] rfl rfl (any_of HT_.out (by kernel_rfl)) (fun _ _ _ h => h) (Or.inl ⟨by rfl, ?_⟩) ?_ ?_
  rotate_left
  · intro w'
    go_simp
    with_reducible rfl
  rotate_left
  · simp only [Act.put, List.setIfInBounds_toArray, List.set_cons_zero, List.set_cons_succ]
    rfl
  refine pure_ (i := 5) (N := some 12) (v := ?_) (a' := ?_) #[true, true, true, true, true, true, false, false, false] rfl rfl (any_of HT_.out (by kernel_rfl)) (fun _ _ _ h => h) (Or.inl ⟨by rfl, ?_⟩) ?_ ?_
  rotate_left
  · intro w'
    go_simp
    with_reducible rfl
  rotate_left
  · simp only [Act.put, List.setIfInBounds_toArray, List.set_cons_zero, List.set_cons_succ]
    rfl
  refine one_ (i := 6) (N := some 13) #[true, true, true, true, true, true, true, false, false] rfl rfl (one_of HT_.out (by kernel_rfl)) (by decide) (fun K_ hK => ?_)
  refine call_ (N := some 13) 51 #[.int .i64 a, .int .i64 b] (by rfl) rfl (by go_simp) ?_
  have HCall_ := newIntrvl_any a b HS.out.2 w.drew
  refine HCall_.mono ?_
  clear HCall_
  rintro e w1 ⟨rfl, hb⟩
  have H1 : Hid (Below w.heap.size w w1) := ⟨hb.os, hb.tape, hb.output, hb.size, hb.block⟩
  clear hb
  refine ⟨_, rfl, ?_⟩
  refine hK.out _ _ ((HT.out.below H1.out).root.cell 0) (fun hHeld => ?_)
  clear hK K_
  refine norm_ (a' := ?_) ?_ ?_
  rotate_left
  · show Act.put _ (some 13) _ = _
    simp only [Act.put, List.setIfInBounds_toArray, List.set_cons_zero, List.set_cons_succ]
    rfl
  refine last_ (i := 7) (N := some 14) #[true, true, true, true, true, true, true, true, false] rfl rfl (one_of HT_.out (by kernel_rfl)) (by decide) (fun K_ hK => ?_)
  refine call_ (N := some 14) 55 #[t.ptr, .agg #[.int .i64 a, .int .i64 b], .slice none 0 0] (by rfl) rfl (by go_simp) ?_
  have HCall_ := overlaps_any a b w.heap.size t [] (.slice none 0 0) w1 (HT.out.below H1.out).good.mem (fun x hx e => by simp [Value.ownBlock] at e) (Kd.R_nil ..) (by have := HS.out.1; simpa using this) H1.out.size
  refine HCall_.mono ?_
  clear HCall_
  rintro e w2 ⟨v2, rfl, hR, hf, hat⟩
  have H2 : Hid (spK.R 74 w2 w.heap.size (fun _ => True) v2 ((T.over a b t.raw).map tri) ∧ Below w.heap.size w w2) := ⟨hR, H1.out.trans (hf.below H1.out.size (fun k hk => by simp [Value.ownBlock] at hk))⟩
  clear hR hf hat
  refine ⟨_, rfl, ?_⟩
  refine hK.out _ _ ?_
  clear hK K_
  refine norm_ (a' := ?_) ?_ ?_
  rotate_left
  · show Act.put _ (some 14) _ = _
    simp only [Act.put, List.setIfInBounds_toArray, List.set_cons_zero, List.set_cons_succ]
    rfl
  refine pure_ (i := 8) (N := some 6) (v := ?_) (a' := ?_) #[true, true, true, true, true, true, true, true, true] rfl rfl (any_of HT_.out (by kernel_rfl)) (fun _ _ _ h => h) (Or.inl ⟨by rfl, ?_⟩) ?_ ?_
  rotate_left
  · intro w'
    go_simp
    with_reducible rfl
  rotate_left
  · simp only [Act.put, List.setIfInBounds_toArray, List.set_cons_zero, List.set_cons_succ]
    rfl
  refine done_ (done_of HT_.out (by kernel_rfl)) ?_
  clear HT_ HW_
  go_wp2_with fail
  go_ret
  exact ⟨v2, rfl, H2.out.1, H2.out.2⟩
end Go.Proofs.Ytmnjkdbopafkfaa.Int
