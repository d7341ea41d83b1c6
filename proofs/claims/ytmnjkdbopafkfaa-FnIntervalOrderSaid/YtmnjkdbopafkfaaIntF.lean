/- Interval trees in memory: the tree's own methods. For every balanced tree with right heights and greatest ends. -/
import Derived.Test.YtmnjkdbopafkfaaIntE
namespace Go.Proofs.Ytmnjkdbopafkfaa.Int
open Go Go.RowKit Go.Deep Go.Proofs.Ytmnjkdbopafkfaa.Hk Go.Proofs.Ytmnjkdbopafkfaa.IntPure Go.Proofs.Ytmnjkdbopafkfaa.IntPure.T Go.Proofs.YtmnjkdbopafkfaaW.PrintWords Go.Proofs.YtmnjkdbopafkfaaW.PrintLast Go.Proofs.YtmnjkdbopafkfaaW.PrintMore
def put1.T : Bool × List (List Nat × List Nat) := (true, [([], []), ([0], [0]), ([1], [1]), ([2], [2]), ([], []), ([], []), ([4, 5], [4, 5]), ([], []), ([3, 6, 7, 6], [3, 6, 7]), ([8], [8]), ([9], [9]), ([9], [9]), ([9], [9]), ([], []), ([10, 8, 0, 1, 2, 3, 4, 5, 6, 7, 8, 9, 10, 13], [10]), ([13, 11, 14, 0, 1, 2, 3, 4, 5, 6, 7, 8, 9, 10, 11, 13, 14], [11, 13]), ([12, 15, 0, 1, 2, 3, 4, 5, 6, 7, 8, 9, 10, 11, 12, 13, 14, 15], [12])])
def put1.B : List Nat := [0, 1, 3, 7, 0, 0, 48, 0, 255, 511, 1023, 1023, 1023, 0, 10239, 28671, 65535]
theorem put1.tab : rtab .any (opsOf Try.f34 1) = put1.T := by kernel_rfl
theorem put1.bits : waitsOk put1.T.2 put1.B = true := by kernel_rfl
def add1.T : Bool × List (List Nat × List Nat) := (true, [([], []), ([0], [0]), ([1], [1]), ([2], [2]), ([], []), ([], []), ([4, 5], [4, 5]), ([], []), ([3, 6, 7, 6], [3, 6, 7]), ([8], [8]), ([9], [9]), ([9], [9]), ([9], [9]), ([], []), ([10, 8, 0, 1, 2, 3, 4, 5, 6, 7, 8, 9, 10, 13], [10]), ([13, 11, 14, 0, 1, 2, 3, 4, 5, 6, 7, 8, 9, 10, 11, 13, 14], [11, 13]), ([12, 15, 0, 1, 2, 3, 4, 5, 6, 7, 8, 9, 10, 11, 12, 13, 14, 15], [12])])
def add1.B : List Nat := [0, 1, 3, 7, 0, 0, 48, 0, 255, 511, 1023, 1023, 1023, 0, 10239, 28671, 65535]
theorem add1.tab : rtab .any (opsOf Try.f35 1) = add1.T := by kernel_rfl
theorem add1.bits : waitsOk add1.T.2 add1.B = true := by kernel_rfl
def ovl1.T : Bool × List (List Nat × List Nat) := (true, [([], []), ([0], [0]), ([1], [1]), ([2], [2]), ([], []), ([], []), ([4, 5], [4, 5]), ([3, 6, 6], [3, 6]), ([7, 7, 0, 1, 2, 3, 4, 5, 6, 7], [7])])
def ovl1.B : List Nat := [0, 1, 3, 7, 0, 0, 48, 127, 255]
theorem ovl1.tab : rtab .any (opsOf Try.f38 1) = ovl1.T := by kernel_rfl
theorem ovl1.bits : waitsOk ovl1.T.2 ovl1.B = true := by kernel_rfl

set_option maxHeartbeats 800000 in
set_option maxRecDepth 100000 in
theorem newIntrvl_any (lo hi : Int) (hl : lo ≤ hi) (w : World) : Calls Try.prog 51 #[.int .i64 lo, .int .i64 hi] w fun e w' => e = .returned (.agg #[.int .i64 lo, .int .i64 hi]) ∧ Below w.heap.size w w' := by
  have h1 : ¬ lo > hi := by omega
  clear hl
  go_enter Try.func51, Try.ntmps51
  go_wp2_with fail
  refine bodyPost_ret (v := .agg #[.int .i64 lo, .int .i64 hi]) (by simp [results, Try.results51, go_sem]) rfl ⟨rfl, ?_⟩
  repeat (first | exact Below.refl _ _ | refine Below.setCell ?_ (by simp) _ | refine Below.alloc ?_ (by simp) _ | (refine Below.drew ?_))

/-- A tree of the package: its own block, and its nodes. -/
structure Tree (base R : Nat) (t : N) (w : World) : Prop where
  root : Blk w R #[t.ptr] 86
  good : Good base w t
  out : R ∉ t.ids
  ge : base ≤ R
theorem Tree.lt {base R : Nat} {t : N} {w : World} (h : Tree base R t w) : R < w.heap.size ∧ ∀ b ∈ t.ids, b < w.heap.size := ⟨h.root.lt, N.In.lt h.good.mem⟩
theorem Tree.fr {base R : Nat} {t : N} {w w' : World} {Z : Nat → Prop} (h : Tree base R t w) (hf : Fr Z w w') (hn : ∀ b, b = R ∨ b ∈ t.ids → ¬ Z b) : Tree base R t w' :=
  ⟨h.root.fr hf (hn R (.inl rfl)), h.good.fr hf (fun b hb => hn b (.inr hb)), h.out, h.ge⟩
theorem Tree.below {base R : Nat} {t : N} {w w' : World} (h : Tree base R t w) (hb : Below w.heap.size w w') : Tree base R t w' := h.fr (Fr.new (Z := fun _ => False) hb) (fun _ _ h => h)
/-- What a method that changes a tree leaves. -/
def Turned (base R : Nat) (t : N) (res : T × S × Bool) (w : World) (e : Ending) (w' : World) : Prop :=
  ∃ t' : N, e = .returned (.tuple #[.agg #[.int .i64 res.2.1.lo, .int .i64 res.2.1.hi, .int .i64 res.2.1.v], .bool res.2.2]) ∧ t'.raw = res.1 ∧ Tree base R t' w' ∧ Fr (fun b => b = R ∨ b ∈ t.ids) w w' ∧ ∀ b ∈ t'.ids, b ∈ t.ids ∨ w.heap.size ≤ b
abbrev Z3 : Array Value := #[.int .i64 0, .int .i64 0, .int .i64 0]
/-- What stands when the part below the root is turned, and both boxes lie. -/
structure Mid (t t' : N) (g : Nat) (w W : World) : Prop where
  put : Put t t' w W
  p : Blk W w.heap.size Z3 74
  q : Blk W g Z3 74
  gt : w.heap.size < g
  po : w.heap.size ∉ t'.ids
  qo : g ∉ t'.ids
theorem Mid.now {t t' : N} {g : Nat} {w W W2 : World} (hin : ∀ b ∈ t.ids, b < w.heap.size) (hB : Below w.heap.size w W) (p : Blk W w.heap.size Z3 74) (q : Blk W g Z3 74) (hg : w.heap.size < g) (h : Put t t' W W2) : Mid t t' g w W2 :=
  ⟨h.since hB, p.fr h.fr (fun e => by have := hin _ e; omega), q.fr h.fr (fun e => by have := hin _ e; omega), hg, new_out hin h (Nat.le_refl _) p.lt, new_out hin h (by omega) q.lt⟩
theorem Mid.later {t t' : N} {w W W2 : World} (hin : ∀ b ∈ t.ids, b < w.heap.size) (hB : Below w.heap.size w W) (p : Blk W w.heap.size Z3 74) (h : Put t t' W W2) : Mid t t' W2.heap.size w (W2.alloc (.cells Z3 74)) := by
  have hp := h.since hB
  have hl := p.lt
  have h2 := h.fr.size
  have hb : Below W2.heap.size W2 (W2.alloc (.cells Z3 74)) := (Below.refl _ _).alloc (Nat.le_refl _) _
  exact ⟨hp.upto (Z := fun _ => False) (Fr.new hb) (fun _ h => h.elim), (p.fr h.fr (fun e => by have := hin _ e; omega)).alloc _, Blk.new _ _ _, by omega, new_out hin h (Nat.le_refl _) hl, fun hx => by have := N.In.lt h.mem _ hx; omega⟩
/-- Behind the store of the root, and of the box. -/
theorem Put.turned {base R : Nat} {t t' : N} {w W : World} (hT : Tree base R t w) (M : Put t t' w W) (hgood : T.Good t'.raw) {w' : World} {Z : Nat → Prop} (hf : Fr Z (W.setCell ⟨R, 0, none⟩ t'.ptr) w') (hZ : ∀ k, Z k → w.heap.size ≤ k ∧ k ∉ t'.ids) :
    Tree base R t' w' ∧ Fr (fun b => b = R ∨ b ∈ t.ids) w w' ∧ ∀ b ∈ t'.ids, b ∈ t.ids ∨ w.heap.size ≤ b := by
  have hRt : R ∉ t'.ids := fun hx => (M.ids R hx).elim hT.out (fun q => by have := hT.lt.1; omega)
  have hR := hT.root.fr M.fr hT.out
  have hRlt := hT.lt.1
  have b1 : Blk (W.setCell ⟨R, 0, none⟩ t'.ptr) R #[t'.ptr] 86 := hR.set 0 _
  have t1 : t'.In (W.setCell ⟨R, 0, none⟩ t'.ptr) := N.In.fr (Fr.one (b := R)) M.mem (fun x hx e => hRt (e ▸ hx))
  refine ⟨⟨b1.fr hf (fun h => by have := (hZ R h).1; omega), ⟨N.In.fr hf t1 (fun x hx h => (hZ x h).2 hx), M.nodup, fun b hb => (M.ids b hb).elim (hT.good.above b) (fun q => by have := hT.ge; omega), hgood⟩, hRt, hT.ge⟩, ?_, M.ids⟩
  exact ((M.fr.into (fun n q => .inr q)).then (Fr.one.into (fun n e => .inl e))).trans hf (fun n hn h => absurd (hZ n h).1 (by omega))

set_option maxHeartbeats 8000000 in
set_option maxRecDepth 100000 in
theorem tPut_any (base R : Nat) (t : N) (lo hi v : Int) (hlh : lo ≤ hi) (w : World) (hT : Tree base R t w) (ht : t.raw.tall ≤ 4294950000) :
    Calls Try.prog 34 #[.pointer (some ⟨R, 0, none⟩), .int .i64 lo, .int .i64 hi, .int .i64 v] w (Turned base R t (T.ins ⟨lo, hi, v⟩ true t.raw) w) := by
  have HT := hid hT
  have HS : Hid (t.raw.tall ≤ 4294950000 ∧ lo ≤ hi) := ⟨ht, hlh⟩
  have HB0 : Hid (Below w.heap.size w (w.alloc (.cells #[.int .i64 0, .int .i64 0, .int .i64 0] 74)) ∧ Blk (w.alloc (.cells #[.int .i64 0, .int .i64 0, .int .i64 0] 74)) w.heap.size Z3 74) := ⟨(Below.refl _ _).alloc (Nat.le_refl _) _, Blk.new _ _ _⟩
  clear hT ht hlh
  go_enter Try.func34, Try.ntmps34
  go_wp2_with fail
  generalize w.alloc (.cells #[.int .i64 0, .int .i64 0, .int .i64 0] 74) = W0 at HB0 ⊢
  have HIN := hid HT.out.lt.2
  have HR : Hid (∀ W, Below w.heap.size w W → W.cell? ⟨R, 0, none⟩ = some t.ptr) := fun W hb => (HT.out.below hb).root.cell 0
  have c0 : W0.cell? ⟨R, 0, none⟩ = some t.ptr := HR.out _ HB0.out.1
  refine start_ (n := 17) (S := fun w' => w'.cell? ⟨R, 0, none⟩ = some (t.ptr)) (ds := [15]) #[false, false, false, false, false, false, false, false, false, false, false, false, false, false, false, false, false] (by kernel_rfl) rfl rfl c0 (fun hHeld => ?_)
  refine with_tabW put1.tab put1.bits (fun HT_ HW_ => ?_)
  clear c0
  have HB := hid (And.intro (Below.drew HB0.out.1) (show Blk W0.drew w.heap.size Z3 74 from HB0.out.2))
  clear HB0
  generalize W0.drew = W1 at HB hHeld ⊢
  refine pure_ (i := 0) (N := some 14) (v := ?_) (a' := ?_) #[true, false, false, false, false, false, false, false, false, false, false, false, false, false, false, false, false] rfl rfl (any_of HT_.out (by kernel_rfl)) (fun _ _ _ h => h) (Or.inl ⟨by rfl, ?_⟩) ?_ ?_
  rotate_left
  · intro w'
    go_simp
    with_reducible rfl
  rotate_left
  · simp only [Act.put, List.setIfInBounds_toArray, List.set_cons_zero, List.set_cons_succ]
    rfl
  refine pure_ (i := 1) (N := some 15) (v := ?_) (a' := ?_) #[true, true, false, false, false, false, false, false, false, false, false, false, false, false, false, false, false] rfl rfl (any_of HT_.out (by kernel_rfl)) (fun _ _ _ h => h) (Or.inl ⟨by rfl, ?_⟩) ?_ ?_
  rotate_left
  · intro w'
    go_simp
    with_reducible rfl
  rotate_left
  · simp only [Act.put, List.setIfInBounds_toArray, List.set_cons_zero, List.set_cons_succ]
    rfl
  refine pure_ (i := 2) (N := some 16) (v := ?_) (a' := ?_) #[true, true, true, false, false, false, false, false, false, false, false, false, false, false, false, false, false] rfl rfl (any_of HT_.out (by kernel_rfl)) (fun _ _ _ h => h) (Or.inl ⟨by rfl, ?_⟩) ?_ ?_
  rotate_left
  · intro w'
    go_simp
    with_reducible rfl
  rotate_left
  · simp only [Act.put, List.setIfInBounds_toArray, List.set_cons_zero, List.set_cons_succ]
    rfl
  refine take_ (i := 3) (N := some 17) (v := ?_) (a' := ?_) #[true, true, true, true, false, false, false, false, false, false, false, false, false, false, false, false, false] rfl rfl (take_ofW HT_.out HW_.out (by kernel_rfl)) (fun _ _ _ h => h) (Or.inl ⟨by rfl, ?_⟩) hHeld ?_ ?_
  rotate_left
  · intro w' s0
    go_simp
    with_reducible rfl
  rotate_left
  · simp only [Act.put, List.setIfInBounds_toArray, List.set_cons_zero, List.set_cons_succ]
    rfl
  refine pure_ (i := 4) (N := some 18) (v := ?_) (a' := ?_) #[true, true, true, true, true, false, false, false, false, false, false, false, false, false, false, false, false] rfl rfl (any_of HT_.out (by kernel_rfl)) (fun _ _ _ h => h) (Or.inl ⟨by rfl, ?_⟩) ?_ ?_
  rotate_left
  · intro w'
    go_simp
    with_reducible rfl
  rotate_left
  · simp only [Act.put, List.setIfInBounds_toArray, List.set_cons_zero, List.set_cons_succ]
    rfl
  refine pure_ (i := 5) (N := some 19) (v := ?_) (a' := ?_) #[true, true, true, true, true, true, false, false, false, false, false, false, false, false, false, false, false] rfl rfl (any_of HT_.out (by kernel_rfl)) (fun _ _ _ h => h) (Or.inl ⟨by rfl, ?_⟩) ?_ ?_
  rotate_left
  · intro w'
    go_simp
    with_reducible rfl
  rotate_left
  · simp only [Act.put, List.setIfInBounds_toArray, List.set_cons_zero, List.set_cons_succ]
    rfl
  refine pure_ (i := 7) (N := some 21) (v := ?_) (a' := ?_) #[true, true, true, true, true, true, false, true, false, false, false, false, false, false, false, false, false] rfl rfl (any_of HT_.out (by kernel_rfl)) (fun _ _ _ h => h) (Or.inl ⟨by rfl, ?_⟩) ?_ ?_
  rotate_left
  · intro w'
    go_simp
    with_reducible rfl
  rotate_left
  · simp only [Act.put, List.setIfInBounds_toArray, List.set_cons_zero, List.set_cons_succ]
    rfl
  refine join_ (σ := N × S × Bool × Nat) 3 #[true, true, true, true, true, true, true, true, true, true, true, true, true, true, false, false, false] (fun s => [(20, .agg #[.int .i64 lo, .int .i64 hi]), (22, .tuple #[s.1.ptr, .agg #[.int .i64 s.2.1.lo, .int .i64 s.2.1.hi, .int .i64 s.2.1.v], .bool s.2.2.1]), (13, .tuple #[s.1.ptr, .agg #[.int .i64 s.2.1.lo, .int .i64 s.2.1.hi, .int .i64 s.2.1.v], .bool s.2.2.1]), (23, s.1.ptr), (24, .agg #[.int .i64 s.2.1.lo, .int .i64 s.2.1.hi, .int .i64 s.2.1.v]), (25, .bool s.2.2.1), (11, .pointer (some ⟨s.2.2.2, 0, none⟩))]) (fun s W => T.ins ⟨lo, hi, v⟩ true t.raw = (s.1.raw, s.2.1, s.2.2.1) ∧ Mid t s.1 s.2.2.2 w W) ?hcont ?hord
  case hord =>
    intro hcont
    refine two_ (i := 6) (j := 13) (Ni := some 20) (Nj := some 11) #[true, true, true, true, true, true, true, true, false, false, false, false, false, false, false, false, false] #[true, true, true, true, true, true, false, true, false, false, false, false, false, true, false, false, false] rfl rfl rfl rfl (two_of HT_.out (by kernel_rfl)) (by decide) (by decide) (fun K_ hK => ?_) (fun K_ hK => ?_)
    · refine call_ (N := some 20) 51 #[.int .i64 lo, .int .i64 hi] (by rfl) rfl (by go_simp) ?_
      have HCall_ := newIntrvl_any lo hi HS.out.2 W1
      refine HCall_.mono ?_
      clear HCall_
      rintro e w1 ⟨rfl, hb⟩
      have H1 : Hid (Below w.heap.size w w1 ∧ Blk w1 w.heap.size Z3 74) := ⟨below_at HB.out.1 hb HB.out.1.size, HB.out.2.fr (Fr.new (Z := fun _ => False) hb) (fun h => h)⟩
      clear hb
      refine ⟨_, rfl, ?_⟩
      refine hK.out _ _ (HR.out _ H1.out.1) (fun hHeld => ?_)
      clear hK K_
      clear HB
      refine norm_ (a' := ?_) ?_ ?_
      rotate_left
      · show Act.put _ (some 20) _ = _
        simp only [Act.put, List.setIfInBounds_toArray, List.set_cons_zero, List.set_cons_succ]
        rfl
      refine two_ (i := 8) (j := 13) (Ni := some 22) (Nj := some 11) #[true, true, true, true, true, true, true, true, true, false, false, false, false, false, false, false, false] #[true, true, true, true, true, true, true, true, false, false, false, false, false, true, false, false, false] rfl rfl rfl rfl (two_of HT_.out (by kernel_rfl)) (by decide) (by decide) (fun K_ hK => ?_) (fun K_ hK => ?_)
      · refine call_ (N := some 22) 50 #[t.ptr, .agg #[.int .i64 lo, .int .i64 hi], .int .i64 v, .bool true] (by rfl) rfl (by go_simp) ?_
        have HCall_ := insert_any ⟨lo, hi, v⟩ true t w1 (HT.out.good.to H1.out.1) HS.out.1
        refine HCall_.mono ?_
        clear HCall_
        rintro e w2 ⟨t', kv, ok, rfl, hraw, hput⟩
        have HP := hid (And.intro hraw hput)
        clear hraw hput
        refine ⟨_, rfl, ?_⟩
        refine hK.out _ _ ((HT.out.root.fr ((HP.out.2).since (H1.out.1)).fr HT.out.out).cell 0) (fun hHeld => ?_)
        clear hK K_
        refine norm_ (a' := ?_) ?_ ?_
        rotate_left
        · show Act.put _ (some 22) _ = _
          simp only [Act.put, List.setIfInBounds_toArray, List.set_cons_zero, List.set_cons_succ]
          rfl
        refine pure_ (i := 9) (N := some 13) (v := ?_) (a' := ?_) #[true, true, true, true, true, true, true, true, true, true, false, false, false, false, false, false, false] rfl rfl (any_of HT_.out (by kernel_rfl)) (fun _ _ _ h => h) (Or.inl ⟨by rfl, ?_⟩) ?_ ?_
        rotate_left
        · intro w'
          go_simp
          with_reducible rfl
        rotate_left
        · simp only [Act.put, List.setIfInBounds_toArray, List.set_cons_zero, List.set_cons_succ]
          rfl
        refine pure_ (i := 10) (N := some 23) (v := ?_) (a' := ?_) #[true, true, true, true, true, true, true, true, true, true, true, false, false, false, false, false, false] rfl rfl (any_of HT_.out (by kernel_rfl)) (fun _ _ _ h => h) (Or.inl ⟨by rfl, ?_⟩) ?_ ?_
        rotate_left
        · intro w'
          go_simp
          with_reducible rfl
        rotate_left
        · simp only [Act.put, List.setIfInBounds_toArray, List.set_cons_zero, List.set_cons_succ]
          rfl
        refine pure_ (i := 11) (N := some 24) (v := ?_) (a' := ?_) #[true, true, true, true, true, true, true, true, true, true, true, true, false, false, false, false, false] rfl rfl (any_of HT_.out (by kernel_rfl)) (fun _ _ _ h => h) (Or.inl ⟨by rfl, ?_⟩) ?_ ?_
        rotate_left
        · intro w'
          go_simp
          with_reducible rfl
        rotate_left
        · simp only [Act.put, List.setIfInBounds_toArray, List.set_cons_zero, List.set_cons_succ]
          rfl
        refine pure_ (i := 12) (N := some 25) (v := ?_) (a' := ?_) #[true, true, true, true, true, true, true, true, true, true, true, true, true, false, false, false, false] rfl rfl (any_of HT_.out (by kernel_rfl)) (fun _ _ _ h => h) (Or.inl ⟨by rfl, ?_⟩) ?_ ?_
        rotate_left
        · intro w'
          go_simp
          with_reducible rfl
        rotate_left
        · simp only [Act.put, List.setIfInBounds_toArray, List.set_cons_zero, List.set_cons_succ]
          rfl
        refine one_ (i := 13) (N := some 11) #[true, true, true, true, true, true, true, true, true, true, true, true, true, true, false, false, false] rfl rfl (one_of HT_.out (by kernel_rfl)) (by decide) (fun K_ hK => ?_)
        refine value_ (w1 := ?_) (v := ?_) (by rfl) rfl ?_ ?_
        rotate_left 2
        · go_simp
          constructor
          · rfl
          · rfl
        refine hK.out _ _ (by have := Mid.later HIN.out H1.out.1 H1.out.2 HP.out.2; exact (HT.out.root.fr this.put.fr HT.out.out).cell 0) (fun hHeld => ?_)
        clear hK K_
        refine norm_ (a' := ?_) ?_ ?_
        rotate_left
        · show Act.put _ (some 11) _ = _
          simp only [Act.put, List.setIfInBounds_toArray, List.set_cons_zero, List.set_cons_succ]
          rfl
        exact hcont ⟨t', kv, ok, w2.heap.size⟩ _ ⟨HP.out.1, Mid.later HIN.out H1.out.1 H1.out.2 HP.out.2⟩
      · refine value_ (w1 := ?_) (v := ?_) (by rfl) rfl ?_ ?_
        rotate_left 2
        · go_simp
          constructor
          · rfl
          · rfl
        refine hK.out _ _ (HR.out _ (H1.out.1.alloc H1.out.1.size _)) (fun hHeld => ?_)
        clear hK K_
        refine norm_ (a' := ?_) ?_ ?_
        rotate_left
        · show Act.put _ (some 11) _ = _
          simp only [Act.put, List.setIfInBounds_toArray, List.set_cons_zero, List.set_cons_succ]
          rfl
        have H2 : Hid (Below w.heap.size w (w1.alloc (.cells #[.int .i64 0, .int .i64 0, .int .i64 0] 74)) ∧ Blk (w1.alloc (.cells #[.int .i64 0, .int .i64 0, .int .i64 0] 74)) w.heap.size Z3 74 ∧ Blk (w1.alloc (.cells #[.int .i64 0, .int .i64 0, .int .i64 0] 74)) w1.heap.size Z3 74 ∧ w.heap.size < w1.heap.size) := ⟨H1.out.1.alloc H1.out.1.size _, H1.out.2.alloc _, Blk.new _ _ _, H1.out.2.lt⟩
        generalize w1.alloc (.cells #[.int .i64 0, .int .i64 0, .int .i64 0] 74) = w2 at H2 hHeld ⊢
        refine one_ (i := 8) (N := some 22) #[true, true, true, true, true, true, true, true, true, false, false, false, false, true, false, false, false] rfl rfl (one_of HT_.out (by kernel_rfl)) (by decide) (fun K_ hK => ?_)
        refine call_ (N := some 22) 50 #[t.ptr, .agg #[.int .i64 lo, .int .i64 hi], .int .i64 v, .bool true] (by rfl) rfl (by go_simp) ?_
        have HCall_ := insert_any ⟨lo, hi, v⟩ true t w2 (HT.out.good.to H2.out.1) HS.out.1
        refine HCall_.mono ?_
        clear HCall_
        rintro e w3 ⟨t', kv, ok, rfl, hraw, hput⟩
        have HP := hid (And.intro hraw hput)
        clear hraw hput
        refine ⟨_, rfl, ?_⟩
        refine hK.out _ _ ((HT.out.root.fr ((HP.out.2).since (H2.out.1)).fr HT.out.out).cell 0) (fun hHeld => ?_)
        clear hK K_
        refine norm_ (a' := ?_) ?_ ?_
        rotate_left
        · show Act.put _ (some 22) _ = _
          simp only [Act.put, List.setIfInBounds_toArray, List.set_cons_zero, List.set_cons_succ]
          rfl
        refine pure_ (i := 9) (N := some 13) (v := ?_) (a' := ?_) #[true, true, true, true, true, true, true, true, true, true, false, false, false, true, false, false, false] rfl rfl (any_of HT_.out (by kernel_rfl)) (fun _ _ _ h => h) (Or.inl ⟨by rfl, ?_⟩) ?_ ?_
        rotate_left
        · intro w'
          go_simp
          with_reducible rfl
        rotate_left
        · simp only [Act.put, List.setIfInBounds_toArray, List.set_cons_zero, List.set_cons_succ]
          rfl
        refine pure_ (i := 10) (N := some 23) (v := ?_) (a' := ?_) #[true, true, true, true, true, true, true, true, true, true, true, false, false, true, false, false, false] rfl rfl (any_of HT_.out (by kernel_rfl)) (fun _ _ _ h => h) (Or.inl ⟨by rfl, ?_⟩) ?_ ?_
        rotate_left
        · intro w'
          go_simp
          with_reducible rfl
        rotate_left
        · simp only [Act.put, List.setIfInBounds_toArray, List.set_cons_zero, List.set_cons_succ]
          rfl
        refine pure_ (i := 11) (N := some 24) (v := ?_) (a' := ?_) #[true, true, true, true, true, true, true, true, true, true, true, true, false, true, false, false, false] rfl rfl (any_of HT_.out (by kernel_rfl)) (fun _ _ _ h => h) (Or.inl ⟨by rfl, ?_⟩) ?_ ?_
        rotate_left
        · intro w'
          go_simp
          with_reducible rfl
        rotate_left
        · simp only [Act.put, List.setIfInBounds_toArray, List.set_cons_zero, List.set_cons_succ]
          rfl
        refine pure_ (i := 12) (N := some 25) (v := ?_) (a' := ?_) #[true, true, true, true, true, true, true, true, true, true, true, true, true, true, false, false, false] rfl rfl (any_of HT_.out (by kernel_rfl)) (fun _ _ _ h => h) (Or.inl ⟨by rfl, ?_⟩) ?_ ?_
        rotate_left
        · intro w'
          go_simp
          with_reducible rfl
        rotate_left
        · simp only [Act.put, List.setIfInBounds_toArray, List.set_cons_zero, List.set_cons_succ]
          rfl
        exact hcont ⟨t', kv, ok, w1.heap.size⟩ _ ⟨HP.out.1, Mid.now HIN.out H2.out.1 H2.out.2.1 H2.out.2.2.1 H2.out.2.2.2 HP.out.2⟩
    · refine value_ (w1 := ?_) (v := ?_) (by rfl) rfl ?_ ?_
      rotate_left 2
      · go_simp
        constructor
        · rfl
        · rfl
      refine hK.out _ _ (HR.out _ (HB.out.1.alloc HB.out.1.size _)) (fun hHeld => ?_)
      clear hK K_
      refine norm_ (a' := ?_) ?_ ?_
      rotate_left
      · show Act.put _ (some 11) _ = _
        simp only [Act.put, List.setIfInBounds_toArray, List.set_cons_zero, List.set_cons_succ]
        rfl
      have H2 : Hid (Below w.heap.size w (W1.alloc (.cells #[.int .i64 0, .int .i64 0, .int .i64 0] 74)) ∧ Blk (W1.alloc (.cells #[.int .i64 0, .int .i64 0, .int .i64 0] 74)) w.heap.size Z3 74 ∧ Blk (W1.alloc (.cells #[.int .i64 0, .int .i64 0, .int .i64 0] 74)) W1.heap.size Z3 74 ∧ w.heap.size < W1.heap.size) := ⟨HB.out.1.alloc HB.out.1.size _, HB.out.2.alloc _, Blk.new _ _ _, HB.out.2.lt⟩
      generalize W1.alloc (.cells #[.int .i64 0, .int .i64 0, .int .i64 0] 74) = w2 at H2 hHeld ⊢
      refine one_ (i := 6) (N := some 20) #[true, true, true, true, true, true, true, true, false, false, false, false, false, true, false, false, false] rfl rfl (one_of HT_.out (by kernel_rfl)) (by decide) (fun K_ hK => ?_)
      refine call_ (N := some 20) 51 #[.int .i64 lo, .int .i64 hi] (by rfl) rfl (by go_simp) ?_
      have HCall_ := newIntrvl_any lo hi HS.out.2 w2
      refine HCall_.mono ?_
      clear HCall_
      rintro e w3 ⟨rfl, hb⟩
      have H3 : Hid (Below w.heap.size w w3 ∧ Blk w3 w.heap.size Z3 74 ∧ Blk w3 W1.heap.size Z3 74 ∧ w.heap.size < W1.heap.size) := ⟨below_at H2.out.1 hb H2.out.1.size, H2.out.2.1.fr (Fr.new (Z := fun _ => False) hb) (fun h => h), H2.out.2.2.1.fr (Fr.new (Z := fun _ => False) hb) (fun h => h), H2.out.2.2.2⟩
      clear hb
      refine ⟨_, rfl, ?_⟩
      refine hK.out _ _ (HR.out _ H3.out.1) (fun hHeld => ?_)
      clear hK K_
      refine norm_ (a' := ?_) ?_ ?_
      rotate_left
      · show Act.put _ (some 20) _ = _
        simp only [Act.put, List.setIfInBounds_toArray, List.set_cons_zero, List.set_cons_succ]
        rfl
      refine one_ (i := 8) (N := some 22) #[true, true, true, true, true, true, true, true, true, false, false, false, false, true, false, false, false] rfl rfl (one_of HT_.out (by kernel_rfl)) (by decide) (fun K_ hK => ?_)
      refine call_ (N := some 22) 50 #[t.ptr, .agg #[.int .i64 lo, .int .i64 hi], .int .i64 v, .bool true] (by rfl) rfl (by go_simp) ?_
      have HCall_ := insert_any ⟨lo, hi, v⟩ true t w3 (HT.out.good.to H3.out.1) HS.out.1
      refine HCall_.mono ?_
      clear HCall_
      rintro e w4 ⟨t', kv, ok, rfl, hraw, hput⟩
      have HP := hid (And.intro hraw hput)
      clear hraw hput
      refine ⟨_, rfl, ?_⟩
      refine hK.out _ _ ((HT.out.root.fr ((HP.out.2).since (H3.out.1)).fr HT.out.out).cell 0) (fun hHeld => ?_)
      clear hK K_
      refine norm_ (a' := ?_) ?_ ?_
      rotate_left
      · show Act.put _ (some 22) _ = _
        simp only [Act.put, List.setIfInBounds_toArray, List.set_cons_zero, List.set_cons_succ]
        rfl
      refine pure_ (i := 9) (N := some 13) (v := ?_) (a' := ?_) #[true, true, true, true, true, true, true, true, true, true, false, false, false, true, false, false, false] rfl rfl (any_of HT_.out (by kernel_rfl)) (fun _ _ _ h => h) (Or.inl ⟨by rfl, ?_⟩) ?_ ?_
      rotate_left
      · intro w'
        go_simp
        with_reducible rfl
      rotate_left
      · simp only [Act.put, List.setIfInBounds_toArray, List.set_cons_zero, List.set_cons_succ]
        rfl
      refine pure_ (i := 10) (N := some 23) (v := ?_) (a' := ?_) #[true, true, true, true, true, true, true, true, true, true, true, false, false, true, false, false, false] rfl rfl (any_of HT_.out (by kernel_rfl)) (fun _ _ _ h => h) (Or.inl ⟨by rfl, ?_⟩) ?_ ?_
      rotate_left
      · intro w'
        go_simp
        with_reducible rfl
      rotate_left
      · simp only [Act.put, List.setIfInBounds_toArray, List.set_cons_zero, List.set_cons_succ]
        rfl
      refine pure_ (i := 11) (N := some 24) (v := ?_) (a' := ?_) #[true, true, true, true, true, true, true, true, true, true, true, true, false, true, false, false, false] rfl rfl (any_of HT_.out (by kernel_rfl)) (fun _ _ _ h => h) (Or.inl ⟨by rfl, ?_⟩) ?_ ?_
      rotate_left
      · intro w'
        go_simp
        with_reducible rfl
      rotate_left
      · simp only [Act.put, List.setIfInBounds_toArray, List.set_cons_zero, List.set_cons_succ]
        rfl
      refine pure_ (i := 12) (N := some 25) (v := ?_) (a' := ?_) #[true, true, true, true, true, true, true, true, true, true, true, true, true, true, false, false, false] rfl rfl (any_of HT_.out (by kernel_rfl)) (fun _ _ _ h => h) (Or.inl ⟨by rfl, ?_⟩) ?_ ?_
      rotate_left
      · intro w'
        go_simp
        with_reducible rfl
      rotate_left
      · simp only [Act.put, List.setIfInBounds_toArray, List.set_cons_zero, List.set_cons_succ]
        rfl
      exact hcont ⟨t', kv, ok, W1.heap.size⟩ _ ⟨HP.out.1, Mid.now HIN.out H3.out.1 H3.out.2.1 H3.out.2.2.1 H3.out.2.2.2 HP.out.2⟩
  case hcont =>
    rintro ⟨t', kv, ok, g⟩ W ⟨hraw, hM⟩
    simp only at hraw hM
    have HM := hid hM
    have HRW := hid hraw
    clear hM hraw hHeld HB
    obtain ⟨u, hu⟩ := t'.ptr_some
    have HU : Hid (t'.ptr = .pointer u) := hu
    simp only [hu]
    clear hu
    refine norm_ (a' := ?_) ?_ ?_
    rotate_left
    · simp only [putAll, Act.put, List.setIfInBounds_toArray, List.set_cons_zero, List.set_cons_succ]
      rfl
    refine pure_ (i := 14) (N := some 10) (v := ?_) (a' := ?_) #[true, true, true, true, true, true, true, true, true, true, true, true, true, true, true, false, false] rfl rfl (any_of HT_.out (by kernel_rfl)) (fun _ _ _ h => h) (Or.inl ⟨by rfl, ?_⟩) ?_ ?_
    rotate_left
    · intro w'
      go_simp
      with_reducible rfl
    rotate_left
    · simp only [Act.put, List.setIfInBounds_toArray, List.set_cons_zero, List.set_cons_succ]
      rfl
    have f0 : W.frozen? ⟨g, 0, none⟩ = false := HM.out.q.free 0
    have e0 : W.cell? ⟨g, 0, none⟩ = some (.int .i64 0) := HM.out.q.cell 0
    have f1 : W.frozen? ⟨g, 1, none⟩ = false := HM.out.q.free 1
    have e1 : W.cell? ⟨g, 1, none⟩ = some (.int .i64 0) := HM.out.q.cell 1
    have f2 : W.frozen? ⟨g, 2, none⟩ = false := HM.out.q.free 2
    have e2 : W.cell? ⟨g, 2, none⟩ = some (.int .i64 0) := HM.out.q.cell 2
    refine last_ (i := 15) (N := none) #[true, true, true, true, true, true, true, true, true, true, true, true, true, true, true, true, false] rfl rfl (one_of HT_.out (by kernel_rfl)) (by decide) (fun K_ hK => ?_)
    refine skip_ (w1 := ?_) (by rfl) rfl ?_ ?_
    rotate_left
    · go_simp
      rfl
    refine hK.out _ _ ?_
    clear hK K_
    refine pure_ (i := 16) (N := some 12) (v := ?_) (a' := ?_) #[true, true, true, true, true, true, true, true, true, true, true, true, true, true, true, true, true] rfl rfl (any_of HT_.out (by kernel_rfl)) (fun _ _ _ h => h) (Or.inl ⟨by rfl, ?_⟩) ?_ ?_
    rotate_left
    · intro w'
      go_simp
      with_reducible rfl
    rotate_left
    · simp only [Act.put, List.setIfInBounds_toArray, List.set_cons_zero, List.set_cons_succ]
      rfl
    refine done_ (done_of HT_.out (by kernel_rfl)) ?_
    clear HT_ HW_
    clear e0 e1 e2 f0 f1 f2
    have H5 : Hid (Blk (box3 W g kv) g (kvc kv) 74 ∧ Blk (box3 W g kv) w.heap.size Z3 74 ∧ Blk (box3 W g kv) R #[t.ptr] 86 ∧ Put t t' w (box3 W g kv) ∧ R ≠ g ∧ R ≠ w.heap.size ∧ w.heap.size ≠ g) := by
      have hg := HM.out.gt
      have hr := HT.out.lt.1
      exact ⟨blk_box3 (kv' := ⟨0, 0, 0⟩) HM.out.q, HM.out.p.fr fr_box3 (by omega), (HT.out.root.fr HM.out.put.fr HT.out.out).fr fr_box3 (by omega), HM.out.put.upto fr_box3 (fun k e => by subst e; exact ⟨by omega, HM.out.qo⟩), by omega, by omega, by omega⟩
    change Exit.then _ _ _ _ (box3 W g kv)
    generalize box3 W g kv = w5 at H5 ⊢
    have r0 : w5.cell? ⟨R, 0, none⟩ = some t.ptr := H5.out.2.2.1.cell 0
    have r1 : w5.frozen? ⟨R, 0, none⟩ = false := H5.out.2.2.1.free 0
    have d0 : w5.cell? ⟨g, 0, none⟩ = some (.int .i64 kv.lo) := H5.out.1.cell 0
    have e0 : w5.cell? ⟨w.heap.size, 0, none⟩ = some (.int .i64 0) := H5.out.2.1.cell 0
    have f0 : w5.frozen? ⟨w.heap.size, 0, none⟩ = false := H5.out.2.1.free 0
    have d1 : w5.cell? ⟨g, 1, none⟩ = some (.int .i64 kv.hi) := H5.out.1.cell 1
    have e1 : w5.cell? ⟨w.heap.size, 1, none⟩ = some (.int .i64 0) := H5.out.2.1.cell 1
    have f1 : w5.frozen? ⟨w.heap.size, 1, none⟩ = false := H5.out.2.1.free 1
    have d2 : w5.cell? ⟨g, 2, none⟩ = some (.int .i64 kv.v) := H5.out.1.cell 2
    have e2 : w5.cell? ⟨w.heap.size, 2, none⟩ = some (.int .i64 0) := H5.out.2.1.cell 2
    have f2 : w5.frozen? ⟨w.heap.size, 2, none⟩ = false := H5.out.2.1.free 2
    have n1 : R ≠ g := H5.out.2.2.2.2.1
    have n2 : R ≠ w.heap.size := H5.out.2.2.2.2.2.1
    have n3 : w.heap.size ≠ g := H5.out.2.2.2.2.2.2
    have n4 : g ≠ R := n1.symm
    have n5 : w.heap.size ≠ R := n2.symm
    have n6 : g ≠ w.heap.size := n3.symm
    go_wp2_with fail
    have HD : Hid (Blk (w5.setCell ⟨R, 0, none⟩ (.pointer u)) w.heap.size Z3 74) := H5.out.2.1.other _ _ n5
    clear r0 r1 d0 d1 d2 e0 e1 e2 f0 f1 f2
    have z0 : (box3 (w5.setCell ⟨R, 0, none⟩ (.pointer u)) w.heap.size kv).cell? ⟨w.heap.size, 0, none⟩ = some (.int .i64 kv.lo) := (blk_box3 (kv := kv) (kv' := ⟨0, 0, 0⟩) HD.out).cell 0
    have z1 : (box3 (w5.setCell ⟨R, 0, none⟩ (.pointer u)) w.heap.size kv).cell? ⟨w.heap.size, 1, none⟩ = some (.int .i64 kv.hi) := (blk_box3 (kv := kv) (kv' := ⟨0, 0, 0⟩) HD.out).cell 1
    have z2 : (box3 (w5.setCell ⟨R, 0, none⟩ (.pointer u)) w.heap.size kv).cell? ⟨w.heap.size, 2, none⟩ = some (.int .i64 kv.v) := (blk_box3 (kv := kv) (kv' := ⟨0, 0, 0⟩) HD.out).cell 2
    unfold box3 at z0 z1 z2
    refine bodyPost_ret (v := .tuple #[.agg #[.int .i64 kv.lo, .int .i64 kv.hi, .int .i64 kv.v], .bool ok]) (by simp [results, Try.results34, go_sem, z0, z1, z2]) rfl ?_
    have hraw := HRW.out
    have hgood : T.Good t'.raw := by have h_ := (T.good_ins ⟨lo, hi, v⟩ true HT.out.good.good).1; rw [hraw] at h_; exact h_
    have hq := Put.turned HT.out H5.out.2.2.2.1 hgood (w' := box3 (w5.setCell ⟨R, 0, none⟩ (.pointer u)) w.heap.size kv) (Z := (· = w.heap.size)) (by rw [HU.out]; exact fr_box3) (fun k e => by subst e; exact ⟨Nat.le_refl _, HM.out.po⟩)
    exact ⟨t', by rw [hraw], by rw [hraw], hq.1, hq.2.1, hq.2.2⟩

set_option maxHeartbeats 8000000 in
set_option maxRecDepth 100000 in
theorem tAdd_any (base R : Nat) (t : N) (lo hi v : Int) (hlh : lo ≤ hi) (w : World) (hT : Tree base R t w) (ht : t.raw.tall ≤ 4294950000) :
    Calls Try.prog 35 #[.pointer (some ⟨R, 0, none⟩), .int .i64 lo, .int .i64 hi, .int .i64 v] w (Turned base R t (T.ins ⟨lo, hi, v⟩ false t.raw) w) := by
  have HT := hid hT
  have HS : Hid (t.raw.tall ≤ 4294950000 ∧ lo ≤ hi) := ⟨ht, hlh⟩
  have HB0 : Hid (Below w.heap.size w (w.alloc (.cells #[.int .i64 0, .int .i64 0, .int .i64 0] 74)) ∧ Blk (w.alloc (.cells #[.int .i64 0, .int .i64 0, .int .i64 0] 74)) w.heap.size Z3 74) := ⟨(Below.refl _ _).alloc (Nat.le_refl _) _, Blk.new _ _ _⟩
  clear hT ht hlh
  go_enter Try.func35, Try.ntmps35
  go_wp2_with fail
  generalize w.alloc (.cells #[.int .i64 0, .int .i64 0, .int .i64 0] 74) = W0 at HB0 ⊢
  have HIN := hid HT.out.lt.2
  have HR : Hid (∀ W, Below w.heap.size w W → W.cell? ⟨R, 0, none⟩ = some t.ptr) := fun W hb => (HT.out.below hb).root.cell 0
  have c0 : W0.cell? ⟨R, 0, none⟩ = some t.ptr := HR.out _ HB0.out.1
  refine start_ (n := 17) (S := fun w' => w'.cell? ⟨R, 0, none⟩ = some (t.ptr)) (ds := [15]) #[false, false, false, false, false, false, false, false, false, false, false, false, false, false, false, false, false] (by kernel_rfl) rfl rfl c0 (fun hHeld => ?_)
  refine with_tabW add1.tab add1.bits (fun HT_ HW_ => ?_)
  clear c0
  have HB := hid (And.intro (Below.drew HB0.out.1) (show Blk W0.drew w.heap.size Z3 74 from HB0.out.2))
  clear HB0
  generalize W0.drew = W1 at HB hHeld ⊢
  refine pure_ (i := 0) (N := some 14) (v := ?_) (a' := ?_) #[true, false, false, false, false, false, false, false, false, false, false, false, false, false, false, false, false] rfl rfl (any_of HT_.out (by kernel_rfl)) (fun _ _ _ h => h) (Or.inl ⟨by rfl, ?_⟩) ?_ ?_
  rotate_left
  · intro w'
    go_simp
    with_reducible rfl
  rotate_left
  · simp only [Act.put, List.setIfInBounds_toArray, List.set_cons_zero, List.set_cons_succ]
    rfl
  refine pure_ (i := 1) (N := some 15) (v := ?_) (a' := ?_) #[true, true, false, false, false, false, false, false, false, false, false, false, false, false, false, false, false] rfl rfl (any_of HT_.out (by kernel_rfl)) (fun _ _ _ h => h) (Or.inl ⟨by rfl, ?_⟩) ?_ ?_
  rotate_left
  · intro w'
    go_simp
    with_reducible rfl
  rotate_left
  · simp only [Act.put, List.setIfInBounds_toArray, List.set_cons_zero, List.set_cons_succ]
    rfl
  refine pure_ (i := 2) (N := some 16) (v := ?_) (a' := ?_) #[true, true, true, false, false, false, false, false, false, false, false, false, false, false, false, false, false] rfl rfl (any_of HT_.out (by kernel_rfl)) (fun _ _ _ h => h) (Or.inl ⟨by rfl, ?_⟩) ?_ ?_
  rotate_left
  · intro w'
    go_simp
    with_reducible rfl
  rotate_left
  · simp only [Act.put, List.setIfInBounds_toArray, List.set_cons_zero, List.set_cons_succ]
    rfl
  refine take_ (i := 3) (N := some 17) (v := ?_) (a' := ?_) #[true, true, true, true, false, false, false, false, false, false, false, false, false, false, false, false, false] rfl rfl (take_ofW HT_.out HW_.out (by kernel_rfl)) (fun _ _ _ h => h) (Or.inl ⟨by rfl, ?_⟩) hHeld ?_ ?_
  rotate_left
  · intro w' s0
    go_simp
    with_reducible rfl
  rotate_left
  · simp only [Act.put, List.setIfInBounds_toArray, List.set_cons_zero, List.set_cons_succ]
    rfl
  refine pure_ (i := 4) (N := some 18) (v := ?_) (a' := ?_) #[true, true, true, true, true, false, false, false, false, false, false, false, false, false, false, false, false] rfl rfl (any_of HT_.out (by kernel_rfl)) (fun _ _ _ h => h) (Or.inl ⟨by rfl, ?_⟩) ?_ ?_
  rotate_left
  · intro w'
    go_simp
    with_reducible rfl
  rotate_left
  · simp only [Act.put, List.setIfInBounds_toArray, List.set_cons_zero, List.set_cons_succ]
    rfl
  refine pure_ (i := 5) (N := some 19) (v := ?_) (a' := ?_) #[true, true, true, true, true, true, false, false, false, false, false, false, false, false, false, false, false] rfl rfl (any_of HT_.out (by kernel_rfl)) (fun _ _ _ h => h) (Or.inl ⟨by rfl, ?_⟩) ?_ ?_
  rotate_left
  · intro w'
    go_simp
    with_reducible rfl
  rotate_left
  · simp only [Act.put, List.setIfInBounds_toArray, List.set_cons_zero, List.set_cons_succ]
    rfl
  refine pure_ (i := 7) (N := some 21) (v := ?_) (a' := ?_) #[true, true, true, true, true, true, false, true, false, false, false, false, false, false, false, false, false] rfl rfl (any_of HT_.out (by kernel_rfl)) (fun _ _ _ h => h) (Or.inl ⟨by rfl, ?_⟩) ?_ ?_
  rotate_left
  · intro w'
    go_simp
    with_reducible rfl
  rotate_left
  · simp only [Act.put, List.setIfInBounds_toArray, List.set_cons_zero, List.set_cons_succ]
    rfl
  refine join_ (σ := N × S × Bool × Nat) 3 #[true, true, true, true, true, true, true, true, true, true, true, true, true, true, false, false, false] (fun s => [(20, .agg #[.int .i64 lo, .int .i64 hi]), (22, .tuple #[s.1.ptr, .agg #[.int .i64 s.2.1.lo, .int .i64 s.2.1.hi, .int .i64 s.2.1.v], .bool s.2.2.1]), (13, .tuple #[s.1.ptr, .agg #[.int .i64 s.2.1.lo, .int .i64 s.2.1.hi, .int .i64 s.2.1.v], .bool s.2.2.1]), (23, s.1.ptr), (24, .agg #[.int .i64 s.2.1.lo, .int .i64 s.2.1.hi, .int .i64 s.2.1.v]), (25, .bool s.2.2.1), (11, .pointer (some ⟨s.2.2.2, 0, none⟩))]) (fun s W => T.ins ⟨lo, hi, v⟩ false t.raw = (s.1.raw, s.2.1, s.2.2.1) ∧ Mid t s.1 s.2.2.2 w W) ?hcont ?hord
  case hord =>
    intro hcont
    refine two_ (i := 6) (j := 13) (Ni := some 20) (Nj := some 11) #[true, true, true, true, true, true, true, true, false, false, false, false, false, false, false, false, false] #[true, true, true, true, true, true, false, true, false, false, false, false, false, true, false, false, false] rfl rfl rfl rfl (two_of HT_.out (by kernel_rfl)) (by decide) (by decide) (fun K_ hK => ?_) (fun K_ hK => ?_)
    · refine call_ (N := some 20) 51 #[.int .i64 lo, .int .i64 hi] (by rfl) rfl (by go_simp) ?_
      have HCall_ := newIntrvl_any lo hi HS.out.2 W1
      refine HCall_.mono ?_
      clear HCall_
      rintro e w1 ⟨rfl, hb⟩
      have H1 : Hid (Below w.heap.size w w1 ∧ Blk w1 w.heap.size Z3 74) := ⟨below_at HB.out.1 hb HB.out.1.size, HB.out.2.fr (Fr.new (Z := fun _ => False) hb) (fun h => h)⟩
      clear hb
      refine ⟨_, rfl, ?_⟩
      refine hK.out _ _ (HR.out _ H1.out.1) (fun hHeld => ?_)
      clear hK K_
      clear HB
      refine norm_ (a' := ?_) ?_ ?_
      rotate_left
      · show Act.put _ (some 20) _ = _
        simp only [Act.put, List.setIfInBounds_toArray, List.set_cons_zero, List.set_cons_succ]
        rfl
      refine two_ (i := 8) (j := 13) (Ni := some 22) (Nj := some 11) #[true, true, true, true, true, true, true, true, true, false, false, false, false, false, false, false, false] #[true, true, true, true, true, true, true, true, false, false, false, false, false, true, false, false, false] rfl rfl rfl rfl (two_of HT_.out (by kernel_rfl)) (by decide) (by decide) (fun K_ hK => ?_) (fun K_ hK => ?_)
      · refine call_ (N := some 22) 50 #[t.ptr, .agg #[.int .i64 lo, .int .i64 hi], .int .i64 v, .bool false] (by rfl) rfl (by go_simp) ?_
        have HCall_ := insert_any ⟨lo, hi, v⟩ false t w1 (HT.out.good.to H1.out.1) HS.out.1
        refine HCall_.mono ?_
        clear HCall_
        rintro e w2 ⟨t', kv, ok, rfl, hraw, hput⟩
        have HP := hid (And.intro hraw hput)
        clear hraw hput
        refine ⟨_, rfl, ?_⟩
        refine hK.out _ _ ((HT.out.root.fr ((HP.out.2).since (H1.out.1)).fr HT.out.out).cell 0) (fun hHeld => ?_)
        clear hK K_
        refine norm_ (a' := ?_) ?_ ?_
        rotate_left
        · show Act.put _ (some 22) _ = _
          simp only [Act.put, List.setIfInBounds_toArray, List.set_cons_zero, List.set_cons_succ]
          rfl
        refine pure_ (i := 9) (N := some 13) (v := ?_) (a' := ?_) #[true, true, true, true, true, true, true, true, true, true, false, false, false, false, false, false, false] rfl rfl (any_of HT_.out (by kernel_rfl)) (fun _ _ _ h => h) (Or.inl ⟨by rfl, ?_⟩) ?_ ?_
        rotate_left
        · intro w'
          go_simp
          with_reducible rfl
        rotate_left
        · simp only [Act.put, List.setIfInBounds_toArray, List.set_cons_zero, List.set_cons_succ]
          rfl
        refine pure_ (i := 10) (N := some 23) (v := ?_) (a' := ?_) #[true, true, true, true, true, true, true, true, true, true, true, false, false, false, false, false, false] rfl rfl (any_of HT_.out (by kernel_rfl)) (fun _ _ _ h => h) (Or.inl ⟨by rfl, ?_⟩) ?_ ?_
        rotate_left
        · intro w'
          go_simp
          with_reducible rfl
        rotate_left
        · simp only [Act.put, List.setIfInBounds_toArray, List.set_cons_zero, List.set_cons_succ]
          rfl
        refine pure_ (i := 11) (N := some 24) (v := ?_) (a' := ?_) #[true, true, true, true, true, true, true, true, true, true, true, true, false, false, false, false, false] rfl rfl (any_of HT_.out (by kernel_rfl)) (fun _ _ _ h => h) (Or.inl ⟨by rfl, ?_⟩) ?_ ?_
        rotate_left
        · intro w'
          go_simp
          with_reducible rfl
        rotate_left
        · simp only [Act.put, List.setIfInBounds_toArray, List.set_cons_zero, List.set_cons_succ]
          rfl
        refine pure_ (i := 12) (N := some 25) (v := ?_) (a' := ?_) #[true, true, true, true, true, true, true, true, true, true, true, true, true, false, false, false, false] rfl rfl (any_of HT_.out (by kernel_rfl)) (fun _ _ _ h => h) (Or.inl ⟨by rfl, ?_⟩) ?_ ?_
        rotate_left
        · intro w'
          go_simp
          with_reducible rfl
        rotate_left
        · simp only [Act.put, List.setIfInBounds_toArray, List.set_cons_zero, List.set_cons_succ]
          rfl
        refine one_ (i := 13) (N := some 11) #[true, true, true, true, true, true, true, true, true, true, true, true, true, true, false, false, false] rfl rfl (one_of HT_.out (by kernel_rfl)) (by decide) (fun K_ hK => ?_)
        refine value_ (w1 := ?_) (v := ?_) (by rfl) rfl ?_ ?_
        rotate_left 2
        · go_simp
          constructor
          · rfl
          · rfl
        refine hK.out _ _ (by have := Mid.later HIN.out H1.out.1 H1.out.2 HP.out.2; exact (HT.out.root.fr this.put.fr HT.out.out).cell 0) (fun hHeld => ?_)
        clear hK K_
        refine norm_ (a' := ?_) ?_ ?_
        rotate_left
        · show Act.put _ (some 11) _ = _
          simp only [Act.put, List.setIfInBounds_toArray, List.set_cons_zero, List.set_cons_succ]
          rfl
        exact hcont ⟨t', kv, ok, w2.heap.size⟩ _ ⟨HP.out.1, Mid.later HIN.out H1.out.1 H1.out.2 HP.out.2⟩
      · refine value_ (w1 := ?_) (v := ?_) (by rfl) rfl ?_ ?_
        rotate_left 2
        · go_simp
          constructor
          · rfl
          · rfl
        refine hK.out _ _ (HR.out _ (H1.out.1.alloc H1.out.1.size _)) (fun hHeld => ?_)
        clear hK K_
        refine norm_ (a' := ?_) ?_ ?_
        rotate_left
        · show Act.put _ (some 11) _ = _
          simp only [Act.put, List.setIfInBounds_toArray, List.set_cons_zero, List.set_cons_succ]
          rfl
        have H2 : Hid (Below w.heap.size w (w1.alloc (.cells #[.int .i64 0, .int .i64 0, .int .i64 0] 74)) ∧ Blk (w1.alloc (.cells #[.int .i64 0, .int .i64 0, .int .i64 0] 74)) w.heap.size Z3 74 ∧ Blk (w1.alloc (.cells #[.int .i64 0, .int .i64 0, .int .i64 0] 74)) w1.heap.size Z3 74 ∧ w.heap.size < w1.heap.size) := ⟨H1.out.1.alloc H1.out.1.size _, H1.out.2.alloc _, Blk.new _ _ _, H1.out.2.lt⟩
        generalize w1.alloc (.cells #[.int .i64 0, .int .i64 0, .int .i64 0] 74) = w2 at H2 hHeld ⊢
        refine one_ (i := 8) (N := some 22) #[true, true, true, true, true, true, true, true, true, false, false, false, false, true, false, false, false] rfl rfl (one_of HT_.out (by kernel_rfl)) (by decide) (fun K_ hK => ?_)
        refine call_ (N := some 22) 50 #[t.ptr, .agg #[.int .i64 lo, .int .i64 hi], .int .i64 v, .bool false] (by rfl) rfl (by go_simp) ?_
        have HCall_ := insert_any ⟨lo, hi, v⟩ false t w2 (HT.out.good.to H2.out.1) HS.out.1
        refine HCall_.mono ?_
        clear HCall_
        rintro e w3 ⟨t', kv, ok, rfl, hraw, hput⟩
        have HP := hid (And.intro hraw hput)
        clear hraw hput
        refine ⟨_, rfl, ?_⟩
        refine hK.out _ _ ((HT.out.root.fr ((HP.out.2).since (H2.out.1)).fr HT.out.out).cell 0) (fun hHeld => ?_)
        clear hK K_
        refine norm_ (a' := ?_) ?_ ?_
        rotate_left
        · show Act.put _ (some 22) _ = _
          simp only [Act.put, List.setIfInBounds_toArray, List.set_cons_zero, List.set_cons_succ]
          rfl
        refine pure_ (i := 9) (N := some 13) (v := ?_) (a' := ?_) #[true, true, true, true, true, true, true, true, true, true, false, false, false, true, false, false, false] rfl rfl (any_of HT_.out (by kernel_rfl)) (fun _ _ _ h => h) (Or.inl ⟨by rfl, ?_⟩) ?_ ?_
        rotate_left
        · intro w'
          go_simp
          with_reducible rfl
        rotate_left
        · simp only [Act.put, List.setIfInBounds_toArray, List.set_cons_zero, List.set_cons_succ]
          rfl
        refine pure_ (i := 10) (N := some 23) (v := ?_) (a' := ?_) #[true, true, true, true, true, true, true, true, true, true, true, false, false, true, false, false, false] rfl rfl (any_of HT_.out (by kernel_rfl)) (fun _ _ _ h => h) (Or.inl ⟨by rfl, ?_⟩) ?_ ?_
        rotate_left
        · intro w'
          go_simp
          with_reducible rfl
        rotate_left
        · simp only [Act.put, List.setIfInBounds_toArray, List.set_cons_zero, List.set_cons_succ]
          rfl
        refine pure_ (i := 11) (N := some 24) (v := ?_) (a' := ?_) #[true, true, true, true, true, true, true, true, true, true, true, true, false, true, false, false, false] rfl rfl (any_of HT_.out (by kernel_rfl)) (fun _ _ _ h => h) (Or.inl ⟨by rfl, ?_⟩) ?_ ?_
        rotate_left
        · intro w'
          go_simp
          with_reducible rfl
        rotate_left
        · simp only [Act.put, List.setIfInBounds_toArray, List.set_cons_zero, List.set_cons_succ]
          rfl
        refine pure_ (i := 12) (N := some 25) (v := ?_) (a' := ?_) #[true, true, true, true, true, true, true, true, true, true, true, true, true, true, false, false, false] rfl rfl (any_of HT_.out (by kernel_rfl)) (fun _ _ _ h => h) (Or.inl ⟨by rfl, ?_⟩) ?_ ?_
        rotate_left
        · intro w'
          go_simp
          with_reducible rfl
        rotate_left
        · simp only [Act.put, List.setIfInBounds_toArray, List.set_cons_zero, List.set_cons_succ]
          rfl
        exact hcont ⟨t', kv, ok, w1.heap.size⟩ _ ⟨HP.out.1, Mid.now HIN.out H2.out.1 H2.out.2.1 H2.out.2.2.1 H2.out.2.2.2 HP.out.2⟩
    · refine value_ (w1 := ?_) (v := ?_) (by rfl) rfl ?_ ?_
      rotate_left 2
      · go_simp
        constructor
        · rfl
        · rfl
      refine hK.out _ _ (HR.out _ (HB.out.1.alloc HB.out.1.size _)) (fun hHeld => ?_)
      clear hK K_
      refine norm_ (a' := ?_) ?_ ?_
      rotate_left
      · show Act.put _ (some 11) _ = _
        simp only [Act.put, List.setIfInBounds_toArray, List.set_cons_zero, List.set_cons_succ]
        rfl
      have H2 : Hid (Below w.heap.size w (W1.alloc (.cells #[.int .i64 0, .int .i64 0, .int .i64 0] 74)) ∧ Blk (W1.alloc (.cells #[.int .i64 0, .int .i64 0, .int .i64 0] 74)) w.heap.size Z3 74 ∧ Blk (W1.alloc (.cells #[.int .i64 0, .int .i64 0, .int .i64 0] 74)) W1.heap.size Z3 74 ∧ w.heap.size < W1.heap.size) := ⟨HB.out.1.alloc HB.out.1.size _, HB.out.2.alloc _, Blk.new _ _ _, HB.out.2.lt⟩
      generalize W1.alloc (.cells #[.int .i64 0, .int .i64 0, .int .i64 0] 74) = w2 at H2 hHeld ⊢
      refine one_ (i := 6) (N := some 20) #[true, true, true, true, true, true, true, true, false, false, false, false, false, true, false, false, false] rfl rfl (one_of HT_.out (by kernel_rfl)) (by decide) (fun K_ hK => ?_)
      refine call_ (N := some 20) 51 #[.int .i64 lo, .int .i64 hi] (by rfl) rfl (by go_simp) ?_
      have HCall_ := newIntrvl_any lo hi HS.out.2 w2
      refine HCall_.mono ?_
      clear HCall_
      rintro e w3 ⟨rfl, hb⟩
      have H3 : Hid (Below w.heap.size w w3 ∧ Blk w3 w.heap.size Z3 74 ∧ Blk w3 W1.heap.size Z3 74 ∧ w.heap.size < W1.heap.size) := ⟨below_at H2.out.1 hb H2.out.1.size, H2.out.2.1.fr (Fr.new (Z := fun _ => False) hb) (fun h => h), H2.out.2.2.1.fr (Fr.new (Z := fun _ => False) hb) (fun h => h), H2.out.2.2.2⟩
      clear hb
      refine ⟨_, rfl, ?_⟩
      refine hK.out _ _ (HR.out _ H3.out.1) (fun hHeld => ?_)
      clear hK K_
      refine norm_ (a' := ?_) ?_ ?_
      rotate_left
      · show Act.put _ (some 20) _ = _
        simp only [Act.put, List.setIfInBounds_toArray, List.set_cons_zero, List.set_cons_succ]
        rfl
      refine one_ (i := 8) (N := some 22) #[true, true, true, true, true, true, true, true, true, false, false, false, false, true, false, false, false] rfl rfl (one_of HT_.out (by kernel_rfl)) (by decide) (fun K_ hK => ?_)
      refine call_ (N := some 22) 50 #[t.ptr, .agg #[.int .i64 lo, .int .i64 hi], .int .i64 v, .bool false] (by rfl) rfl (by go_simp) ?_
      have HCall_ := insert_any ⟨lo, hi, v⟩ false t w3 (HT.out.good.to H3.out.1) HS.out.1
      refine HCall_.mono ?_
      clear HCall_
      rintro e w4 ⟨t', kv, ok, rfl, hraw, hput⟩
      have HP := hid (And.intro hraw hput)
      clear hraw hput
      refine ⟨_, rfl, ?_⟩
      refine hK.out _ _ ((HT.out.root.fr ((HP.out.2).since (H3.out.1)).fr HT.out.out).cell 0) (fun hHeld => ?_)
      clear hK K_
      refine norm_ (a' := ?_) ?_ ?_
      rotate_left
      · show Act.put _ (some 22) _ = _
        simp only [Act.put, List.setIfInBounds_toArray, List.set_cons_zero, List.set_cons_succ]
        rfl
      refine pure_ (i := 9) (N := some 13) (v := ?_) (a' := ?_) #[true, true, true, true, true, true, true, true, true, true, false, false, false, true, false, false, false] rfl rfl (any_of HT_.out (by kernel_rfl)) (fun _ _ _ h => h) (Or.inl ⟨by rfl, ?_⟩) ?_ ?_
      rotate_left
      · intro w'
        go_simp
        with_reducible rfl
      rotate_left
      · simp only [Act.put, List.setIfInBounds_toArray, List.set_cons_zero, List.set_cons_succ]
        rfl
      refine pure_ (i := 10) (N := some 23) (v := ?_) (a' := ?_) #[true, true, true, true, true, true, true, true, true, true, true, false, false, true, false, false, false] rfl rfl (any_of HT_.out (by kernel_rfl)) (fun _ _ _ h => h) (Or.inl ⟨by rfl, ?_⟩) ?_ ?_
      rotate_left
      · intro w'
        go_simp
        with_reducible rfl
      rotate_left
      · simp only [Act.put, List.setIfInBounds_toArray, List.set_cons_zero, List.set_cons_succ]
        rfl
      refine pure_ (i := 11) (N := some 24) (v := ?_) (a' := ?_) #[true, true, true, true, true, true, true, true, true, true, true, true, false, true, false, false, false] rfl rfl (any_of HT_.out (by kernel_rfl)) (fun _ _ _ h => h) (Or.inl ⟨by rfl, ?_⟩) ?_ ?_
      rotate_left
      · intro w'
        go_simp
        with_reducible rfl
      rotate_left
      · simp only [Act.put, List.setIfInBounds_toArray, List.set_cons_zero, List.set_cons_succ]
        rfl
      refine pure_ (i := 12) (N := some 25) (v := ?_) (a' := ?_) #[true, true, true, true, true, true, true, true, true, true, true, true, true, true, false, false, false] rfl rfl (any_of HT_.out (by kernel_rfl)) (fun _ _ _ h => h) (Or.inl ⟨by rfl, ?_⟩) ?_ ?_
      rotate_left
      · intro w'
        go_simp
        with_reducible rfl
      rotate_left
      · simp only [Act.put, List.setIfInBounds_toArray, List.set_cons_zero, List.set_cons_succ]
        rfl
      exact hcont ⟨t', kv, ok, W1.heap.size⟩ _ ⟨HP.out.1, Mid.now HIN.out H3.out.1 H3.out.2.1 H3.out.2.2.1 H3.out.2.2.2 HP.out.2⟩
  case hcont =>
    rintro ⟨t', kv, ok, g⟩ W ⟨hraw, hM⟩
    simp only at hraw hM
    have HM := hid hM
    have HRW := hid hraw
    clear hM hraw hHeld HB
    obtain ⟨u, hu⟩ := t'.ptr_some
    have HU : Hid (t'.ptr = .pointer u) := hu
    simp only [hu]
    clear hu
    refine norm_ (a' := ?_) ?_ ?_
    rotate_left
    · simp only [putAll, Act.put, List.setIfInBounds_toArray, List.set_cons_zero, List.set_cons_succ]
      rfl
    refine pure_ (i := 14) (N := some 10) (v := ?_) (a' := ?_) #[true, true, true, true, true, true, true, true, true, true, true, true, true, true, true, false, false] rfl rfl (any_of HT_.out (by kernel_rfl)) (fun _ _ _ h => h) (Or.inl ⟨by rfl, ?_⟩) ?_ ?_
    rotate_left
    · intro w'
      go_simp
      with_reducible rfl
    rotate_left
    · simp only [Act.put, List.setIfInBounds_toArray, List.set_cons_zero, List.set_cons_succ]
      rfl
    have f0 : W.frozen? ⟨g, 0, none⟩ = false := HM.out.q.free 0
    have e0 : W.cell? ⟨g, 0, none⟩ = some (.int .i64 0) := HM.out.q.cell 0
    have f1 : W.frozen? ⟨g, 1, none⟩ = false := HM.out.q.free 1
    have e1 : W.cell? ⟨g, 1, none⟩ = some (.int .i64 0) := HM.out.q.cell 1
    have f2 : W.frozen? ⟨g, 2, none⟩ = false := HM.out.q.free 2
    have e2 : W.cell? ⟨g, 2, none⟩ = some (.int .i64 0) := HM.out.q.cell 2
    refine last_ (i := 15) (N := none) #[true, true, true, true, true, true, true, true, true, true, true, true, true, true, true, true, false] rfl rfl (one_of HT_.out (by kernel_rfl)) (by decide) (fun K_ hK => ?_)
    refine skip_ (w1 := ?_) (by rfl) rfl ?_ ?_
    rotate_left
    · go_simp
      rfl
    refine hK.out _ _ ?_
    clear hK K_
    refine pure_ (i := 16) (N := some 12) (v := ?_) (a' := ?_) #[true, true, true, true, true, true, true, true, true, true, true, true, true, true, true, true, true] rfl rfl (any_of HT_.out (by kernel_rfl)) (fun _ _ _ h => h) (Or.inl ⟨by rfl, ?_⟩) ?_ ?_
    rotate_left
    · intro w'
      go_simp
      with_reducible rfl
    rotate_left
    · simp only [Act.put, List.setIfInBounds_toArray, List.set_cons_zero, List.set_cons_succ]
      rfl
    refine done_ (done_of HT_.out (by kernel_rfl)) ?_
    clear HT_ HW_
    clear e0 e1 e2 f0 f1 f2
    have H5 : Hid (Blk (box3 W g kv) g (kvc kv) 74 ∧ Blk (box3 W g kv) w.heap.size Z3 74 ∧ Blk (box3 W g kv) R #[t.ptr] 86 ∧ Put t t' w (box3 W g kv) ∧ R ≠ g ∧ R ≠ w.heap.size ∧ w.heap.size ≠ g) := by
      have hg := HM.out.gt
      have hr := HT.out.lt.1
      exact ⟨blk_box3 (kv' := ⟨0, 0, 0⟩) HM.out.q, HM.out.p.fr fr_box3 (by omega), (HT.out.root.fr HM.out.put.fr HT.out.out).fr fr_box3 (by omega), HM.out.put.upto fr_box3 (fun k e => by subst e; exact ⟨by omega, HM.out.qo⟩), by omega, by omega, by omega⟩
    change Exit.then _ _ _ _ (box3 W g kv)
    generalize box3 W g kv = w5 at H5 ⊢
    have r0 : w5.cell? ⟨R, 0, none⟩ = some t.ptr := H5.out.2.2.1.cell 0
    have r1 : w5.frozen? ⟨R, 0, none⟩ = false := H5.out.2.2.1.free 0
    have d0 : w5.cell? ⟨g, 0, none⟩ = some (.int .i64 kv.lo) := H5.out.1.cell 0
    have e0 : w5.cell? ⟨w.heap.size, 0, none⟩ = some (.int .i64 0) := H5.out.2.1.cell 0
    have f0 : w5.frozen? ⟨w.heap.size, 0, none⟩ = false := H5.out.2.1.free 0
    have d1 : w5.cell? ⟨g, 1, none⟩ = some (.int .i64 kv.hi) := H5.out.1.cell 1
    have e1 : w5.cell? ⟨w.heap.size, 1, none⟩ = some (.int .i64 0) := H5.out.2.1.cell 1
    have f1 : w5.frozen? ⟨w.heap.size, 1, none⟩ = false := H5.out.2.1.free 1
    have d2 : w5.cell? ⟨g, 2, none⟩ = some (.int .i64 kv.v) := H5.out.1.cell 2
    have e2 : w5.cell? ⟨w.heap.size, 2, none⟩ = some (.int .i64 0) := H5.out.2.1.cell 2
    have f2 : w5.frozen? ⟨w.heap.size, 2, none⟩ = false := H5.out.2.1.free 2
    have n1 : R ≠ g := H5.out.2.2.2.2.1
    have n2 : R ≠ w.heap.size := H5.out.2.2.2.2.2.1
    have n3 : w.heap.size ≠ g := H5.out.2.2.2.2.2.2
    have n4 : g ≠ R := n1.symm
    have n5 : w.heap.size ≠ R := n2.symm
    have n6 : g ≠ w.heap.size := n3.symm
    go_wp2_with fail
    have HD : Hid (Blk (w5.setCell ⟨R, 0, none⟩ (.pointer u)) w.heap.size Z3 74) := H5.out.2.1.other _ _ n5
    clear r0 r1 d0 d1 d2 e0 e1 e2 f0 f1 f2
    have z0 : (box3 (w5.setCell ⟨R, 0, none⟩ (.pointer u)) w.heap.size kv).cell? ⟨w.heap.size, 0, none⟩ = some (.int .i64 kv.lo) := (blk_box3 (kv := kv) (kv' := ⟨0, 0, 0⟩) HD.out).cell 0
    have z1 : (box3 (w5.setCell ⟨R, 0, none⟩ (.pointer u)) w.heap.size kv).cell? ⟨w.heap.size, 1, none⟩ = some (.int .i64 kv.hi) := (blk_box3 (kv := kv) (kv' := ⟨0, 0, 0⟩) HD.out).cell 1
    have z2 : (box3 (w5.setCell ⟨R, 0, none⟩ (.pointer u)) w.heap.size kv).cell? ⟨w.heap.size, 2, none⟩ = some (.int .i64 kv.v) := (blk_box3 (kv := kv) (kv' := ⟨0, 0, 0⟩) HD.out).cell 2
    unfold box3 at z0 z1 z2
    refine bodyPost_ret (v := .tuple #[.agg #[.int .i64 kv.lo, .int .i64 kv.hi, .int .i64 kv.v], .bool ok]) (by simp [results, Try.results35, go_sem, z0, z1, z2]) rfl ?_
    have hraw := HRW.out
    have hgood : T.Good t'.raw := by have h_ := (T.good_ins ⟨lo, hi, v⟩ false HT.out.good.good).1; rw [hraw] at h_; exact h_
    have hq := Put.turned HT.out H5.out.2.2.2.1 hgood (w' := box3 (w5.setCell ⟨R, 0, none⟩ (.pointer u)) w.heap.size kv) (Z := (· = w.heap.size)) (by rw [HU.out]; exact fr_box3) (fun k e => by subst e; exact ⟨Nat.le_refl _, HM.out.po⟩)
    exact ⟨t', by rw [hraw], by rw [hraw], hq.1, hq.2.1, hq.2.2⟩
end Go.Proofs.Ytmnjkdbopafkfaa.Int
