/- AVL trees in memory: the walk through all, with the function that gathers keys and values. For every tree. -/
import Derived.Test.YtjlcebgfknfelaaAvlE
import Derived.Test.YtjlcebgfknfelaaRow
namespace Go.Proofs.Ytjlcebgfknfelaa.Avl
open Go Go.RowKit Go.Proofs.Ytjlcebgfknfelaa.Hk Go.Proofs.Ytjlcebgfknfelaa.AvlPure Go.Proofs.Ytjlcebgfknfelaa.Less Go.Proofs.Ytjlcebgfknfelaa.Row Go.Proofs.YtjlcebgfknfelaaW.PrintWords Go.Proofs.YtjlcebgfknfelaaW.PrintLast Go.Proofs.YtjlcebgfknfelaaW.PrintMore

theorem infoInt : (Try.prog.info? 3).map (fun i => (i.zero, i.size, i.bytes)) = some (some (.int .i64 0), 1, 8) := by kernel_rfl

/-- What has been gathered so far: x's variable, and its two rows, made since the heap was N0 blocks. -/
def Acc (N0 X : Nat) (val : Int) (okv : Bool) (ks vs : List Int) (w : World) : Prop :=
  ∃ K V, Blk w X #[.int .i64 val, .bool okv, K, V] 46 ∧ X < N0 ∧ N0 ≤ w.heap.size ∧
    (Kd.int .i64).R 3 w N0 (fun b => some b ≠ V.ownBlock) K ks ∧ (Kd.int .i64).R 3 w N0 (fun b => some b ≠ K.ownBlock) V vs

theorem Acc.drewN {N0 X : Nat} {val : Int} {okv : Bool} {ks vs : List Int} {w : World} (h : Acc N0 X val okv ks vs w) (n : Nat) : Acc N0 X val okv ks vs (w.drewN n) := by
  obtain ⟨K, V, h1, h2, h3, h4, h5⟩ := h
  exact ⟨K, V, h1, h2, h3, Kd.R_drewN h4 n, Kd.R_drewN h5 n⟩
theorem Acc.drew {N0 X : Nat} {val : Int} {okv : Bool} {ks vs : List Int} {w : World} (h : Acc N0 X val okv ks vs w) : Acc N0 X val okv ks vs w.drew := by
  obtain ⟨K, V, h1, h2, h3, h4, h5⟩ := h
  exact ⟨K, V, h1, h2, h3, Kd.R_drew h4, Kd.R_drew h5⟩

def clo.T : Bool × List (List Nat × List Nat) := (true, [([], []), ([0], [0]), ([], []), ([2], [2]), ([1, 3], [1, 3]), ([], []), ([5], [5]), ([], []), ([7], [7]), ([6, 8, 4], [6, 8]), ([0, 1, 2, 3, 4, 5, 6], []), ([10, 4, 9, 0, 1, 2, 3, 4, 5, 6], [4, 10]), ([0, 1, 2, 3, 4, 5, 6, 7, 8, 9, 10, 11], []), ([12, 9, 11, 0, 1, 2, 3, 4, 5, 6, 7, 8, 9, 10, 11], [9, 12])])
def clo.B : List Nat := [0, 1, 0, 4, 15, 0, 32, 0, 128, 511, 127, 2047, 4095, 8191]
theorem clo.tab : rtab .any (opsOf Try.f65 0) = clo.T := by kernel_rfl
theorem clo.bits : waitsOk clo.T.2 clo.B = true := by kernel_rfl

/-- What stands ahead of the appends: the world has grown by boxes alone. -/
def Pre (N0 X : Nat) (val : Int) (okv : Bool) (ks vs : List Int) (K V : Value) (w W : World) : Prop :=
  Blk W X #[.int .i64 val, .bool okv, K, V] 46 ∧ N0 ≤ W.heap.size ∧
    (Kd.int .i64).R 3 W N0 (fun b => some b ≠ V.ownBlock) K ks ∧ (Kd.int .i64).R 3 W N0 (fun b => some b ≠ K.ownBlock) V vs ∧ Fr (fun b => b = X ∨ N0 ≤ b) w W

section
variable {N0 X : Nat} {val : Int} {okv : Bool} {ks vs : List Int} {K V K1 V1 : Value} {k v : Int} {w W W1 : World}
theorem Pre.alloc (h : Pre N0 X val okv ks vs K V w W) (o : Obj) : Pre N0 X val okv ks vs K V w (W.alloc o) :=
  ⟨h.1.alloc o, by rw [alloc_size]; exact Nat.le_succ_of_le h.2.1, Kd.R_alloc h.2.2.1 o, Kd.R_alloc h.2.2.2.1 o, h.2.2.2.2.alloc o⟩
theorem Pre.cell2 (h : Pre N0 X val okv ks vs K V w W) : W.cell? ⟨X, 2, none⟩ = some K := h.1.cell 2
theorem Pre.cell3 (h : Pre N0 X val okv ks vs K V w W) : W.cell? ⟨X, 3, none⟩ = some V := h.1.cell 3

theorem own_ge {N0 : Nat} {e : Nat} {w : World} {ok : Nat → Prop} {v : Value} {xs : List Int} (h : (Kd.int .i64).R e w N0 ok v xs) : ∀ k, v.ownBlock = some k → N0 ≤ k ∧ k < w.heap.size := by
  obtain ⟨_, inner, ho, _⟩ := h
  exact ho.lt

/-- One of the rows is appended to. -/
theorem part_of {ks' : List Int} (hX : X < N0) (h : Pre N0 X val okv ks vs K V w W)
    (hR : (Kd.int .i64).R 3 W1 N0 (fun _ => True) K1 ks') (hg : W.grownBy W1 K.ownBlock) (hat : K1.ownBlock = K.ownBlock ∨ ∃ b, K1.ownBlock = some b ∧ W.heap.size ≤ b) :
    Blk W1 X #[.int .i64 val, .bool okv, K, V] 46 ∧ N0 ≤ W1.heap.size ∧
    (Kd.int .i64).R 3 W1 N0 (fun b => some b ≠ V.ownBlock) K1 ks' ∧ (Kd.int .i64).R 3 W1 N0 (fun b => some b ≠ K1.ownBlock) V vs ∧ Fr (fun b => b = X ∨ N0 ≤ b) w W1 := by
  obtain ⟨hB, hN, hK, hV, hf⟩ := h
  have kg := own_ge hK
  have vg := own_ge hV
  have ne : ∀ b, K1.ownBlock = some b → some b ≠ V.ownBlock := fun b hb hv => by
    rcases hat with e | ⟨b', e, hb'⟩
    · exact hK.1 b (e ▸ hb) hv
    · rw [e] at hb; injection hb with hb; have := (vg b hv.symm).2; omega
  exact ⟨(hg.block X hB.lt (fun e => by have := kg X e.symm; omega)).trans hB, Nat.le_trans hN hg.size, Kd.R_reok rfl hR ne,
    Kd.R_reok rfl (Kd.R_grown2 hV rfl hg (fun b hb e => hV.1 b e.symm hb.symm)) (fun b hb e => ne b e.symm hb.symm), grown_fr hf hg (fun k hk _ => .inr (kg k hk).1)⟩

/-- What stands when both boxes are laid and the keys are appended. -/
def Mid (N0 X : Nat) (val : Int) (okv : Bool) (ks vs : List Int) (K V K1 : Value) (k v : Int) (g : Nat) (w W : World) : Prop :=
  W.cell? ⟨g, 0, none⟩ = some (.int .i64 v) ∧ Blk W X #[.int .i64 val, .bool okv, K, V] 46 ∧ N0 ≤ W.heap.size ∧
    (Kd.int .i64).R 3 W N0 (fun b => some b ≠ V.ownBlock) K1 (ks ++ [k]) ∧ (Kd.int .i64).R 3 W N0 (fun b => some b ≠ K1.ownBlock) V vs ∧ Fr (fun b => b = X ∨ N0 ≤ b) w W

theorem box_cell (W : World) (v : Value) (t : TypeId) : (W.alloc (.cells #[v] t)).cell? ⟨W.heap.size, 0, none⟩ = some v := (Blk.new W #[v] t).cell 0

theorem box_cell' (W : World) (v : Value) (t : TypeId) {n : Nat} (hn : W.heap.size = n) : (W.alloc (.cells #[v] t)).cell? ⟨n, 0, none⟩ = some v := by subst hn; exact box_cell W v t

/-- Behind the second append. -/
theorem end_of (hX : X < N0) {g : Nat} (h : Mid N0 X val okv ks vs K V K1 k v g w W)
    (hR : (Kd.int .i64).R 3 W1 N0 (fun _ => True) V1 (vs ++ [v])) (hg : W.grownBy W1 V.ownBlock) (hat : V1.ownBlock = V.ownBlock ∨ ∃ b, V1.ownBlock = some b ∧ W.heap.size ≤ b) :
    Blk W1 X #[.int .i64 val, .bool okv, K, V] 46 ∧ Acc N0 X val okv (ks ++ [k]) (vs ++ [v]) ((W1.setCell ⟨X, 2, none⟩ K1).setCell ⟨X, 3, none⟩ V1) ∧
      Fr (fun b => b = X ∨ N0 ≤ b) w ((W1.setCell ⟨X, 2, none⟩ K1).setCell ⟨X, 3, none⟩ V1) := by
  obtain ⟨_, hB, hN, hK, hV, hf⟩ := h
  have kg := own_ge hK
  have vg := own_ge hV
  have v1g := own_ge hR
  have ne : ∀ b, V1.ownBlock = some b → some b ≠ K1.ownBlock := fun b hb hv => by
    rcases hat with e | ⟨b', e, hb'⟩
    · exact hV.1 b (e ▸ hb) hv
    · rw [e] at hb; injection hb with hb; have := (kg b hv.symm).2; omega
  have hB1 : Blk W1 X #[.int .i64 val, .bool okv, K, V] 46 := (hg.block X hB.lt (fun e => by have := vg X e.symm; omega)).trans hB
  have hK1 : (Kd.int .i64).R 3 W1 N0 (fun _ => True) K1 (ks ++ [k]) := Kd.R_mono (Kd.R_grown2 hK rfl hg (fun b hb e => hK.1 b e.symm hb.symm)) (fun _ _ => trivial)
  have hB2 : Blk ((W1.setCell ⟨X, 2, none⟩ K1).setCell ⟨X, 3, none⟩ V1) X #[.int .i64 val, .bool okv, K1, V1] 46 := (hB1.set 2 K1).set 3 V1
  have far : ∀ {v0 : Value} {xs : List Int}, (Kd.int .i64).R 3 W1 N0 (fun _ => True) v0 xs → (Kd.int .i64).R 3 ((W1.setCell ⟨X, 2, none⟩ K1).setCell ⟨X, 3, none⟩ V1) N0 (fun b => b ≠ X) v0 xs := fun h0 => by
    have h1 := Kd.R_reok (ok := fun b => b ≠ X) rfl h0 (fun b hb => by have := own_ge h0 b hb; omega)
    exact Kd.R_far (Kd.R_far h1 (fun _ h => h) _) (fun _ h => h) _
  refine ⟨hB1, ⟨K1, V1, hB2, hX, ?_, Kd.R_reok rfl (far hK1) (fun b hb e => ne b e.symm hb.symm), Kd.R_reok rfl (far hR) ne⟩, ?_⟩
  · have : N0 ≤ W1.heap.size := Nat.le_trans hN hg.size
    simpa [World.setCell] using this
  · exact ((grown_fr hf hg (fun k hk _ => .inr (vg k hk).1)).setCell (p := ⟨X, 2, none⟩) (fun _ => .inl rfl) K1).setCell (p := ⟨X, 3, none⟩) (fun _ => .inl rfl) V1
end

set_option maxHeartbeats 4000000 in
set_option maxRecDepth 100000 in
theorem avlDo1_any (N0 X : Nat) (val : Int) (okv : Bool) (ks vs : List Int) (k v : Int) (w : World) (hA : Acc N0 X val okv ks vs w) (hl : ks.length ≤ 1099511627776) (hl2 : vs.length ≤ 1099511627776) :
    Calls Try.prog 65 #[.int .i64 k, .int .i64 v, .pointer (some ⟨X, 0, none⟩)] w fun e w' => e = .returned (.tuple #[]) ∧ Acc N0 X val okv (ks ++ [k]) (vs ++ [v]) w' ∧ Fr (fun b => b = X ∨ N0 ≤ b) w w' := by
  obtain ⟨K, V, hB, hX, hN, hK, hV⟩ := hA
  obtain ⟨AK, cK, rfl⟩ := Kd.R_slice hK
  obtain ⟨AV, cV, rfl⟩ := Kd.R_slice hV
  have c2 : w.cell? ⟨X, 2, none⟩ = some (.slice AK ks.length cK) := hB.cell 2
  have c3 : w.cell? ⟨X, 3, none⟩ = some (.slice AV vs.length cV) := hB.cell 3
  have H : Hid (Pre N0 X val okv ks vs (.slice AK ks.length cK) (.slice AV vs.length cV) w w.drew) := ⟨hB, hN, Kd.R_drew hK, Kd.R_drew hV, (Fr.refl _ _).drew⟩
  have HN : Hid (X < N0) := hX
  clear hB hK hV hN hX
  go_enter Try.func65, Try.ntmps65
  refine start_ (n := 14) (S := fun w' => w'.cell? ⟨X, 2, none⟩ = some (.slice AK ks.length cK) ∧ w'.cell? ⟨X, 3, none⟩ = some (.slice AV vs.length cV)) (ds := [11, 13]) #[false, false, false, false, false, false, false, false, false, false, false, false, false, false] (by kernel_rfl) rfl rfl ⟨c2, c3⟩ (fun hHeld => ?_)
  refine with_tabW clo.tab clo.bits (fun HT_ HW_ => ?_)
  clear c2 c3
  generalize w.drew = W0 at H hHeld ⊢
  refine pure_ (i := 0) (N := some 5) (v := ?_) (a' := ?_) #[true, false, false, false, false, false, false, false, false, false, false, false, false, false] rfl rfl (any_of HT_.out (by kernel_rfl)) (fun _ _ _ h => h) (Or.inl ⟨by rfl, ?_⟩) ?_ ?_
  rotate_left
  · intro w'
    go_simp
    with_reducible rfl
  rotate_left
  · simp only [Act.put, List.setIfInBounds_toArray, List.set_cons_zero, List.set_cons_succ]
    rfl
  refine pure_ (i := 2) (N := some 7) (v := ?_) (a' := ?_) #[true, false, true, false, false, false, false, false, false, false, false, false, false, false] rfl rfl (any_of HT_.out (by kernel_rfl)) (fun _ _ _ h => h) (Or.inl ⟨by rfl, ?_⟩) ?_ ?_
  rotate_left
  · intro w'
    go_simp
    with_reducible rfl
  rotate_left
  · simp only [Act.put, List.setIfInBounds_toArray, List.set_cons_zero, List.set_cons_succ]
    rfl
  refine pure_ (i := 5) (N := some 10) (v := ?_) (a' := ?_) #[true, false, true, false, false, true, false, false, false, false, false, false, false, false] rfl rfl (any_of HT_.out (by kernel_rfl)) (fun _ _ _ h => h) (Or.inl ⟨by rfl, ?_⟩) ?_ ?_
  rotate_left
  · intro w'
    go_simp
    with_reducible rfl
  rotate_left
  · simp only [Act.put, List.setIfInBounds_toArray, List.set_cons_zero, List.set_cons_succ]
    rfl
  refine pure_ (i := 7) (N := some 12) (v := ?_) (a' := ?_) #[true, false, true, false, false, true, false, true, false, false, false, false, false, false] rfl rfl (any_of HT_.out (by kernel_rfl)) (fun _ _ _ h => h) (Or.inl ⟨by rfl, ?_⟩) ?_ ?_
  rotate_left
  · intro w'
    go_simp
    with_reducible rfl
  rotate_left
  · simp only [Act.put, List.setIfInBounds_toArray, List.set_cons_zero, List.set_cons_succ]
    rfl
  refine take_ (i := 1) (N := some 6) (v := ?_) (a' := ?_) #[true, true, true, false, false, true, false, true, false, false, false, false, false, false] rfl rfl (take_ofW HT_.out HW_.out (by kernel_rfl)) (fun _ _ _ h => h) (Or.inl ⟨by rfl, ?_⟩) hHeld ?_ ?_
  rotate_left
  · intro w' s0
    have s1 := s0.1
    have s2 := s0.2
    go_simp
    with_reducible rfl
  rotate_left
  · simp only [Act.put, List.setIfInBounds_toArray, List.set_cons_zero, List.set_cons_succ]
    rfl
  refine take_ (i := 6) (N := some 11) (v := ?_) (a' := ?_) #[true, true, true, false, false, true, true, true, false, false, false, false, false, false] rfl rfl (take_ofW HT_.out HW_.out (by kernel_rfl)) (fun _ _ _ h => h) (Or.inl ⟨by rfl, ?_⟩) hHeld ?_ ?_
  rotate_left
  · intro w' s0
    have s1 := s0.1
    have s2 := s0.2
    go_simp
    with_reducible rfl
  rotate_left
  · simp only [Act.put, List.setIfInBounds_toArray, List.set_cons_zero, List.set_cons_succ]
    rfl
  refine join_ (σ := Value × Nat × Nat) 4 #[true, true, true, true, true, true, true, true, true, false, true, false, false, false] (fun s => [(8, .slice (some ⟨s.2.1, 0, none⟩) 1 1), (9, s.1), (13, .slice (some ⟨s.2.2, 0, none⟩) 1 1), (15, .pointer (some ⟨X, 2, none⟩))]) (fun s W => Mid N0 X val okv ks vs (.slice AK ks.length cK) (.slice AV vs.length cV) s.1 k v s.2.2 w W) ?hcont ?hord
  case hcont =>
    rintro ⟨K1, g8, g13⟩ W hM
    have HM := hid hM
    obtain ⟨AK1, cK1, hq⟩ := Kd.R_slice hM.2.2.2.1
    rw [List.length_append, List.length_singleton] at hq
    replace hq : K1 = _ := hq
    subst hq
    clear hM H hHeld
    refine norm_ (a' := ?_) ?_ ?_
    rotate_left
    · simp only [putAll, Act.put, List.setIfInBounds_toArray, List.set_cons_zero, List.set_cons_succ]
      rfl
    refine one_ (i := 9) (N := some 14) #[true, true, true, true, true, true, true, true, true, true, true, false, false, false] rfl rfl (one_of HT_.out (by kernel_rfl)) (by decide) (fun K_ hK => ?_)
    refine append_int rfl (.tmp 11) (.tmp 13) 24 3 rfl Try.underlying24 infoInt N0 (.slice AV vs.length cV) vs v _ W rfl HM.out.2.2.2.2.1 ⟨g13, 0, none⟩ 1 rfl HM.out.1 (by omega) HM.out.2.2.1 ?_
    intro V1 W1 hR hg hat
    have HE := hid (end_of HN.out HM.out hR hg hat)
    obtain ⟨AV1, cV1, hq⟩ := Kd.R_slice hR
    rw [List.length_append, List.length_singleton] at hq
    subst hq
    refine hK.out _ _ ⟨HE.out.1.cell 2, HE.out.1.cell 3⟩ (fun hHeld => ?_)
    clear hK K_
    have e2 := hHeld.1
    have e3 := hHeld.2
    have f2 : W1.frozen? ⟨X, 2, none⟩ = false := HE.out.1.free 2
    have f3 : W1.frozen? ⟨X, 3, none⟩ = false := HE.out.1.free 3
    clear hR hg hat hHeld
    refine norm_ (a' := ?_) ?_ ?_
    rotate_left
    · show Act.put _ (some 14) _ = _
      simp only [Act.put, List.setIfInBounds_toArray, List.set_cons_zero, List.set_cons_succ]
      rfl
    refine last_ (i := 11) (N := none) #[true, true, true, true, true, true, true, true, true, true, true, true, false, false] rfl rfl (one_of HT_.out (by kernel_rfl)) (by decide) (fun K_ hK => ?_)
    refine skip_ (w1 := ?_) (by rfl) rfl ?_ ?_
    rotate_left
    · go_simp
      rfl
    refine hK.out _ _ ?_
    clear hK K_
    refine pure_ (i := 12) (N := some 16) (v := ?_) (a' := ?_) #[true, true, true, true, true, true, true, true, true, true, true, true, true, false] rfl rfl (any_of HT_.out (by kernel_rfl)) (fun _ _ _ h => h) (Or.inl ⟨by rfl, ?_⟩) ?_ ?_
    rotate_left
    · intro w'
      go_simp
      with_reducible rfl
    rotate_left
    · simp only [Act.put, List.setIfInBounds_toArray, List.set_cons_zero, List.set_cons_succ]
      rfl
    refine last_ (i := 13) (N := none) #[true, true, true, true, true, true, true, true, true, true, true, true, true, true] rfl rfl (one_of HT_.out (by kernel_rfl)) (by decide) (fun K_ hK => ?_)
    refine skip_ (w1 := ?_) (by rfl) rfl ?_ ?_
    rotate_left
    · go_simp
      rfl
    refine hK.out _ _ ?_
    clear hK K_
    refine done_ (done_of HT_.out (by kernel_rfl)) ?_
    try go_wp2
    go_end0
    exact ⟨rfl, HE.out.2.1, HE.out.2.2⟩
  case hord =>
    intro hcont
    clear hHeld
    refine two_ (i := 3) (j := 8) (Ni := some 8) (Nj := some 13) #[true, true, true, true, false, true, true, true, false, false, false, false, false, false] #[true, true, true, false, false, true, true, true, true, false, false, false, false, false] rfl rfl rfl rfl (two_of HT_.out (by kernel_rfl)) (by decide) (by decide) (fun K_ hK => ?_) (fun K_ hK => ?_)
    · refine value_ (w1 := ?_) (v := ?_) (by rfl) rfl ?_ ?_
      rotate_left 2
      · go_simp
        constructor
        · rfl
        · rfl
      refine hK.out _ _ ⟨(H.out.alloc _).cell2, (H.out.alloc _).cell3⟩ (fun hHeld => ?_)
      clear hK K_
      refine norm_ (a' := ?_) ?_ ?_
      rotate_left
      · show Act.put _ (some 8) _ = _
        simp only [Act.put, List.setIfInBounds_toArray, List.set_cons_zero, List.set_cons_succ]
        rfl
      have H1 := hid (H.out.alloc (.cells #[.int .i64 k] 3))
      have C1 := hid (box_cell W0 (.int .i64 k) 3)
      clear hHeld
      refine two_ (i := 4) (j := 8) (Ni := some 9) (Nj := some 13) #[true, true, true, true, true, true, true, true, false, false, false, false, false, false] #[true, true, true, true, false, true, true, true, true, false, false, false, false, false] rfl rfl rfl rfl (two_of HT_.out (by kernel_rfl)) (by decide) (by decide) (fun K_ hK => ?_) (fun K_ hK => ?_)
      · refine append_int rfl (.tmp 6) (.tmp 8) 24 3 rfl Try.underlying24 infoInt N0 (.slice AK ks.length cK) ks k _ _ rfl H1.out.2.2.1 ⟨W0.heap.size, 0, none⟩ 1 rfl C1.out (by omega) H1.out.2.1 ?_
        intro K1 W1 hR hg hat
        have HP := hid (part_of HN.out H1.out hR hg hat)
        refine hK.out _ _ ⟨HP.out.1.cell 2, HP.out.1.cell 3⟩ (fun hHeld => ?_)
        clear hK K_ hR hg hat hHeld
        refine norm_ (a' := ?_) ?_ ?_
        rotate_left
        · show Act.put _ (some 9) _ = _
          simp only [Act.put, List.setIfInBounds_toArray, List.set_cons_zero, List.set_cons_succ]
          rfl
        refine pure_ (i := 10) (N := some 15) (v := ?_) (a' := ?_) #[true, true, true, true, true, true, true, true, false, false, true, false, false, false] rfl rfl (any_of HT_.out (by kernel_rfl)) (fun _ _ _ h => h) (Or.inl ⟨by rfl, ?_⟩) ?_ ?_
        rotate_left
        · intro w'
          go_simp
          with_reducible rfl
        rotate_left
        · simp only [Act.put, List.setIfInBounds_toArray, List.set_cons_zero, List.set_cons_succ]
          rfl
        refine one_ (i := 8) (N := some 13) #[true, true, true, true, true, true, true, true, true, false, true, false, false, false] rfl rfl (one_of HT_.out (by kernel_rfl)) (by decide) (fun K_ hK => ?_)
        refine value_ (w1 := ?_) (v := ?_) (by rfl) rfl ?_ ?_
        rotate_left 2
        · go_simp
          constructor
          · rfl
          · rfl
        refine hK.out _ _ ⟨(HP.out.1.alloc _).cell 2, (HP.out.1.alloc _).cell 3⟩ (fun hHeld => ?_)
        clear hK K_
        exact norm_ rfl (hcont ⟨K1, W0.heap.size, W1.heap.size⟩ _ ⟨box_cell W1 _ _, HP.out.1.alloc _, by rw [alloc_size]; exact Nat.le_succ_of_le HP.out.2.1, Kd.R_alloc HP.out.2.2.1 _, Kd.R_alloc HP.out.2.2.2.1 _, HP.out.2.2.2.2.alloc _⟩)
      · refine value_ (w1 := ?_) (v := ?_) (by rfl) rfl ?_ ?_
        rotate_left 2
        · go_simp
          constructor
          · rfl
          · rfl
        refine hK.out _ _ ⟨(H1.out.alloc _).cell2, (H1.out.alloc _).cell3⟩ (fun hHeld => ?_)
        clear hK K_
        refine norm_ (a' := ?_) ?_ ?_
        rotate_left
        · show Act.put _ (some 13) _ = _
          simp only [Act.put, List.setIfInBounds_toArray, List.set_cons_zero, List.set_cons_succ]
          rfl
        have C2 := hid (((Below.refl _ _).alloc (Nat.le_refl _) (.cells #[.int .i64 v] 3) : Below _ (W0.alloc (.cells #[.int .i64 k] 3)) _))
        have H3 := hid (H1.out.alloc (.cells #[.int .i64 v] 3))
        have C3 := hid (box_cell' (W0.alloc (.cells #[.int .i64 k] 3)) (.int .i64 v) 3 (alloc_size _ _))
        clear H1 hHeld
        have H1 := H3
        clear H3
        refine one_ (i := 4) (N := some 9) #[true, true, true, true, true, true, true, true, true, false, false, false, false, false] rfl rfl (one_of HT_.out (by kernel_rfl)) (by decide) (fun K_ hK => ?_)
        refine append_int rfl (.tmp 6) (.tmp 8) 24 3 rfl Try.underlying24 infoInt N0 (.slice AK ks.length cK) ks k _ _ rfl H1.out.2.2.1 ⟨W0.heap.size, 0, none⟩ 1 rfl ((C2.out.cell (by rw [alloc_size]; exact Nat.lt_succ_self _)).trans C1.out) (by omega) H1.out.2.1 ?_
        intro K1 W1 hR hg hat
        have HP := hid (part_of HN.out H1.out hR hg hat)
        refine hK.out _ _ ⟨HP.out.1.cell 2, HP.out.1.cell 3⟩ (fun hHeld => ?_)
        have C4 := hid (hg.cell C3.out (fun e => by have := own_ge H.out.2.2.1 _ e.symm; simp only at this; omega))
        clear hK K_ hR hg hat hHeld
        refine norm_ (a' := ?_) ?_ ?_
        rotate_left
        · show Act.put _ (some 9) _ = _
          simp only [Act.put, List.setIfInBounds_toArray, List.set_cons_zero, List.set_cons_succ]
          rfl
        refine pure_ (i := 10) (N := some 15) (v := ?_) (a' := ?_) #[true, true, true, true, true, true, true, true, true, false, true, false, false, false] rfl rfl (any_of HT_.out (by kernel_rfl)) (fun _ _ _ h => h) (Or.inl ⟨by rfl, ?_⟩) ?_ ?_
        rotate_left
        · intro w'
          go_simp
          with_reducible rfl
        rotate_left
        · simp only [Act.put, List.setIfInBounds_toArray, List.set_cons_zero, List.set_cons_succ]
          rfl
        exact norm_ rfl (hcont ⟨K1, W0.heap.size, W0.heap.size + 1⟩ _ ⟨C4.out, HP.out⟩)
    · refine value_ (w1 := ?_) (v := ?_) (by rfl) rfl ?_ ?_
      rotate_left 2
      · go_simp
        constructor
        · rfl
        · rfl
      refine hK.out _ _ ⟨(H.out.alloc _).cell2, (H.out.alloc _).cell3⟩ (fun hHeld => ?_)
      clear hK K_
      refine norm_ (a' := ?_) ?_ ?_
      rotate_left
      · show Act.put _ (some 13) _ = _
        simp only [Act.put, List.setIfInBounds_toArray, List.set_cons_zero, List.set_cons_succ]
        rfl
      have H0 := hid (H.out.alloc (.cells #[.int .i64 v] 3))
      have C1 := hid (box_cell W0 (.int .i64 v) 3)
      clear hHeld
      refine one_ (i := 3) (N := some 8) #[true, true, true, true, false, true, true, true, true, false, false, false, false, false] rfl rfl (one_of HT_.out (by kernel_rfl)) (by decide) (fun K_ hK => ?_)
      refine value_ (w1 := ?_) (v := ?_) (by rfl) rfl ?_ ?_
      rotate_left 2
      · go_simp
        constructor
        · rfl
        · rfl
      refine hK.out _ _ ⟨(H0.out.alloc _).cell2, (H0.out.alloc _).cell3⟩ (fun hHeld => ?_)
      clear hK K_
      refine norm_ (a' := ?_) ?_ ?_
      rotate_left
      · show Act.put _ (some 8) _ = _
        simp only [Act.put, List.setIfInBounds_toArray, List.set_cons_zero, List.set_cons_succ]
        rfl
      have H1 := hid (H0.out.alloc (.cells #[.int .i64 k] 3))
      have C3 := hid (box_cell' (W0.alloc (.cells #[.int .i64 v] 3)) (.int .i64 k) 3 (alloc_size _ _))
      have C2 := hid (((Below.refl _ _).alloc (Nat.le_refl _) (.cells #[.int .i64 k] 3) : Below _ (W0.alloc (.cells #[.int .i64 v] 3)) _))
      clear hHeld
      refine one_ (i := 4) (N := some 9) #[true, true, true, true, true, true, true, true, true, false, false, false, false, false] rfl rfl (one_of HT_.out (by kernel_rfl)) (by decide) (fun K_ hK => ?_)
      refine append_int rfl (.tmp 6) (.tmp 8) 24 3 rfl Try.underlying24 infoInt N0 (.slice AK ks.length cK) ks k _ _ rfl H1.out.2.2.1 ⟨_, 0, none⟩ 1 rfl C3.out (by omega) H1.out.2.1 ?_
      intro K1 W1 hR hg hat
      have HP := hid (part_of HN.out H1.out hR hg hat)
      refine hK.out _ _ ⟨HP.out.1.cell 2, HP.out.1.cell 3⟩ (fun hHeld => ?_)
      have C4 := hid (hg.cell ((C2.out.cell (by rw [alloc_size]; exact Nat.lt_succ_self _)).trans C1.out) (fun e => by have := own_ge H.out.2.2.1 _ e.symm; simp only at this; omega))
      clear hK K_ hR hg hat hHeld
      refine norm_ (a' := ?_) ?_ ?_
      rotate_left
      · show Act.put _ (some 9) _ = _
        simp only [Act.put, List.setIfInBounds_toArray, List.set_cons_zero, List.set_cons_succ]
        rfl
      refine pure_ (i := 10) (N := some 15) (v := ?_) (a' := ?_) #[true, true, true, true, true, true, true, true, true, false, true, false, false, false] rfl rfl (any_of HT_.out (by kernel_rfl)) (fun _ _ _ h => h) (Or.inl ⟨by rfl, ?_⟩) ?_ ?_
      rotate_left
      · intro w'
        go_simp
        with_reducible rfl
      rotate_left
      · simp only [Act.put, List.setIfInBounds_toArray, List.set_cons_zero, List.set_cons_succ]
        rfl
      exact norm_ rfl (hcont ⟨K1, W0.heap.size + 1, W0.heap.size⟩ _ ⟨C4.out, HP.out⟩)

end Go.Proofs.Ytjlcebgfknfelaa.Avl
