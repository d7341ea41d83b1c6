/- Interval trees in memory: what is found, counted, and what overlaps. For every tree. -/
import Derived.Test.YtmnjkdbopafkfaaIntD
import Derived.Test.YtmnjkdbopafkfaaRow
namespace Go.Proofs.Ytmnjkdbopafkfaa.Int
open Go Go.RowKit Go.Deep Go.Proofs.Ytmnjkdbopafkfaa.Hk Go.Proofs.Ytmnjkdbopafkfaa.IntPure Go.Proofs.Ytmnjkdbopafkfaa.IntPure.T Go.Proofs.YtmnjkdbopafkfaaW.PrintWords Go.Proofs.YtmnjkdbopafkfaaW.PrintLast Go.Proofs.YtmnjkdbopafkfaaW.PrintMore
def ov5.T : Bool × List (List Nat × List Nat) := (true, [([], []), ([0], [0]), ([1], [1]), ([2], [2]), ([], []), ([], []), ([3, 4, 5], [3, 4, 5]), ([6, 6, 0, 1, 2, 3, 4, 5, 6], [5, 6])])
def ov5.B : List Nat := [0, 1, 3, 7, 0, 0, 63, 127]
theorem ov5.tab : rtab .any (opsOf Try.f55 5) = ov5.T := by kernel_rfl
theorem ov5.bits : waitsOk ov5.T.2 ov5.B = true := by kernel_rfl
def ov6.T : Bool × List (List Nat × List Nat) := (true, [([], []), ([0], [0]), ([1], [1]), ([2], [2]), ([], []), ([3, 4], [3, 4])])
def ov6.B : List Nat := [0, 1, 3, 7, 0, 31]
theorem ov6.tab : rtab .any (opsOf Try.f55 6) = ov6.T := by kernel_rfl
theorem ov6.bits : waitsOk ov6.T.2 ov6.B = true := by kernel_rfl
def ov10.T : Bool × List (List Nat × List Nat) := (true, [([], []), ([0], [0]), ([1], [1]), ([2], [2]), ([], []), ([], []), ([3, 4, 5], [3, 4, 5]), ([6, 6, 0, 1, 2, 3, 4, 5, 6], [5, 6])])
def ov10.B : List Nat := [0, 1, 3, 7, 0, 0, 63, 127]
theorem ov10.tab : rtab .any (opsOf Try.f55 10) = ov10.T := by kernel_rfl
theorem ov10.bits : waitsOk ov10.T.2 ov10.B = true := by kernel_rfl

/-- The part at which a search ends. -/
def N.seek (key : Int) : N → N
  | .nil => .nil
  | .node b s h m l r => if key < s.lo then N.seek key l else if key > s.lo then N.seek key r else .node b s h m l r
theorem seek_in {w : World} (key : Int) : ∀ {t : N}, t.In w → (t.seek key).In w
  | .nil, h => h
  | .node b s h m l r, hin => by
    unfold N.seek
    split
    · exact seek_in key hin.2.1
    · split
      · exact seek_in key hin.2.2
      · exact hin
theorem seek_nil (key : Int) : ∀ {t : N}, t.seek key = .nil → T.find key t.raw = none
  | .nil, _ => rfl
  | .node b s h m l r, e => by
    show (if key < s.lo then T.find key l.raw else if key > s.lo then T.find key r.raw else some s) = none
    unfold N.seek at e
    split at e
    · next h1 => rw [if_pos h1]; exact seek_nil key e
    · next h1 =>
      rw [if_neg h1]
      split at e
      · next h2 => rw [if_pos h2]; exact seek_nil key e
      · cases e
theorem seek_node (key : Int) : ∀ {t : N} {b : Nat} {s : S} {h m : Int} {l r : N}, t.seek key = .node b s h m l r → T.find key t.raw = some s
  | .nil, _, _, _, _, _, _, e => by cases e
  | .node b s h m l r, b2, s2, h2, m2, l2, r2, e => by
    show (if key < s.lo then T.find key l.raw else if key > s.lo then T.find key r.raw else some s) = some s2
    unfold N.seek at e
    split at e
    · next h1 => rw [if_pos h1]; exact seek_node key e
    · next h1 =>
      rw [if_neg h1]
      split at e
      · next h2 => rw [if_pos h2]; exact seek_node key e
      · next h2 => rw [if_neg h2]; cases e; rfl
set_option maxHeartbeats 800000 in
set_option maxRecDepth 100000 in
theorem search_any (key : Int) : ∀ (t : N) (w : World), t.In w → Calls Try.prog 53 #[t.ptr, .int .i64 key] w fun e w' => e = .returned (t.seek key).ptr ∧ w = w'
  | .nil, w, _ => by
    show Calls Try.prog 53 #[.pointer none, .int .i64 key] w _
    go_enter Try.func53, Try.ntmps53
    go_wp2_with fail
    go_ret
    exact ⟨rfl, rfl⟩
  | .node b s h m l r, w, hin => by
    have HI : Hid ((N.node b s h m l r).In w) := hin
    have c0 : w.cell? ⟨b, 0, none⟩ = some (.int .i64 s.lo) := hin.1.cell 0
    have c4 : w.cell? ⟨b, 4, none⟩ = some l.ptr := hin.1.cell 4
    have c5 : w.cell? ⟨b, 5, none⟩ = some r.ptr := hin.1.cell 5
    clear hin
    show Calls Try.prog 53 #[.pointer (some ⟨b, 0, none⟩), .int .i64 key] w _
    by_cases h1 : key < s.lo
    · have HS : Hid ((N.node b s h m l r).seek key = l.seek key) := if_pos h1
      go_enter Try.func53, Try.ntmps53
      go_wp2_with fail
      refine (search_any key l w HI.out.2.1).mono ?_
      rintro e w' ⟨rfl, rfl⟩
      go_wp2_with fail
      go_ret
      exact ⟨by rw [HS.out]; rfl, rfl⟩
    · by_cases h2 : key > s.lo
      · have HS : Hid ((N.node b s h m l r).seek key = r.seek key) := (if_neg h1).trans (if_pos h2)
        go_enter Try.func53, Try.ntmps53
        go_wp2_with fail
        refine (search_any key r w HI.out.2.2).mono ?_
        rintro e w' ⟨rfl, rfl⟩
        go_wp2_with fail
        go_ret
        exact ⟨by rw [HS.out]; rfl, rfl⟩
      · have HS : Hid ((N.node b s h m l r).seek key = .node b s h m l r) := (if_neg h1).trans (if_neg h2)
        go_enter Try.func53, Try.ntmps53
        go_wp2_with fail
        go_ret
        exact ⟨by rw [HS.out]; rfl, rfl⟩

set_option maxHeartbeats 800000 in
set_option maxRecDepth 100000 in
theorem size_any : ∀ (t : N) (w : World), t.In w → t.raw.size ≤ 4611686018427387 → Calls Try.prog 57 #[t.ptr] w fun e w' => e = .returned (.int .i64 t.raw.size) ∧ w = w'
  | .nil, w, _, _ => by
    show Calls Try.prog 57 #[.pointer none] w _
    go_enter Try.func57, Try.ntmps57
    go_wp2_with fail
    go_ret
    exact ⟨rfl, rfl⟩
  | .node b s h m l r, w, hin, hs => by
    have e0 : (N.node b s h m l r).raw.size = 1 + l.raw.size + r.raw.size := rfl
    have s1 := T.size_nonneg l.raw
    have s2 := T.size_nonneg r.raw
    rw [e0] at hs ⊢
    have HI : Hid ((N.node b s h m l r).In w) := hin
    have c4 : w.cell? ⟨b, 4, none⟩ = some l.ptr := hin.1.cell 4
    have c5 : w.cell? ⟨b, 5, none⟩ = some r.ptr := hin.1.cell 5
    clear hin e0
    show Calls Try.prog 57 #[.pointer (some ⟨b, 0, none⟩)] w _
    go_enter Try.func57, Try.ntmps57
    go_wp2_with fail
    refine (size_any l w HI.out.2.1 (by omega)).mono ?_
    rintro e w' ⟨rfl, rfl⟩
    go_wp2_with fail
    refine (size_any r w HI.out.2.2 (by omega)).mono ?_
    rintro e w' ⟨rfl, rfl⟩
    go_wp2_with fail
    go_ret
    exact ⟨rfl, rfl⟩

set_option maxHeartbeats 800000 in
set_option maxRecDepth 100000 in
theorem meet_any (p q a b : Int) (w : World) : Calls Try.prog 64 #[.agg #[.int .i64 p, .int .i64 q], .agg #[.int .i64 a, .int .i64 b]] w fun e w' => e = .returned (.bool (decide (p < b ∧ q > a))) ∧ Below w.heap.size w w' := by
  have hB : Below w.heap.size w ((w.alloc (.cells #[.int .i64 p, .int .i64 q] 100)).alloc (.cells #[.int .i64 a, .int .i64 b] 100)) := ((Below.refl _ _).alloc (Nat.le_refl _) _).alloc (by simp) _
  have HB := hid hB
  clear hB
  by_cases h1 : p < b
  · by_cases h2 : q > a
    · have e : decide (p < b ∧ q > a) = true := decide_eq_true ⟨h1, h2⟩
      rw [e]
      clear e
      go_enter Try.func64, Try.ntmps64
      go_wp2_with fail
      go_ret
      exact ⟨rfl, HB.out⟩
    · have e : decide (p < b ∧ q > a) = false := decide_eq_false (fun h => h2 h.2)
      rw [e]
      clear e
      go_enter Try.func64, Try.ntmps64
      go_wp2_with fail
      go_ret
      exact ⟨rfl, HB.out⟩
  · have e : decide (p < b ∧ q > a) = false := decide_eq_false (fun h => h1 h.1)
    rw [e]
    clear e
    go_enter Try.func64, Try.ntmps64
    go_wp2_with fail
    go_ret
    exact ⟨rfl, HB.out⟩

abbrev tri (s : S) : Int × Int × Int := (s.lo, s.hi, s.v)
def spK : Kd (Int × Int × Int) := Kd.pair (Kd.int .i64) (Kd.pair (Kd.int .i64) (Kd.int .i64))
theorem infoKV : (Try.prog.info? 74).map (fun i => (i.zero, i.size, i.bytes)) = some (some (.agg #[.int .i64 0, .int .i64 0, .int .i64 0]), 3, 24) := by kernel_rfl
theorem und78 : Try.prog.underlying 78 = some (.slice 74) := by kernel_rfl
theorem spK_M (W : World) (base : Nat) (ok : Nat → Prop) (x y z : Int) : spK.M W base ok (x, y, z) [.int .i64 x, .int .i64 y, .int .i64 z] :=
  ⟨[_], [_, _], rfl, rfl, [_], [_], rfl, rfl, rfl⟩
/-- What overlaps leaves. -/
def Over (a b : Int) (base : Nat) (t : N) (xs : List (Int × Int × Int)) (v : Value) (w : World) (e : Ending) (w' : World) : Prop :=
  ∃ v', e = .returned v' ∧ spK.R 74 w' base (fun _ => True) v' (xs ++ (T.over a b t.raw).map tri) ∧ Fr (fun k => some k = v.ownBlock) w w' ∧ (v'.ownBlock = v.ownBlock ∨ ∃ k, v'.ownBlock = some k ∧ w.heap.size ≤ k)
/-- What stands between the steps of overlaps. -/
structure OSt (a b : Int) (base n : Nat) (s : S) (h m : Int) (l r : N) (w : World) (own : Option Nat) (v : Value) (xs : List (Int × Int × Int)) (W : World) : Prop where
  row : spK.R 74 W base (fun _ => True) v xs
  fr : Fr (fun k => some k = own) w W
  at_ : v.ownBlock = own ∨ ∃ k, v.ownBlock = some k ∧ w.heap.size < k
  nd : Blk W n (cs s h m l r) 110
  rt : r.In W
  box : Blk W w.heap.size #[.int .i64 a, .int .i64 b] 100
  own_lt : ∀ k, own = some k → k < w.heap.size
  out : ∀ x ∈ (N.node n s h m l r).ids, some x ≠ own ∧ x < w.heap.size
  low : base ≤ w.heap.size
section
variable {a b : Int} {base n : Nat} {s : S} {h m : Int} {l r : N} {w W W1 : World} {own : Option Nat} {v v1 : Value} {xs ys : List (Int × Int × Int)}
theorem OSt.away (H : OSt a b base n s h m l r w own v xs W) : ∀ x ∈ (N.node n s h m l r).ids, some x ≠ v.ownBlock := fun x hx e => by
  have := H.out x hx
  rcases H.at_ with q | ⟨k, q, hk⟩
  · exact this.1 (e.trans q)
  · rw [q] at e; injection e with e; omega
theorem OSt.turn (H : OSt a b base n s h m l r w own v xs W) (hR : spK.R 74 W1 base (fun _ => True) v1 ys) (hf : Fr (fun k => some k = v.ownBlock) W W1) (hat : v1.ownBlock = v.ownBlock ∨ ∃ k, v1.ownBlock = some k ∧ W.heap.size ≤ k) :
    OSt a b base n s h m l r w own v1 ys W1 := by
  have hbx : some w.heap.size ≠ v.ownBlock := fun e => by
    rcases H.at_ with q | ⟨k, q, hk⟩
    · have := H.own_lt _ (e.trans q).symm; omega
    · rw [q] at e; injection e with e; omega
  have hb := H.box.lt
  refine ⟨hR, H.fr.trans hf (fun k hk e => ?_), ?_, H.nd.fr hf (H.away n (by simp [N.ids])), N.In.fr hf H.rt (fun x hx => H.away x (by simp [N.ids, hx])), H.box.fr hf hbx, H.own_lt, H.out, H.low⟩
  · rcases H.at_ with q | ⟨j, q, hj⟩
    · exact e.trans q
    · rw [q] at e; injection e with e; omega
  · rcases hat with q | ⟨k, q, hk⟩
    · rw [q]; exact H.at_
    · exact .inr ⟨k, q, by omega⟩
theorem OSt.below (H : OSt a b base n s h m l r w own v xs W) (hb : Below W.heap.size W W1) : OSt a b base n s h m l r w own v xs W1 :=
  H.turn (Kd.R_below H.row hb) (Fr.new hb) (.inl rfl)
theorem OSt.grown (H : OSt a b base n s h m l r w own v xs W) (hR : spK.R 74 W1 base (fun _ => True) v1 ys) (hg : W.grownBy W1 v.ownBlock) (hat : v1.ownBlock = v.ownBlock ∨ ∃ k, v1.ownBlock = some k ∧ W.heap.size ≤ k) :
    OSt a b base n s h m l r w own v1 ys W1 := H.turn hR (Fr.of_grown hg) hat
end
set_option maxHeartbeats 800000 in
set_option maxRecDepth 100000 in
theorem overlaps_nil (a b : Int) (base : Nat) (xs : List (Int × Int × Int)) (v : Value) (w : World) (hR : spK.R 74 w base (fun _ => True) v xs) :
    Calls Try.prog 55 #[.pointer none, .agg #[.int .i64 a, .int .i64 b], v] w (Over a b base .nil xs v w) := by
  have HR := hid hR
  clear hR
  go_enter Try.func55, Try.ntmps55
  go_wp2_with fail
  go_ret
  exact ⟨v, rfl, by rw [show (T.over a b (N.raw .nil)).map tri = [] from rfl, List.append_nil]; exact Kd.R_alloc HR.out _, (Fr.refl _ _).alloc _, .inl rfl⟩

theorem over_le (a b : Int) : ∀ t : T, ((T.over a b t).length : Int) ≤ t.size
  | .nil => by simp [T.over, T.size]
  | .node s h m l r => by
    have hl := over_le a b l
    have hr := over_le a b r
    have s1 := T.size_nonneg l
    have s2 := T.size_nonneg r
    show ((if a ≥ m then [] else T.over a b l ++ (if s.lo < b ∧ s.hi > a then [s] else []) ++ (if b ≤ s.lo then [] else T.over a b r)).length : Int) ≤ 1 + l.size + r.size
    split
    · simp; omega
    · rw [List.length_append, List.length_append]
      have e1 : ((if s.lo < b ∧ s.hi > a then [s] else []) : List S).length ≤ 1 := by split <;> simp
      have e2 : (((if b ≤ s.lo then [] else T.over a b r) : List S).length : Int) ≤ r.size := by
        split
        · simp; exact s2
        · exact hr
      omega

set_option maxHeartbeats 8000000 in
set_option maxRecDepth 100000 in
theorem overlaps_any (a b : Int) (base : Nat) : ∀ (t : N) (xs : List (Int × Int × Int)) (v : Value) (w : World), t.In w → (∀ x ∈ t.ids, some x ≠ v.ownBlock) → spK.R 74 w base (fun _ => True) v xs → (xs.length : Int) + t.raw.size ≤ 1099511627776 → base ≤ w.heap.size →
    Calls Try.prog 55 #[t.ptr, .agg #[.int .i64 a, .int .i64 b], v] w (Over a b base t xs v w)
  | .nil, xs, v, w, _, _, hR, _, _ => overlaps_nil a b base xs v w hR
  | .node n s h m l r, xs, v, w, hin, hown, hR, hz, hlow => by
    have e0 : (N.node n s h m l r).raw.size = 1 + l.raw.size + r.raw.size := rfl
    have s1 := T.size_nonneg l.raw
    have s2 := T.size_nonneg r.raw
    have HQ : Hid ((xs.length : Int) + l.raw.size + 1 + r.raw.size ≤ 1099511627776 ∧ 0 ≤ r.raw.size) := ⟨by omega, s2⟩
    have HB0 : Hid (Below w.heap.size w (w.alloc (.cells #[.int .i64 a, .int .i64 b] 100))) := (Below.refl _ _).alloc (Nat.le_refl _) _
    have H0 : Hid (OSt a b base n s h m l r w v.ownBlock v xs (w.alloc (.cells #[.int .i64 a, .int .i64 b] 100))) :=
      ⟨Kd.R_alloc hR _, Fr.new HB0.out, .inl rfl, hin.1.alloc _, N.In.fr (Fr.new (Z := fun _ => False) HB0.out) hin.2.2 (fun _ _ h => h), Blk.new w _ 100, fun k hk => Kd.R_lt hR k hk, fun x hx => ⟨hown x hx, N.In.lt hin x hx⟩, hlow⟩
    have HL : Hid (l.In w) := hin.2.1
    have HR0 : Hid (spK.R 74 w base (fun _ => True) v xs) := hR
    have hsum : (xs ++ (T.over a b l.raw).map tri).length ≤ xs.length + l.raw.size := by
      rw [List.length_append, List.length_map]
      have := over_le a b l.raw
      omega
    have HZ1 : Hid ((xs.length : Int) + l.raw.size ≤ 1099511627776 ∧ ((xs ++ (T.over a b l.raw).map tri).length : Int) ≤ xs.length + l.raw.size) := ⟨by omega, hsum⟩
    clear hin hown hR hz e0 s1 s2 hlow HB0 hsum
    show Calls Try.prog 55 #[.pointer (some ⟨n, 0, none⟩), .agg #[.int .i64 a, .int .i64 b], v] w _
    go_enter Try.func55, Try.ntmps55
    go_wp2_with fail
    generalize w.alloc (.cells #[.int .i64 a, .int .i64 b] 100) = W0 at H0 ⊢
    have k0 : W0.cell? ⟨w.heap.size, 0, none⟩ = some (.int .i64 a) := H0.out.box.cell 0
    have c6 : W0.cell? ⟨n, 6, none⟩ = some (.int .i64 m) := H0.out.nd.cell 6
    refine still_drew (by kernel_rfl) (by kernel_rfl) ?_
    repeat still_step
    refine wpStill_nil ?_
    have H1 := hid (H0.out.below (W1 := W0.drew) (Below.drew (Below.refl _ _)))
    clear k0 c6 H0
    generalize W0.drew = W1 at H1 ⊢
    by_cases h1 : a ≥ m
    · have HO : Hid (T.over a b (N.raw (.node n s h m l r)) = []) := if_pos h1
      go_wp2_with fail
      go_ret
      exact ⟨v, rfl, by rw [show xs ++ (T.over a b (N.raw (.node n s h m l r))).map tri = xs from by rw [HO.out]; simp]; exact H1.out.row, H1.out.fr, H1.out.at_.imp id (fun ⟨k, q, hk⟩ => ⟨k, q, Nat.le_of_lt hk⟩)⟩
    · have HO : Hid (T.over a b (N.raw (.node n s h m l r)) = T.over a b l.raw ++ (if s.lo < b ∧ s.hi > a then [s] else []) ++ (if b ≤ s.lo then [] else T.over a b r.raw)) := if_neg h1
      have HZ : Hid ((xs.length : Int) + l.raw.size ≤ 1099511627776 ∧ True) := ⟨HZ1.out.1, trivial⟩
      go_wp2_with fail
      clear h1
      have k0 : W1.cell? ⟨w.heap.size, 0, none⟩ = some (.int .i64 a) := H1.out.box.cell 0
      have k1 : W1.cell? ⟨w.heap.size, 1, none⟩ = some (.int .i64 b) := H1.out.box.cell 1
      have c5 : W1.cell? ⟨n, 4, none⟩ = some l.ptr := H1.out.nd.cell 4
      refine start_ (n := 8) (S := fun w' => w'.cell? ⟨n, 4, none⟩ = some (l.ptr) ∧ w'.cell? ⟨w.heap.size, 0, none⟩ = some (.int .i64 a) ∧ w'.cell? ⟨w.heap.size, 1, none⟩ = some (.int .i64 b)) (ds := [6]) #[false, false, false, false, false, false, false, false] (by kernel_rfl) rfl rfl ⟨c5, k0, k1⟩ (fun hHeld => ?_)
      refine with_tabW ov5.tab ov5.bits (fun HT_ HW_ => ?_)
      clear c5 k0 k1
      refine pure_ (i := 0) (N := some 18) (v := ?_) (a' := ?_) #[true, false, false, false, false, false, false, false] rfl rfl (any_of HT_.out (by kernel_rfl)) (fun _ _ _ h => h) (Or.inl ⟨by rfl, ?_⟩) ?_ ?_
      rotate_left
      · intro w'
        go_simp
        with_reducible rfl
      rotate_left
      · simp only [Act.put, List.setIfInBounds_toArray, List.set_cons_zero, List.set_cons_succ]
        rfl
      refine pure_ (i := 1) (N := some 19) (v := ?_) (a' := ?_) #[true, true, false, false, false, false, false, false] rfl rfl (any_of HT_.out (by kernel_rfl)) (fun _ _ _ h => h) (Or.inl ⟨by rfl, ?_⟩) ?_ ?_
      rotate_left
      · intro w'
        go_simp
        with_reducible rfl
      rotate_left
      · simp only [Act.put, List.setIfInBounds_toArray, List.set_cons_zero, List.set_cons_succ]
        rfl
      refine pure_ (i := 2) (N := some 20) (v := ?_) (a' := ?_) #[true, true, true, false, false, false, false, false] rfl rfl (any_of HT_.out (by kernel_rfl)) (fun _ _ _ h => h) (Or.inl ⟨by rfl, ?_⟩) ?_ ?_
      rotate_left
      · intro w'
        go_simp
        with_reducible rfl
      rotate_left
      · simp only [Act.put, List.setIfInBounds_toArray, List.set_cons_zero, List.set_cons_succ]
        rfl
      refine take_ (i := 3) (N := some 21) (v := ?_) (a' := ?_) #[true, true, true, true, false, false, false, false] rfl rfl (take_ofW HT_.out HW_.out (by kernel_rfl)) (fun _ _ _ h => h) (Or.inl ⟨by rfl, ?_⟩) hHeld ?_ ?_
      rotate_left
      · intro w' s0
        obtain ⟨s1, s2, s3⟩ := s0
        go_simp
        with_reducible rfl
      rotate_left
      · simp only [Act.put, List.setIfInBounds_toArray, List.set_cons_zero, List.set_cons_succ]
        rfl
      refine take_ (i := 4) (N := some 22) (v := ?_) (a' := ?_) #[true, true, true, true, true, false, false, false] rfl rfl (take_ofW HT_.out HW_.out (by kernel_rfl)) (fun _ _ _ h => h) (Or.inl ⟨by rfl, ?_⟩) hHeld ?_ ?_
      rotate_left
      · intro w' s0
        obtain ⟨s1, s2, s3⟩ := s0
        go_simp
        with_reducible rfl
      rotate_left
      · simp only [Act.put, List.setIfInBounds_toArray, List.set_cons_zero, List.set_cons_succ]
        rfl
      refine pure_ (i := 5) (N := some 23) (v := ?_) (a' := ?_) #[true, true, true, true, true, true, false, false] rfl rfl (any_of HT_.out (by kernel_rfl)) (fun _ _ _ h => h) (Or.inl ⟨by rfl, ?_⟩) ?_ ?_
      rotate_left
      · intro w'
        go_simp
        with_reducible rfl
      rotate_left
      · simp only [Act.put, List.setIfInBounds_toArray, List.set_cons_zero, List.set_cons_succ]
        rfl
      refine last_ (i := 6) (N := some 24) #[true, true, true, true, true, true, true, false] rfl rfl (one_of HT_.out (by kernel_rfl)) (by decide) (fun K_ hK => ?_)
      refine call_ (N := some 24) 55 #[l.ptr, .agg #[.int .i64 a, .int .i64 b], v] (by rfl) rfl (by go_simp) ?_
      have HCall_ := overlaps_any a b base l (xs) (v) W1.drew (N.In.drew (HL.out.fr H1.out.fr (fun x hx => (H1.out.out x (by simp [N.ids, hx])).1))) (fun x hx => H1.out.away x (by simp [N.ids, hx])) (Kd.R_drew H1.out.row) HZ.out.1 (Nat.le_trans H1.out.low H1.out.fr.size)
      refine HCall_.mono ?_
      clear HCall_
      rintro e w2 ⟨v1, rfl, hR1, hf1, hat1⟩
      have H2 := hid (H1.out.turn (W1 := w2) hR1 ⟨hf1.os, hf1.tape, hf1.output, hf1.size, hf1.block⟩ hat1)
      clear hR1 hf1 hat1
      refine ⟨_, rfl, ?_⟩
      refine hK.out _ _ ?_
      clear hK K_
      refine norm_ (a' := ?_) ?_ ?_
      rotate_left
      · show Act.put _ (some 24) _ = _
        simp only [Act.put, List.setIfInBounds_toArray, List.set_cons_zero, List.set_cons_succ]
        rfl
      refine pure_ (i := 7) (N := some 2) (v := ?_) (a' := ?_) #[true, true, true, true, true, true, true, true] rfl rfl (any_of HT_.out (by kernel_rfl)) (fun _ _ _ h => h) (Or.inl ⟨by rfl, ?_⟩) ?_ ?_
      rotate_left
      · intro w'
        go_simp
        with_reducible rfl
      rotate_left
      · simp only [Act.put, List.setIfInBounds_toArray, List.set_cons_zero, List.set_cons_succ]
        rfl
      refine done_ (done_of HT_.out (by kernel_rfl)) ?_
      clear HT_ HW_
      clear HL H1
      have HZ1' : Hid (((xs ++ (T.over a b l.raw).map tri).length : Int) + 1 + r.raw.size ≤ 1099511627776) := hid (by have h1_ := HZ1.out.2; have h2_ := HQ.out.1; omega)
      clear HZ1 HQ HZ
      generalize HX : xs ++ (T.over a b l.raw).map tri = xs1 at H2 HZ1'
      replace HX := hid HX
      go_wp2_with fail
      have k0 : w2.cell? ⟨w.heap.size, 0, none⟩ = some (.int .i64 a) := H2.out.box.cell 0
      have k1 : w2.cell? ⟨w.heap.size, 1, none⟩ = some (.int .i64 b) := H2.out.box.cell 1
      have c0 : w2.cell? ⟨n, 0, none⟩ = some (.int .i64 s.lo) := H2.out.nd.cell 0
      have c1 : w2.cell? ⟨n, 1, none⟩ = some (.int .i64 s.hi) := H2.out.nd.cell 1
      refine start_ (n := 6) (S := fun w' => w'.cell? ⟨w.heap.size, 0, none⟩ = some (.int .i64 a) ∧ w'.cell? ⟨w.heap.size, 1, none⟩ = some (.int .i64 b) ∧ w'.cell? ⟨n, 0, none⟩ = some (.int .i64 s.lo) ∧ w'.cell? ⟨n, 1, none⟩ = some (.int .i64 s.hi)) (ds := [5]) #[false, false, false, false, false, false] (by kernel_rfl) rfl rfl ⟨k0, k1, c0, c1⟩ (fun hHeld => ?_)
      refine with_tabW ov6.tab ov6.bits (fun HT_ HW_ => ?_)
      clear k0 k1 c0 c1
      refine pure_ (i := 0) (N := some 25) (v := ?_) (a' := ?_) #[true, false, false, false, false, false] rfl rfl (any_of HT_.out (by kernel_rfl)) (fun _ _ _ h => h) (Or.inl ⟨by rfl, ?_⟩) ?_ ?_
      rotate_left
      · intro w'
        go_simp
        with_reducible rfl
      rotate_left
      · simp only [Act.put, List.setIfInBounds_toArray, List.set_cons_zero, List.set_cons_succ]
        rfl
      refine pure_ (i := 1) (N := some 26) (v := ?_) (a' := ?_) #[true, true, false, false, false, false] rfl rfl (any_of HT_.out (by kernel_rfl)) (fun _ _ _ h => h) (Or.inl ⟨by rfl, ?_⟩) ?_ ?_
      rotate_left
      · intro w'
        go_simp
        with_reducible rfl
      rotate_left
      · simp only [Act.put, List.setIfInBounds_toArray, List.set_cons_zero, List.set_cons_succ]
        rfl
      refine pure_ (i := 2) (N := some 27) (v := ?_) (a' := ?_) #[true, true, true, false, false, false] rfl rfl (any_of HT_.out (by kernel_rfl)) (fun _ _ _ h => h) (Or.inl ⟨by rfl, ?_⟩) ?_ ?_
      rotate_left
      · intro w'
        go_simp
        with_reducible rfl
      rotate_left
      · simp only [Act.put, List.setIfInBounds_toArray, List.set_cons_zero, List.set_cons_succ]
        rfl
      refine take_ (i := 3) (N := some 28) (v := ?_) (a' := ?_) #[true, true, true, true, false, false] rfl rfl (take_ofW HT_.out HW_.out (by kernel_rfl)) (fun _ _ _ h => h) (Or.inl ⟨by rfl, ?_⟩) hHeld ?_ ?_
      rotate_left
      · intro w' s0
        obtain ⟨s1, s2, s3, s4⟩ := s0
        go_simp
        with_reducible rfl
      rotate_left
      · simp only [Act.put, List.setIfInBounds_toArray, List.set_cons_zero, List.set_cons_succ]
        rfl
      refine take_ (i := 4) (N := some 29) (v := ?_) (a' := ?_) #[true, true, true, true, true, false] rfl rfl (take_ofW HT_.out HW_.out (by kernel_rfl)) (fun _ _ _ h => h) (Or.inl ⟨by rfl, ?_⟩) hHeld ?_ ?_
      rotate_left
      · intro w' s0
        obtain ⟨s1, s2, s3, s4⟩ := s0
        go_simp
        with_reducible rfl
      rotate_left
      · simp only [Act.put, List.setIfInBounds_toArray, List.set_cons_zero, List.set_cons_succ]
        rfl
      refine last_ (i := 5) (N := some 30) #[true, true, true, true, true, true] rfl rfl (one_of HT_.out (by kernel_rfl)) (by decide) (fun K_ hK => ?_)
      refine call_ (N := some 30) 64 #[.agg #[.int .i64 s.lo, .int .i64 s.hi], .agg #[.int .i64 a, .int .i64 b]] (by rfl) rfl (by go_simp) ?_
      have HCall_ := meet_any s.lo s.hi a b w2.drew
      refine HCall_.mono ?_
      clear HCall_
      rintro e w3 ⟨rfl, hb⟩
      have H3 := hid ((H2.out.below (W1 := w2.drew) ((Below.refl _ _).drew)).below hb)
      clear hb H2
      refine ⟨_, rfl, ?_⟩
      refine hK.out _ _ ?_
      clear hK K_
      refine norm_ (a' := ?_) ?_ ?_
      rotate_left
      · show Act.put _ (some 30) _ = _
        simp only [Act.put, List.setIfInBounds_toArray, List.set_cons_zero, List.set_cons_succ]
        rfl
      refine done_ (done_of HT_.out (by kernel_rfl)) ?_
      clear HT_ HW_
      by_cases h2 : s.lo < b ∧ s.hi > a
      · have HO2 : Hid (T.over a b (N.raw (.node n s h m l r)) = T.over a b l.raw ++ [s] ++ T.over a b r.raw) := by
          refine hid ?_
          rw [HO.out, if_pos h2, if_neg (by omega : ¬ b ≤ s.lo)]
        have h3 : ¬ b ≤ s.lo := by omega
        rw [decide_eq_true h2]
        clear h2
        go_wp2_with fail
        refine (newKV_any n s h m l r w3 H3.out.nd).mono ?_
        rintro e w4 ⟨rfl, hb⟩
        have H4 := hid (H3.out.below hb)
        clear hb H3
        go_wp2_with (first | (at_builtin; go_loud (refine Kd.R_append spK (w0 := w4) (W := w4) base rfl (.tmp 31) (.tmp 34) 78 74 (.agg #[.int .i64 0, .int .i64 0, .int .i64 0]) 24 rfl und78 infoKV rfl (by decide) (by omega) v1 xs1 (tri s) [.int .i64 s.lo, .int .i64 s.hi, .int .i64 s.v] (fun _ => True) (fun _ => False) rfl rfl (spK_M _ _ _ _ _ _) (fun _ hk => hk.elim) (fun _ _ => trivial) H4.out.row (Below.refl _ _) (Nat.le_trans H4.out.low H4.out.fr.size) (by have := HZ1'.out; have := T.size_nonneg r.raw; omega) ?_; intro v4 w5 hR5 hB5 hg5 hat5)))
        have H5 := hid (H4.out.grown hR5 hg5 hat5)
        clear hR5 hB5 hg5 hat5 H4
        have c0 : w5.cell? ⟨n, 0, none⟩ = some (.int .i64 s.lo) := H5.out.nd.cell 0
        have k1 : w5.cell? ⟨w.heap.size, 1, none⟩ = some (.int .i64 b) := H5.out.box.cell 1
        refine still_drew (by kernel_rfl) (by kernel_rfl) ?_
        repeat still_step
        refine wpStill_nil ?_
        have H8 := hid (H5.out.below (W1 := w5.drew) ((Below.refl _ _).drew))
        clear c0 k1 H5
        generalize w5.drew = w8 at H8 ⊢
        go_wp2_with fail
        clear h3
        have HZ : Hid (True ∧ ((xs1 ++ [tri s]).length : Int) + r.raw.size ≤ 1099511627776) := ⟨trivial, by have := HZ1'.out; rw [List.length_append, List.length_singleton]; omega⟩
        have k0 : w8.cell? ⟨w.heap.size, 0, none⟩ = some (.int .i64 a) := H8.out.box.cell 0
        have k1 : w8.cell? ⟨w.heap.size, 1, none⟩ = some (.int .i64 b) := H8.out.box.cell 1
        have c5 : w8.cell? ⟨n, 5, none⟩ = some r.ptr := H8.out.nd.cell 5
        refine start_ (n := 8) (S := fun w' => w'.cell? ⟨n, 5, none⟩ = some (r.ptr) ∧ w'.cell? ⟨w.heap.size, 0, none⟩ = some (.int .i64 a) ∧ w'.cell? ⟨w.heap.size, 1, none⟩ = some (.int .i64 b)) (ds := [6]) #[false, false, false, false, false, false, false, false] (by kernel_rfl) rfl rfl ⟨c5, k0, k1⟩ (fun hHeld => ?_)
        refine with_tabW ov10.tab ov10.bits (fun HT_ HW_ => ?_)
        clear c5 k0 k1
        refine pure_ (i := 0) (N := some 45) (v := ?_) (a' := ?_) #[true, false, false, false, false, false, false, false] rfl rfl (any_of HT_.out (by kernel_rfl)) (fun _ _ _ h => h) (Or.inl ⟨by rfl, ?_⟩) ?_ ?_
        rotate_left
        · intro w'
          go_simp
          with_reducible rfl
        rotate_left
        · simp only [Act.put, List.setIfInBounds_toArray, List.set_cons_zero, List.set_cons_succ]
          rfl
        refine pure_ (i := 1) (N := some 46) (v := ?_) (a' := ?_) #[true, true, false, false, false, false, false, false] rfl rfl (any_of HT_.out (by kernel_rfl)) (fun _ _ _ h => h) (Or.inl ⟨by rfl, ?_⟩) ?_ ?_
        rotate_left
        · intro w'
          go_simp
          with_reducible rfl
        rotate_left
        · simp only [Act.put, List.setIfInBounds_toArray, List.set_cons_zero, List.set_cons_succ]
          rfl
        refine pure_ (i := 2) (N := some 47) (v := ?_) (a' := ?_) #[true, true, true, false, false, false, false, false] rfl rfl (any_of HT_.out (by kernel_rfl)) (fun _ _ _ h => h) (Or.inl ⟨by rfl, ?_⟩) ?_ ?_
        rotate_left
        · intro w'
          go_simp
          with_reducible rfl
        rotate_left
        · simp only [Act.put, List.setIfInBounds_toArray, List.set_cons_zero, List.set_cons_succ]
          rfl
        refine take_ (i := 3) (N := some 48) (v := ?_) (a' := ?_) #[true, true, true, true, false, false, false, false] rfl rfl (take_ofW HT_.out HW_.out (by kernel_rfl)) (fun _ _ _ h => h) (Or.inl ⟨by rfl, ?_⟩) hHeld ?_ ?_
        rotate_left
        · intro w' s0
          obtain ⟨s1, s2, s3⟩ := s0
          go_simp
          with_reducible rfl
        rotate_left
        · simp only [Act.put, List.setIfInBounds_toArray, List.set_cons_zero, List.set_cons_succ]
          rfl
        refine take_ (i := 4) (N := some 49) (v := ?_) (a' := ?_) #[true, true, true, true, true, false, false, false] rfl rfl (take_ofW HT_.out HW_.out (by kernel_rfl)) (fun _ _ _ h => h) (Or.inl ⟨by rfl, ?_⟩) hHeld ?_ ?_
        rotate_left
        · intro w' s0
          obtain ⟨s1, s2, s3⟩ := s0
          go_simp
          with_reducible rfl
        rotate_left
        · simp only [Act.put, List.setIfInBounds_toArray, List.set_cons_zero, List.set_cons_succ]
          rfl
        refine pure_ (i := 5) (N := some 50) (v := ?_) (a' := ?_) #[true, true, true, true, true, true, false, false] rfl rfl (any_of HT_.out (by kernel_rfl)) (fun _ _ _ h => h) (Or.inl ⟨by rfl, ?_⟩) ?_ ?_
        rotate_left
        · intro w'
          go_simp
          with_reducible rfl
        rotate_left
        · simp only [Act.put, List.setIfInBounds_toArray, List.set_cons_zero, List.set_cons_succ]
          rfl
        refine last_ (i := 6) (N := some 51) #[true, true, true, true, true, true, true, false] rfl rfl (one_of HT_.out (by kernel_rfl)) (by decide) (fun K_ hK => ?_)
        refine call_ (N := some 51) 55 #[r.ptr, .agg #[.int .i64 a, .int .i64 b], v4] (by rfl) rfl (by go_simp) ?_
        have HCall_ := overlaps_any a b base r (xs1 ++ [tri s]) (v4) w8.drew (N.In.drew H8.out.rt) (fun x hx => H8.out.away x (by simp [N.ids, hx])) (Kd.R_drew H8.out.row) HZ.out.2 (Nat.le_trans H8.out.low H8.out.fr.size)
        refine HCall_.mono ?_
        clear HCall_
        rintro e w9 ⟨v2, rfl, hR1, hf1, hat1⟩
        have H9 := hid (H8.out.turn (W1 := w9) hR1 ⟨hf1.os, hf1.tape, hf1.output, hf1.size, hf1.block⟩ hat1)
        clear hR1 hf1 hat1
        refine ⟨_, rfl, ?_⟩
        refine hK.out _ _ ?_
        clear hK K_
        refine norm_ (a' := ?_) ?_ ?_
        rotate_left
        · show Act.put _ (some 51) _ = _
          simp only [Act.put, List.setIfInBounds_toArray, List.set_cons_zero, List.set_cons_succ]
          rfl
        refine pure_ (i := 7) (N := some 2) (v := ?_) (a' := ?_) #[true, true, true, true, true, true, true, true] rfl rfl (any_of HT_.out (by kernel_rfl)) (fun _ _ _ h => h) (Or.inl ⟨by rfl, ?_⟩) ?_ ?_
        rotate_left
        · intro w'
          go_simp
          with_reducible rfl
        rotate_left
        · simp only [Act.put, List.setIfInBounds_toArray, List.set_cons_zero, List.set_cons_succ]
          rfl
        refine done_ (done_of HT_.out (by kernel_rfl)) ?_
        clear HT_ HW_
        clear HZ
        have HE : Hid (xs ++ (T.over a b (N.raw (.node n s h m l r))).map tri = (xs1 ++ [tri s]) ++ (T.over a b r.raw).map tri) := by
          refine hid ?_
          rw [HO2.out, ← HX.out]; simp
        go_wp2_with fail
        go_ret
        exact ⟨v2, rfl, by rw [HE.out]; exact H9.out.row, H9.out.fr, H9.out.at_.imp id (fun ⟨k, q, hk⟩ => ⟨k, q, Nat.le_of_lt hk⟩)⟩
      · rw [decide_eq_false h2]
        go_wp2_with fail
        have c0 : w3.cell? ⟨n, 0, none⟩ = some (.int .i64 s.lo) := H3.out.nd.cell 0
        have k1 : w3.cell? ⟨w.heap.size, 1, none⟩ = some (.int .i64 b) := H3.out.box.cell 1
        refine still_drew (by kernel_rfl) (by kernel_rfl) ?_
        repeat still_step
        refine wpStill_nil ?_
        have H8 := hid (H3.out.below (W1 := w3.drew) ((Below.refl _ _).drew))
        clear c0 k1 H3
        generalize w3.drew = w8 at H8 ⊢
        by_cases h3 : b ≤ s.lo
        · have HO2 : Hid (T.over a b (N.raw (.node n s h m l r)) = T.over a b l.raw) := by
            refine hid ?_
            rw [HO.out, if_neg h2, if_pos h3]; simp
          skip
          have HE : Hid (xs ++ (T.over a b (N.raw (.node n s h m l r))).map tri = xs1) := by
            refine hid ?_
            rw [HO2.out, ← HX.out]
          go_wp2_with fail
          go_ret
          exact ⟨v1, rfl, by rw [HE.out]; exact H8.out.row, H8.out.fr, H8.out.at_.imp id (fun ⟨k, q, hk⟩ => ⟨k, q, Nat.le_of_lt hk⟩)⟩
        · have HO2 : Hid (T.over a b (N.raw (.node n s h m l r)) = T.over a b l.raw ++ T.over a b r.raw) := by
            refine hid ?_
            rw [HO.out, if_neg h2, if_neg h3]; simp
          go_wp2_with fail
          have HZ : Hid (True ∧ (xs1.length : Int) + r.raw.size ≤ 1099511627776) := ⟨trivial, by have := HZ1'.out; omega⟩
          clear h2 h3
          have k0 : w8.cell? ⟨w.heap.size, 0, none⟩ = some (.int .i64 a) := H8.out.box.cell 0
          have k1 : w8.cell? ⟨w.heap.size, 1, none⟩ = some (.int .i64 b) := H8.out.box.cell 1
          have c5 : w8.cell? ⟨n, 5, none⟩ = some r.ptr := H8.out.nd.cell 5
          refine start_ (n := 8) (S := fun w' => w'.cell? ⟨n, 5, none⟩ = some (r.ptr) ∧ w'.cell? ⟨w.heap.size, 0, none⟩ = some (.int .i64 a) ∧ w'.cell? ⟨w.heap.size, 1, none⟩ = some (.int .i64 b)) (ds := [6]) #[false, false, false, false, false, false, false, false] (by kernel_rfl) rfl rfl ⟨c5, k0, k1⟩ (fun hHeld => ?_)
          refine with_tabW ov10.tab ov10.bits (fun HT_ HW_ => ?_)
          clear c5 k0 k1
          refine pure_ (i := 0) (N := some 45) (v := ?_) (a' := ?_) #[true, false, false, false, false, false, false, false] rfl rfl (any_of HT_.out (by kernel_rfl)) (fun _ _ _ h => h) (Or.inl ⟨by rfl, ?_⟩) ?_ ?_
          rotate_left
          · intro w'
            go_simp
            with_reducible rfl
          rotate_left
          · simp only [Act.put, List.setIfInBounds_toArray, List.set_cons_zero, List.set_cons_succ]
            rfl
          refine pure_ (i := 1) (N := some 46) (v := ?_) (a' := ?_) #[true, true, false, false, false, false, false, false] rfl rfl (any_of HT_.out (by kernel_rfl)) (fun _ _ _ h => h) (Or.inl ⟨by rfl, ?_⟩) ?_ ?_
          rotate_left
          · intro w'
            go_simp
            with_reducible rfl
          rotate_left
          · simp only [Act.put, List.setIfInBounds_toArray, List.set_cons_zero, List.set_cons_succ]
            rfl
          refine pure_ (i := 2) (N := some 47) (v := ?_) (a' := ?_) #[true, true, true, false, false, false, false, false] rfl rfl (any_of HT_.out (by kernel_rfl)) (fun _ _ _ h => h) (Or.inl ⟨by rfl, ?_⟩) ?_ ?_
          rotate_left
          · intro w'
            go_simp
            with_reducible rfl
          rotate_left
          · simp only [Act.put, List.setIfInBounds_toArray, List.set_cons_zero, List.set_cons_succ]
            rfl
          refine take_ (i := 3) (N := some 48) (v := ?_) (a' := ?_) #[true, true, true, true, false, false, false, false] rfl rfl (take_ofW HT_.out HW_.out (by kernel_rfl)) (fun _ _ _ h => h) (Or.inl ⟨by rfl, ?_⟩) hHeld ?_ ?_
          rotate_left
          · intro w' s0
            obtain ⟨s1, s2, s3⟩ := s0
            go_simp
            with_reducible rfl
          rotate_left
          · simp only [Act.put, List.setIfInBounds_toArray, List.set_cons_zero, List.set_cons_succ]
            rfl
          refine take_ (i := 4) (N := some 49) (v := ?_) (a' := ?_) #[true, true, true, true, true, false, false, false] rfl rfl (take_ofW HT_.out HW_.out (by kernel_rfl)) (fun _ _ _ h => h) (Or.inl ⟨by rfl, ?_⟩) hHeld ?_ ?_
          rotate_left
          · intro w' s0
            obtain ⟨s1, s2, s3⟩ := s0
            go_simp
            with_reducible rfl
          rotate_left
          · simp only [Act.put, List.setIfInBounds_toArray, List.set_cons_zero, List.set_cons_succ]
            rfl
          refine pure_ (i := 5) (N := some 50) (v := ?_) (a' := ?_) #[true, true, true, true, true, true, false, false] rfl rfl (any_of HT_.out (by kernel_rfl)) (fun _ _ _ h => h) (Or.inl ⟨by rfl, ?_⟩) ?_ ?_
          rotate_left
          · intro w'
            go_simp
            with_reducible rfl
          rotate_left
          · simp only [Act.put, List.setIfInBounds_toArray, List.set_cons_zero, List.set_cons_succ]
            rfl
          refine last_ (i := 6) (N := some 51) #[true, true, true, true, true, true, true, false] rfl rfl (one_of HT_.out (by kernel_rfl)) (by decide) (fun K_ hK => ?_)
          refine call_ (N := some 51) 55 #[r.ptr, .agg #[.int .i64 a, .int .i64 b], v1] (by rfl) rfl (by go_simp) ?_
          have HCall_ := overlaps_any a b base r (xs1) (v1) w8.drew (N.In.drew H8.out.rt) (fun x hx => H8.out.away x (by simp [N.ids, hx])) (Kd.R_drew H8.out.row) HZ.out.2 (Nat.le_trans H8.out.low H8.out.fr.size)
          refine HCall_.mono ?_
          clear HCall_
          rintro e w9 ⟨v2, rfl, hR1, hf1, hat1⟩
          have H9 := hid (H8.out.turn (W1 := w9) hR1 ⟨hf1.os, hf1.tape, hf1.output, hf1.size, hf1.block⟩ hat1)
          clear hR1 hf1 hat1
          refine ⟨_, rfl, ?_⟩
          refine hK.out _ _ ?_
          clear hK K_
          refine norm_ (a' := ?_) ?_ ?_
          rotate_left
          · show Act.put _ (some 51) _ = _
            simp only [Act.put, List.setIfInBounds_toArray, List.set_cons_zero, List.set_cons_succ]
            rfl
          refine pure_ (i := 7) (N := some 2) (v := ?_) (a' := ?_) #[true, true, true, true, true, true, true, true] rfl rfl (any_of HT_.out (by kernel_rfl)) (fun _ _ _ h => h) (Or.inl ⟨by rfl, ?_⟩) ?_ ?_
          rotate_left
          · intro w'
            go_simp
            with_reducible rfl
          rotate_left
          · simp only [Act.put, List.setIfInBounds_toArray, List.set_cons_zero, List.set_cons_succ]
            rfl
          refine done_ (done_of HT_.out (by kernel_rfl)) ?_
          clear HT_ HW_
          clear HZ
          have HE : Hid (xs ++ (T.over a b (N.raw (.node n s h m l r))).map tri = (xs1) ++ (T.over a b r.raw).map tri) := by
            refine hid ?_
            rw [HO2.out, ← HX.out]; simp
          go_wp2_with fail
          go_ret
          exact ⟨v2, rfl, by rw [HE.out]; exact H9.out.row, H9.out.fr, H9.out.at_.imp id (fun ⟨k, q, hk⟩ => ⟨k, q, Nat.le_of_lt hk⟩)⟩
end Go.Proofs.Ytmnjkdbopafkfaa.Int
