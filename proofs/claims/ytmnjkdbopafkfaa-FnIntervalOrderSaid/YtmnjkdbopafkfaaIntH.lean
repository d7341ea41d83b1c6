/- Interval trees in memory: the walk through all, with the function that gathers what is there. For every tree. -/
import Derived.Test.YtmnjkdbopafkfaaIntG
namespace Go.Proofs.Ytmnjkdbopafkfaa.Int
open Go Go.RowKit Go.Deep Go.Proofs.Ytmnjkdbopafkfaa.Hk Go.Proofs.Ytmnjkdbopafkfaa.IntPure Go.Proofs.Ytmnjkdbopafkfaa.IntPure.T Go.Proofs.YtmnjkdbopafkfaaW.PrintWords Go.Proofs.YtmnjkdbopafkfaaW.PrintLast Go.Proofs.YtmnjkdbopafkfaaW.PrintMore

theorem infoSpan : (Try.prog.info? 29).map (fun i => (i.zero, i.size, i.bytes)) = some (some (.agg #[.int .i64 0, .int .i64 0, .int .i64 0]), 3, 24) := by kernel_rfl
theorem und30 : Try.prog.underlying 30 = some (.slice 29) := by kernel_rfl
/-- What has been gathered so far: x's variable, and its row, made since the heap was N0 blocks. -/
def Acc (N0 X : Nat) (ks : List (Int × Int × Int)) (w : World) : Prop :=
  ∃ K, Blk w X #[.int .i64 0, .int .i64 0, .int .i64 0, .bool false, K, .int .i64 0] 32 ∧ X < N0 ∧ N0 ≤ w.heap.size ∧ spK.R 29 w N0 (fun _ => True) K ks
theorem Acc.drew {N0 X : Nat} {ks : List (Int × Int × Int)} {w : World} (h : Acc N0 X ks w) : Acc N0 X ks w.drew := by
  obtain ⟨K, h1, h2, h3, h4⟩ := h
  exact ⟨K, h1, h2, h3, Kd.R_drew h4⟩
theorem rowB {N0 : Nat} {e : Nat} {w : World} {ok : Nat → Prop} {v : Value} {xs : List (Int × Int × Int)} (h : spK.R e w N0 ok v xs) : ∀ k, v.ownBlock = some k → N0 ≤ k ∧ k < w.heap.size := fun k hk => ⟨Kd.R_base h k hk, Kd.R_lt h k hk⟩

theorem do1_mid {N0 X : Nat} {ks ys : List (Int × Int × Int)} {K v1 : Value} {w w1 : World} (hB : Blk w X #[.int .i64 0, .int .i64 0, .int .i64 0, .bool false, K, .int .i64 0] 32) (hX : X < N0) (hN : N0 ≤ w.heap.size) (hK : spK.R 29 w N0 (fun _ => True) K ks)
    (hR : spK.R 29 w1 N0 (fun _ => True) v1 ys) (hg : w.grownBy w1 K.ownBlock) :
    Blk w1 X #[.int .i64 0, .int .i64 0, .int .i64 0, .bool false, K, .int .i64 0] 32 ∧ N0 ≤ w1.heap.size ∧ spK.R 29 w1 N0 (fun _ => True) v1 ys ∧ Fr (fun b => b = X ∨ N0 ≤ b) w w1 := by
  have h2 := rowB hK
  exact ⟨(hg.block X hB.lt (fun e => by have := h2 X e.symm; omega)).trans hB, Nat.le_trans hN hg.size, hR, (Fr.of_grown hg).into (fun k e => .inr (h2 k e.symm).1)⟩
set_option maxHeartbeats 4000000 in
set_option maxRecDepth 100000 in
theorem do1_any (N0 X : Nat) (ks : List (Int × Int × Int)) (lo hi v : Int) (w : World) (hA : Acc N0 X ks w) (hl : ks.length ≤ 1099511627776) :
    Calls Try.prog 41 #[.int .i64 lo, .int .i64 hi, .int .i64 v, .pointer (some ⟨X, 0, none⟩)] w fun e w' => e = .returned (.tuple #[]) ∧ Acc N0 X (ks ++ [(lo, hi, v)]) w' ∧ Fr (fun b => b = X ∨ N0 ≤ b) w w' := by
  obtain ⟨K, hB, hX, hN, hK⟩ := hA
  have c4 : w.cell? ⟨X, 4, none⟩ = some K := hB.cell 4
  have H : Hid (Blk w X #[.int .i64 0, .int .i64 0, .int .i64 0, .bool false, K, .int .i64 0] 32 ∧ X < N0 ∧ N0 ≤ w.heap.size ∧ spK.R 29 w N0 (fun _ => True) K ks) := ⟨hB, hX, hN, hK⟩
  clear hB hX hN hK
  go_enter Try.func41, Try.ntmps41
  go_wp2_with (first | (at_builtin; go_loud (refine Kd.R_append spK (w0 := w) (W := w) N0 rfl (.tmp 8) (.tmp 13) 30 29 (.agg #[.int .i64 0, .int .i64 0, .int .i64 0]) 24 rfl und30 infoSpan rfl (by decide) (by omega) K ks (lo, hi, v) [.int .i64 lo, .int .i64 hi, .int .i64 v] (fun _ => True) (fun _ => False) rfl rfl (spK_M _ _ _ _ _ _) (fun _ hk => hk.elim) (fun _ _ => trivial) H.out.2.2.2 (Below.refl _ _) H.out.2.2.1 (by omega) ?_; intro v1 w1 hR hB hg hat; have HE := hid (do1_mid H.out.1 H.out.2.1 H.out.2.2.1 H.out.2.2.2 hR hg); obtain ⟨A1, c1, rfl⟩ := Kd.R_slice hR; have c4' : w1.cell? ⟨X, 4, none⟩ = some K := HE.out.1.cell 4; have f4 : w1.frozen? ⟨X, 4, none⟩ = false := HE.out.1.free 4; clear hR hB hg hat)))
  have HX : Hid (X < N0) := H.out.2.1
  go_end0
  refine ⟨rfl, ⟨_, HE.out.1.set 4 _, HX.out, by have := HE.out.2.1; simpa [World.setCell] using this, ?_⟩, HE.out.2.2.2.setCell (p := ⟨X, 4, none⟩) (fun _ => .inl rfl) _⟩
  have hr := HE.out.2.2.1
  rw [List.length_append, List.length_singleton] at hr
  exact Kd.R_mono (Kd.R_far (p := ⟨X, 4, none⟩) (Kd.R_reok (ok := fun b => b ≠ X) rfl hr (fun b hb => by have := rowB hr b hb; have := HX.out; omega)) (fun _ h => h) _) (fun _ _ => trivial)

/-- The function value that gathers into X. -/
def cloV (X : Nat) : Value := .func (.func 41) #[] #[.pointer (some ⟨X, 0, none⟩)]
def all (t : T) : List (Int × Int × Int) := t.list.map tri
theorem all_length (t : T) : ((all t).length : Int) = t.size := by rw [T.size_list]; simp [all]
theorem all_node (s : S) (h m : Int) (l r : T) : all (.node s h m l r) = all l ++ tri s :: all r := by simp [all, T.list]

set_option maxHeartbeats 4000000 in
set_option maxRecDepth 100000 in
theorem each_any (N0 X : Nat) : ∀ (t : N) (ks : List (Int × Int × Int)) (w : World), t.In w → (∀ b ∈ t.ids, b < N0 ∧ b ≠ X) → Acc N0 X ks w →
    (ks.length : Int) + t.raw.size ≤ 1099511627776 →
    Calls Try.prog 56 #[t.ptr, cloV X] w fun e w' => e = .returned (.tuple #[]) ∧ Acc N0 X (ks ++ all t.raw) w' ∧ Fr (fun b => b = X ∨ N0 ≤ b) w w'
  | .nil, ks, w, _, _, hA, _ => by
    have HA : Hid (Acc N0 X ks w) := hA
    clear hA
    show Calls Try.prog 56 #[.pointer none, .func (.func 41) #[] #[.pointer (some ⟨X, 0, none⟩)]] w _
    go_enter Try.func56, Try.ntmps56
    go_wp2_with fail
    (try simp only [Exit.inBlock, Exit.then]); refine bodyPost_ret (results_none rfl _ _ _) rfl ?_
    exact ⟨rfl, by show Acc N0 X (ks ++ []) w; rw [List.append_nil]; exact HA.out, Fr.refl _ _⟩
  | .node b s h m l r, ks, w, hin, hid', hA, hsz => by
    have e0 : (N.node b s h m l r).raw.size = 1 + l.raw.size + r.raw.size := rfl
    have s1 := T.size_nonneg l.raw
    have s2 := T.size_nonneg r.raw
    rw [e0] at hsz
    have HA : Hid (Acc N0 X ks w) := hA
    have HI : Hid ((N.node b s h m l r).In w) := hin
    have HD : Hid ((b < N0 ∧ b ≠ X) ∧ (∀ x ∈ l.ids, x < N0 ∧ x ≠ X) ∧ (∀ x ∈ r.ids, x < N0 ∧ x ≠ X)) :=
      ⟨hid' b (by simp [N.ids]), fun x hx => hid' x (by simp [N.ids, hx]), fun x hx => hid' x (by simp [N.ids, hx])⟩
    have kl := all_length l.raw
    have HZ : Hid ((ks.length : Int) + l.raw.size ≤ 1099511627776 ∧ (ks ++ all l.raw).length ≤ 1099511627776 ∧ ((ks ++ all l.raw ++ [tri s]).length : Int) + r.raw.size ≤ 1099511627776) := by
      simp only [List.length_append, List.length_singleton]
      refine ⟨by omega, by omega, by omega⟩
    have c4 : w.cell? ⟨b, 4, none⟩ = some l.ptr := hin.1.cell 4
    have HR : Hid (ks ++ all (N.node b s h m l r).raw = ks ++ all l.raw ++ [tri s] ++ all r.raw) := by
      show ks ++ all (.node s h m l.raw r.raw) = _
      rw [all_node]; simp
    clear hin hid' hA hsz e0 s1 s2 kl
    show Calls Try.prog 56 #[.pointer (some ⟨b, 0, none⟩), .func (.func 41) #[] #[.pointer (some ⟨X, 0, none⟩)]] w _
    go_enter Try.func56, Try.ntmps56
    go_wp2_with fail
    refine (each_any N0 X l ks w HI.out.2.1 HD.out.2.1 HA.out HZ.out.1).mono ?_
    rintro e w1 ⟨rfl, hA1, hF1⟩
    have B1 := HI.out.1.fr hF1 (fun e => by have := HD.out.1; omega)
    have R1 := N.In.fr hF1 HI.out.2.2 (fun x hx e => by have := HD.out.2.2 x hx; omega)
    have c0 : w1.cell? ⟨b, 0, none⟩ = some (.int .i64 s.lo) := B1.cell 0
    have c1 : w1.cell? ⟨b, 1, none⟩ = some (.int .i64 s.hi) := B1.cell 1
    have c2 : w1.cell? ⟨b, 2, none⟩ = some (.int .i64 s.v) := B1.cell 2
    have H1 : Hid (Acc N0 X (ks ++ all l.raw) w1 ∧ Fr (fun b => b = X ∨ N0 ≤ b) w w1 ∧ Blk w1 b (cs s h m l r) 110 ∧ r.In w1) := ⟨hA1, hF1, B1, R1⟩
    clear hA1 hF1 B1 R1 c4
    go_wp2_with fail
    refine still_tail_drew 15 (by kernel_rfl) (by kernel_rfl) ?_
    simp only [List.take_succ_cons, List.take_zero, List.drop_succ_cons, List.drop_zero]
    repeat still_step
    refine wpStill_nil ?_
    go_wp2_with fail
    refine (do1_any N0 X (ks ++ all l.raw) s.lo s.hi s.v w1.drew H1.out.1.drew HZ.out.2.1).mono ?_
    rintro e w2 ⟨rfl, hA2, hF2⟩
    have hF2' : Fr (fun b => b = X ∨ N0 ≤ b) w1 w2 := ⟨hF2.os, hF2.tape, hF2.output, hF2.size, hF2.block⟩
    have B2 := H1.out.2.2.1.fr hF2' (fun e => by have := HD.out.1; omega)
    have R2 := N.In.fr hF2' H1.out.2.2.2 (fun x hx e => by have := HD.out.2.2 x hx; omega)
    have c5 : w2.cell? ⟨b, 5, none⟩ = some r.ptr := B2.cell 5
    have H2 : Hid (Acc N0 X (ks ++ all l.raw ++ [tri s]) w2 ∧ Fr (fun b => b = X ∨ N0 ≤ b) w w2 ∧ r.In w2) := ⟨hA2, H1.out.2.1.trans hF2' (fun _ _ e => e), R2⟩
    clear hA2 hF2 hF2' B2 R2 c0 c1 c2
    go_wp2_with fail
    refine (each_any N0 X r (ks ++ all l.raw ++ [tri s]) w2 H2.out.2.2 HD.out.2.2 H2.out.1 HZ.out.2.2).mono ?_
    rintro e w3 ⟨rfl, hA3, hF3⟩
    have H3 : Hid (Acc N0 X (ks ++ all l.raw ++ [tri s] ++ all r.raw) w3 ∧ Fr (fun b => b = X ∨ N0 ≤ b) w w3) := ⟨hA3, H2.out.2.1.trans hF3 (fun _ _ e => e)⟩
    clear hA3 hF3
    go_wp2_with fail
    go_end0
    exact ⟨rfl, by rw [HR.out]; exact H3.out.1, H3.out.2⟩

set_option maxHeartbeats 4000000 in
set_option maxRecDepth 100000 in
theorem tEach_any (base R : Nat) (t : N) (N0 X : Nat) (w : World) (hT : Tree base R t w) (hid' : ∀ b ∈ t.ids, b < N0 ∧ b ≠ X) (hA : Acc N0 X [] w) (hs : t.raw.size ≤ 1099511627776) :
    Calls Try.prog 40 #[.pointer (some ⟨R, 0, none⟩), cloV X] w fun e w' => e = .returned (.tuple #[]) ∧ Acc N0 X (all t.raw) w' ∧ Fr (fun b => b = X ∨ N0 ≤ b) w w' := by
  have HT := hid hT
  have HA : Hid (Acc N0 X [] w ∧ (∀ b ∈ t.ids, b < N0 ∧ b ≠ X) ∧ t.raw.size ≤ 1099511627776) := ⟨hA, hid', hs⟩
  have c0 : w.cell? ⟨R, 0, none⟩ = some t.ptr := hT.root.cell 0
  clear hT hid' hA hs
  show Calls Try.prog 40 #[.pointer (some ⟨R, 0, none⟩), .func (.func 41) #[] #[.pointer (some ⟨X, 0, none⟩)]] w _
  go_enter Try.func40, Try.ntmps40
  go_wp2_with fail
  refine (each_any N0 X t [] w HT.out.good.mem HA.out.2.1 HA.out.1 (by have := HA.out.2.2; simpa using this)).mono ?_
  rintro e w1 ⟨rfl, hA1, hF1⟩
  have H1 := hid (And.intro hA1 hF1)
  clear hA1 hF1 c0
  go_wp2_with fail
  go_end0
  exact ⟨rfl, H1.out.1, H1.out.2⟩

set_option maxHeartbeats 4000000 in
set_option maxRecDepth 100000 in
theorem span_any (x y z : Int) (w : World) : Calls Try.prog 39 #[.agg #[.int .i64 x, .int .i64 y, .int .i64 z]] w fun e w' => e = .returned (.agg #[.int .i64 x, .int .i64 y, .int .i64 z]) ∧ Below w.heap.size w w' := by
  go_enter Try.func39, Try.ntmps39
  go_wp2_with fail
  refine bodyPost_ret (v := .agg #[.int .i64 x, .int .i64 y, .int .i64 z]) (by simp [results, Try.results39, go_sem]) rfl ⟨rfl, ?_⟩
  repeat (first | exact Below.refl _ _ | refine Below.setCell ?_ (by simp) _ | refine Below.alloc ?_ (by simp) _ | (refine Below.drew ?_))
end Go.Proofs.Ytmnjkdbopafkfaa.Int
