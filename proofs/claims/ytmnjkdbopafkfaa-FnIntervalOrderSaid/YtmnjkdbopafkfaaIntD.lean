/- Interval trees in memory: what is removed, found, counted. For every balanced tree with right heights and greatest ends. -/
import Derived.Test.YtmnjkdbopafkfaaIntC
namespace Go.Proofs.Ytmnjkdbopafkfaa.Int
open Go Go.RowKit Go.Deep Go.Proofs.Ytmnjkdbopafkfaa.Hk Go.Proofs.Ytmnjkdbopafkfaa.IntPure Go.Proofs.Ytmnjkdbopafkfaa.IntPure.T Go.Proofs.YtmnjkdbopafkfaaW.PrintWords Go.Proofs.YtmnjkdbopafkfaaW.PrintLast Go.Proofs.YtmnjkdbopafkfaaW.PrintMore
def this8.T : Bool × List (List Nat × List Nat) := (true, [([], []), ([], []), ([1], [1]), ([2], [2]), ([3], [3]), ([], []), ([5], [5]), ([6], [6]), ([7], [7]), ([8], [8]), ([4, 9], [4, 9]), ([10], [10]), ([11], [11]), ([11], [11]), ([11], [11]), ([0, 0, 1, 2, 3, 4, 5, 6, 7, 8, 9, 10, 11, 12], [0]), ([15, 0, 1, 2, 3, 4, 5, 6, 7, 8, 9, 10, 11, 12], [15]), ([16, 12, 10, 0, 1, 2, 3, 4, 5, 6, 7, 8, 9, 10, 11, 12], [12, 16])])
def this8.B : List Nat := [0, 0, 2, 6, 14, 0, 32, 96, 224, 480, 1022, 2046, 4094, 4094, 4094, 8191, 40959, 106495]
theorem this8.tab : rtab .any (opsOf Try.f63 8) = this8.T := by kernel_rfl
theorem this8.bits : waitsOk this8.T.2 this8.B = true := by kernel_rfl
def rem11.T : Bool × List (List Nat × List Nat) := (true, [([], []), ([0], [0]), ([], []), ([], []), ([1, 1, 0, 1], [1]), ([2, 4, 0, 1, 2, 4], [2]), ([3, 5, 0, 1, 2, 3, 4, 5], [3])])
def rem11.B : List Nat := [0, 1, 0, 0, 3, 23, 63]
theorem rem11.tab : rtab .any (opsOf Try.f52 11) = rem11.T := by kernel_rfl
theorem rem11.bits : waitsOk rem11.T.2 rem11.B = true := by kernel_rfl

/-- The node farthest to the left. -/
def N.low : N → N
  | .nil => .nil
  | .node b s h m .nil r => .node b s h m .nil r
  | .node _ _ _ _ (.node b s h m l r) _ => N.low (.node b s h m l r)
theorem low_node : ∀ (b : Nat) (s : S) (h m : Int) (l r : N), ∃ b2 s2 h2 m2 r2, (N.node b s h m l r).low = .node b2 s2 h2 m2 .nil r2 ∧ s2 = T.least (N.node b s h m l r).raw ∧ b2 ∈ (N.node b s h m l r).ids
  | b, s, h, m, .nil, r => ⟨b, s, h, m, r, rfl, rfl, by simp [N.ids]⟩
  | b, s, h, m, .node b1 s1 h1 m1 l1 r1, r => by
    obtain ⟨b2, s2, h2, m2, r2, e1, e2, e3⟩ := low_node b1 s1 h1 m1 l1 r1
    exact ⟨b2, s2, h2, m2, r2, e1, e2, by
      have : b2 ∈ b1 :: (l1.ids ++ r1.ids) := e3
      show b2 ∈ b :: ((b1 :: (l1.ids ++ r1.ids)) ++ r.ids)
      exact List.mem_cons_of_mem _ (List.mem_append_left _ this)⟩
theorem low_in {w : World} : ∀ {t : N}, t.In w → t.low.In w
  | .nil, _ => trivial
  | .node _ _ _ _ .nil _, h => h
  | .node _ _ _ _ (.node b s h m l r) _, hin => by
    have := low_in (t := .node b s h m l r) hin.2.1
    exact this
set_option maxRecDepth 100000 in
theorem findSmallest_any : ∀ (b : Nat) (s : S) (h m : Int) (l r : N) (w : World), (N.node b s h m l r).In w →
    Calls Try.prog 69 #[.pointer (some ⟨b, 0, none⟩)] w fun e w' => e = .returned (N.node b s h m l r).low.ptr ∧ w = w'
  | b, s, h, m, .nil, r, w, hin => by
    have c4 : w.cell? ⟨b, 4, none⟩ = some (.pointer none) := hin.1.cell 4
    clear hin
    go_enter Try.func69, Try.ntmps69
    go_wp2_with fail
    go_ret
    exact ⟨rfl, rfl⟩
  | b, s, h, m, .node b1 s1 h1 m1 l1 r1, r, w, hin => by
    have c4 : w.cell? ⟨b, 4, none⟩ = some (.pointer (some ⟨b1, 0, none⟩)) := hin.1.cell 4
    have HI : Hid ((N.node b1 s1 h1 m1 l1 r1).In w) := hin.2.1
    clear hin
    go_enter Try.func69, Try.ntmps69
    go_wp2_with fail
    refine (findSmallest_any b1 s1 h1 m1 l1 r1 w HI.out).mono ?_
    rintro e w' ⟨rfl, rfl⟩
    go_wp2_with fail
    go_ret
    exact ⟨rfl, rfl⟩

/-- What remove leaves. -/
def Removed (key : Int) (t : N) (w : World) (e : Ending) (w' : World) : Prop :=
  ∃ (t' : N) (kv : S) (ok : Bool), e = .returned (.tuple #[t'.ptr, .agg #[.int .i64 kv.lo, .int .i64 kv.hi, .int .i64 kv.v], .bool ok]) ∧ T.rem t.raw key = (t'.raw, kv, ok) ∧ Put t t' w w'
/-- What is in the place of a node that goes. -/
def thisT (h m : Int) (l r : T) : T := if l.isNil = true then r else if r.isNil = true then l else .node (T.least r) h m l (T.rem r (T.least r).lo).1
def This (b : Nat) (s : S) (h m : Int) (l r : N) (w : World) (e : Ending) (w' : World) : Prop :=
  ∃ t' : N, e = .returned t'.ptr ∧ t'.raw = thisT h m l.raw r.raw ∧ Put (.node b s h m l r) t' w w'

set_option maxHeartbeats 4000000 in
set_option maxRecDepth 100000 in
theorem this_any {base : Nat} (b : Nat) (s : S) (h m : Int) (l r : N) (w : World) (g : Good base w (.node b s h m l r)) (ht : r.raw.tall ≤ 4294950000)
    (ih : ∀ (key : Int) (w : World), Good base w r → r.raw.tall ≤ 4294950000 → Calls Try.prog 52 #[r.ptr, .int .i64 key] w (Removed key r w)) :
    Calls Try.prog 63 #[.pointer (some ⟨b, 0, none⟩)] w (This b s h m l r w) := by
  have HG : Hid (Good base w (.node b s h m l r)) := g
  have hlt := N.In.lt g.mem
  cases l with
  | nil =>
    have c4 : w.cell? ⟨b, 4, none⟩ = some (.pointer none) := g.mem.1.cell 4
    have c5 : w.cell? ⟨b, 5, none⟩ = some r.ptr := g.mem.1.cell 5
    clear g ih hlt ht
    go_enter Try.func63, Try.ntmps63
    go_wp2_with fail
    go_ret
    exact ⟨r, rfl, rfl, HG.out.mem.2.2, HG.out.rt.nodup, fun x hx => .inl (by simp [N.ids, hx]), Fr.refl _ _⟩
  | node bl sl hl ml ll lr =>
    cases r with
    | nil =>
      have c4 : w.cell? ⟨b, 4, none⟩ = some (.pointer (some ⟨bl, 0, none⟩)) := g.mem.1.cell 4
      have c5 : w.cell? ⟨b, 5, none⟩ = some (.pointer none) := g.mem.1.cell 5
      clear g ih hlt ht
      go_enter Try.func63, Try.ntmps63
      go_wp2_with fail
      go_ret
      exact ⟨.node bl sl hl ml ll lr, rfl, rfl, HG.out.mem.2.1, HG.out.lf.nodup, fun x hx => .inl (by
        have hx' : x ∈ (N.node bl sl hl ml ll lr).ids := hx
        show x ∈ b :: ((N.node bl sl hl ml ll lr).ids ++ N.ids .nil)
        simp [hx']), Fr.refl _ _⟩
    | node br sr hr mr rl rr =>
      obtain ⟨bq, sq, hq, mq, rq, e1, e2, e3⟩ := low_node br sr hr mr rl rr
      have nd := nodup_node g.nodup
      have hbq : b ≠ bq := fun e => nd.2.1 (e ▸ e3)
      have hbq' : bq ≠ b := fun e => hbq e.symm
      have bqb : Blk w bq (cs sq hq mq .nil rq) 110 := by
        have := low_in g.mem.2.2
        rw [e1] at this; exact this.1
      have c4 : w.cell? ⟨b, 4, none⟩ = some (.pointer (some ⟨bl, 0, none⟩)) := g.mem.1.cell 4
      have c5 : w.cell? ⟨b, 5, none⟩ = some (.pointer (some ⟨br, 0, none⟩)) := g.mem.1.cell 5
      have d0 : w.cell? ⟨b, 0, none⟩ = some (.int .i64 s.lo) := g.mem.1.cell 0
      have d1 : w.cell? ⟨b, 1, none⟩ = some (.int .i64 s.hi) := g.mem.1.cell 1
      have d2 : w.cell? ⟨b, 2, none⟩ = some (.int .i64 s.v) := g.mem.1.cell 2
      have f0 : w.frozen? ⟨b, 0, none⟩ = false := g.mem.1.free 0
      have f1 : w.frozen? ⟨b, 1, none⟩ = false := g.mem.1.free 1
      have f2 : w.frozen? ⟨b, 2, none⟩ = false := g.mem.1.free 2
      have q0 : w.cell? ⟨bq, 0, none⟩ = some (.int .i64 sq.lo) := bqb.cell 0
      have q1 : w.cell? ⟨bq, 1, none⟩ = some (.int .i64 sq.hi) := bqb.cell 1
      have q2 : w.cell? ⟨bq, 2, none⟩ = some (.int .i64 sq.v) := bqb.cell 2
      have HI : Hid (∀ (key : Int) (w : World), Good base w (.node br sr hr mr rl rr) → T.tall (N.raw (.node br sr hr mr rl rr)) ≤ 4294950000 → Calls Try.prog 52 #[.pointer (some ⟨br, 0, none⟩), .int .i64 key] w (Removed key (.node br sr hr mr rl rr) w)) := ih
      have HT : Hid (T.tall (N.raw (.node br sr hr mr rl rr)) ≤ 4294950000) := ht
      have HQ : Hid (sq = T.least (N.raw (.node br sr hr mr rl rr)) ∧ (N.node br sr hr mr rl rr).low = .node bq sq hq mq .nil rq ∧ Blk w bq (cs sq hq mq .nil rq) 110 ∧ b ≠ bq) := ⟨e2, e1, bqb, hbq⟩
      clear g ih hlt ht nd e1 e2 e3 bqb
      go_enter Try.func63, Try.ntmps63
      go_wp2_with fail
      refine (findSmallest_any br sr hr mr rl rr w HG.out.mem.2.2).mono ?_
      rintro e w' ⟨rfl, rfl⟩
      rw [HQ.out.2.1, show (N.node bq sq hq mq .nil rq).ptr = .pointer (some ⟨bq, 0, none⟩) from rfl]
      go_wp2_with fail
      clear c4 c5 d0 d1 d2 f0 f1 f2 q0 q1 q2 hbq hbq'
      have HW : Hid (Fr (· = b) w (((w.setCell ⟨b, 0, none⟩ (.int .i64 sq.lo)).setCell ⟨b, 1, none⟩ (.int .i64 sq.hi)).setCell ⟨b, 2, none⟩ (.int .i64 sq.v)) ∧ Blk (((w.setCell ⟨b, 0, none⟩ (.int .i64 sq.lo)).setCell ⟨b, 1, none⟩ (.int .i64 sq.hi)).setCell ⟨b, 2, none⟩ (.int .i64 sq.v)) b (cs sq h m (.node bl sl hl ml ll lr) (.node br sr hr mr rl rr)) 110) :=
        ⟨(Fr.one.then Fr.one).then Fr.one, ((HG.out.mem.1.set 0 _).set 1 _).set 2 _⟩
      generalize ((w.setCell ⟨b, 0, none⟩ (.int .i64 sq.lo)).setCell ⟨b, 1, none⟩ (.int .i64 sq.hi)).setCell ⟨b, 2, none⟩ (.int .i64 sq.v) = w1 at HW ⊢
      have HS : Hid (Good base w1 (.node br sr hr mr rl rr) ∧ (N.node b sq h m (.node bl sl hl ml ll lr) (.node br sr hr mr rl rr)).In w1 ∧ (N.node b sq h m (.node bl sl hl ml ll lr) (.node br sr hr mr rl rr)).ids.Nodup) := by
        have nd := nodup_node HG.out.nodup
        have gr := HG.out.rt.fr HW.out.1 (fun x hx e => nd.2.1 (e ▸ hx))
        exact ⟨gr, ⟨HW.out.2, N.In.fr HW.out.1 HG.out.mem.2.1 (fun x hx e => nd.1 (e ▸ hx)), gr.mem⟩, HG.out.nodup⟩
      have c5 : w1.cell? ⟨b, 5, none⟩ = some (.pointer (some ⟨br, 0, none⟩)) := HW.out.2.cell 5
      have q0 : w1.cell? ⟨bq, 0, none⟩ = some (.int .i64 sq.lo) := (HQ.out.2.2.1.fr HW.out.1 (fun e => HQ.out.2.2.2 e.symm)).cell 0
      refine start_ (n := 18) (S := fun w' => w'.cell? ⟨b, 5, none⟩ = some (.pointer (some ⟨br, 0, none⟩)) ∧ w'.cell? ⟨bq, 0, none⟩ = some (.int .i64 sq.lo)) (ds := [10, 17]) #[false, false, false, false, false, false, false, false, false, false, false, false, false, false, false, false, false, false] (by kernel_rfl) rfl rfl ⟨c5, q0⟩ (fun hHeld => ?_)
      refine with_tabW this8.tab this8.bits (fun HT_ HW_ => ?_)
      clear c5 q0
      refine pure_ (i := 0) (N := some 42) (v := ?_) (a' := ?_) #[true, false, false, false, false, false, false, false, false, false, false, false, false, false, false, false, false, false] rfl rfl (any_of HT_.out (by kernel_rfl)) (fun _ _ _ h => h) (Or.inl ⟨by rfl, ?_⟩) ?_ ?_
      rotate_left
      · intro w'
        go_simp
        with_reducible rfl
      rotate_left
      · simp only [Act.put, List.setIfInBounds_toArray, List.set_cons_zero, List.set_cons_succ]
        rfl
      refine pure_ (i := 1) (N := some 43) (v := ?_) (a' := ?_) #[true, true, false, false, false, false, false, false, false, false, false, false, false, false, false, false, false, false] rfl rfl (any_of HT_.out (by kernel_rfl)) (fun _ _ _ h => h) (Or.inl ⟨by rfl, ?_⟩) ?_ ?_
      rotate_left
      · intro w'
        go_simp
        with_reducible rfl
      rotate_left
      · simp only [Act.put, List.setIfInBounds_toArray, List.set_cons_zero, List.set_cons_succ]
        rfl
      refine pure_ (i := 2) (N := some 44) (v := ?_) (a' := ?_) #[true, true, true, false, false, false, false, false, false, false, false, false, false, false, false, false, false, false] rfl rfl (any_of HT_.out (by kernel_rfl)) (fun _ _ _ h => h) (Or.inl ⟨by rfl, ?_⟩) ?_ ?_
      rotate_left
      · intro w'
        go_simp
        with_reducible rfl
      rotate_left
      · simp only [Act.put, List.setIfInBounds_toArray, List.set_cons_zero, List.set_cons_succ]
        rfl
      refine pure_ (i := 3) (N := some 45) (v := ?_) (a' := ?_) #[true, true, true, true, false, false, false, false, false, false, false, false, false, false, false, false, false, false] rfl rfl (any_of HT_.out (by kernel_rfl)) (fun _ _ _ h => h) (Or.inl ⟨by rfl, ?_⟩) ?_ ?_
      rotate_left
      · intro w'
        go_simp
        with_reducible rfl
      rotate_left
      · simp only [Act.put, List.setIfInBounds_toArray, List.set_cons_zero, List.set_cons_succ]
        rfl
      refine take_ (i := 4) (N := some 46) (v := ?_) (a' := ?_) #[true, true, true, true, true, false, false, false, false, false, false, false, false, false, false, false, false, false] rfl rfl (take_ofW HT_.out HW_.out (by kernel_rfl)) (fun _ _ _ h => h) (Or.inl ⟨by rfl, ?_⟩) hHeld ?_ ?_
      rotate_left
      · intro w' s0
        obtain ⟨s1, s2⟩ := s0
        go_simp
        with_reducible rfl
      rotate_left
      · simp only [Act.put, List.setIfInBounds_toArray, List.set_cons_zero, List.set_cons_succ]
        rfl
      refine pure_ (i := 5) (N := some 47) (v := ?_) (a' := ?_) #[true, true, true, true, true, true, false, false, false, false, false, false, false, false, false, false, false, false] rfl rfl (any_of HT_.out (by kernel_rfl)) (fun _ _ _ h => h) (Or.inl ⟨by rfl, ?_⟩) ?_ ?_
      rotate_left
      · intro w'
        go_simp
        with_reducible rfl
      rotate_left
      · simp only [Act.put, List.setIfInBounds_toArray, List.set_cons_zero, List.set_cons_succ]
        rfl
      refine pure_ (i := 6) (N := some 48) (v := ?_) (a' := ?_) #[true, true, true, true, true, true, true, false, false, false, false, false, false, false, false, false, false, false] rfl rfl (any_of HT_.out (by kernel_rfl)) (fun _ _ _ h => h) (Or.inl ⟨by rfl, ?_⟩) ?_ ?_
      rotate_left
      · intro w'
        go_simp
        with_reducible rfl
      rotate_left
      · simp only [Act.put, List.setIfInBounds_toArray, List.set_cons_zero, List.set_cons_succ]
        rfl
      refine pure_ (i := 7) (N := some 49) (v := ?_) (a' := ?_) #[true, true, true, true, true, true, true, true, false, false, false, false, false, false, false, false, false, false] rfl rfl (any_of HT_.out (by kernel_rfl)) (fun _ _ _ h => h) (Or.inl ⟨by rfl, ?_⟩) ?_ ?_
      rotate_left
      · intro w'
        go_simp
        with_reducible rfl
      rotate_left
      · simp only [Act.put, List.setIfInBounds_toArray, List.set_cons_zero, List.set_cons_succ]
        rfl
      refine pure_ (i := 8) (N := some 50) (v := ?_) (a' := ?_) #[true, true, true, true, true, true, true, true, true, false, false, false, false, false, false, false, false, false] rfl rfl (any_of HT_.out (by kernel_rfl)) (fun _ _ _ h => h) (Or.inl ⟨by rfl, ?_⟩) ?_ ?_
      rotate_left
      · intro w'
        go_simp
        with_reducible rfl
      rotate_left
      · simp only [Act.put, List.setIfInBounds_toArray, List.set_cons_zero, List.set_cons_succ]
        rfl
      refine take_ (i := 9) (N := some 51) (v := ?_) (a' := ?_) #[true, true, true, true, true, true, true, true, true, true, false, false, false, false, false, false, false, false] rfl rfl (take_ofW HT_.out HW_.out (by kernel_rfl)) (fun _ _ _ h => h) (Or.inl ⟨by rfl, ?_⟩) hHeld ?_ ?_
      rotate_left
      · intro w' s0
        obtain ⟨s1, s2⟩ := s0
        go_simp
        with_reducible rfl
      rotate_left
      · simp only [Act.put, List.setIfInBounds_toArray, List.set_cons_zero, List.set_cons_succ]
        rfl
      refine last_ (i := 10) (N := some 52) #[true, true, true, true, true, true, true, true, true, true, true, false, false, false, false, false, false, false] rfl rfl (one_of HT_.out (by kernel_rfl)) (by decide) (fun K_ hK => ?_)
      refine call_ (N := some 52) 52 #[.pointer (some ⟨br, 0, none⟩), .int .i64 sq.lo] (by rfl) rfl (by go_simp) ?_
      have HCall_ := HI.out sq.lo w1.drew (HS.out.1.to ((Below.refl _ _).drew)) HT.out
      refine HCall_.mono ?_
      clear HCall_
      rintro e w2 ⟨r', kv, ok, rfl, hraw, hput0⟩
      have hput : Put (.node br sr hr mr rl rr) r' w1 w2 := Put.since (W := w1.drew) hput0 ((Below.refl _ _).drew)
      obtain ⟨q1, q2, q3, q4, q5⟩ := mem_right HS.out.2.1 HS.out.2.2 hput
      have H2 : Hid (Put (.node br sr hr mr rl rr) r' w1 w2 ∧ T.rem (N.raw (.node br sr hr mr rl rr)) sq.lo = (r'.raw, kv, ok) ∧ (N.node b sq h m (.node bl sl hl ml ll lr) r').In (w2.setCell ⟨b, 5, none⟩ r'.ptr) ∧ (N.node b sq h m (.node bl sl hl ml ll lr) r').ids.Nodup ∧ Blk w2 b (cs sq h m (.node bl sl hl ml ll lr) (.node br sr hr mr rl rr)) 110) := ⟨hput, hraw, q1, q2, q3⟩
      clear hput0 hput hraw q1 q2 q3 q4 q5
      obtain ⟨u, hu⟩ := r'.ptr_some
      have HU : Hid (r'.ptr = .pointer u) := hu
      rw [hu]
      clear hu
      refine ⟨_, rfl, ?_⟩
      refine hK.out _ _ ?_
      clear hK K_
      refine norm_ (a' := ?_) ?_ ?_
      rotate_left
      · show Act.put _ (some 52) _ = _
        simp only [Act.put, List.setIfInBounds_toArray, List.set_cons_zero, List.set_cons_succ]
        rfl
      refine pure_ (i := 11) (N := some 41) (v := ?_) (a' := ?_) #[true, true, true, true, true, true, true, true, true, true, true, true, false, false, false, false, false, false] rfl rfl (any_of HT_.out (by kernel_rfl)) (fun _ _ _ h => h) (Or.inl ⟨by rfl, ?_⟩) ?_ ?_
      rotate_left
      · intro w'
        go_simp
        with_reducible rfl
      rotate_left
      · simp only [Act.put, List.setIfInBounds_toArray, List.set_cons_zero, List.set_cons_succ]
        rfl
      refine pure_ (i := 12) (N := some 53) (v := ?_) (a' := ?_) #[true, true, true, true, true, true, true, true, true, true, true, true, true, false, false, false, false, false] rfl rfl (any_of HT_.out (by kernel_rfl)) (fun _ _ _ h => h) (Or.inl ⟨by rfl, ?_⟩) ?_ ?_
      rotate_left
      · intro w'
        go_simp
        with_reducible rfl
      rotate_left
      · simp only [Act.put, List.setIfInBounds_toArray, List.set_cons_zero, List.set_cons_succ]
        rfl
      refine pure_ (i := 13) (N := some 54) (v := ?_) (a' := ?_) #[true, true, true, true, true, true, true, true, true, true, true, true, true, true, false, false, false, false] rfl rfl (any_of HT_.out (by kernel_rfl)) (fun _ _ _ h => h) (Or.inl ⟨by rfl, ?_⟩) ?_ ?_
      rotate_left
      · intro w'
        go_simp
        with_reducible rfl
      rotate_left
      · simp only [Act.put, List.setIfInBounds_toArray, List.set_cons_zero, List.set_cons_succ]
        rfl
      refine pure_ (i := 14) (N := some 55) (v := ?_) (a' := ?_) #[true, true, true, true, true, true, true, true, true, true, true, true, true, true, true, false, false, false] rfl rfl (any_of HT_.out (by kernel_rfl)) (fun _ _ _ h => h) (Or.inl ⟨by rfl, ?_⟩) ?_ ?_
      rotate_left
      · intro w'
        go_simp
        with_reducible rfl
      rotate_left
      · simp only [Act.put, List.setIfInBounds_toArray, List.set_cons_zero, List.set_cons_succ]
        rfl
      refine pure_ (i := 15) (N := some 56) (v := ?_) (a' := ?_) #[true, true, true, true, true, true, true, true, true, true, true, true, true, true, true, true, false, false] rfl rfl (any_of HT_.out (by kernel_rfl)) (fun _ _ _ h => h) (Or.inl ⟨by rfl, ?_⟩) ?_ ?_
      rotate_left
      · intro w'
        go_simp
        with_reducible rfl
      rotate_left
      · simp only [Act.put, List.setIfInBounds_toArray, List.set_cons_zero, List.set_cons_succ]
        rfl
      refine pure_ (i := 16) (N := some 57) (v := ?_) (a' := ?_) #[true, true, true, true, true, true, true, true, true, true, true, true, true, true, true, true, true, false] rfl rfl (any_of HT_.out (by kernel_rfl)) (fun _ _ _ h => h) (Or.inl ⟨by rfl, ?_⟩) ?_ ?_
      rotate_left
      · intro w'
        go_simp
        with_reducible rfl
      rotate_left
      · simp only [Act.put, List.setIfInBounds_toArray, List.set_cons_zero, List.set_cons_succ]
        rfl
      have d5 : w2.cell? ⟨b, 5, none⟩ = some (.pointer (some ⟨br, 0, none⟩)) := H2.out.2.2.2.2.cell 5
      have f5 : w2.frozen? ⟨b, 5, none⟩ = false := H2.out.2.2.2.2.free 5
      refine last_ (i := 17) (N := none) #[true, true, true, true, true, true, true, true, true, true, true, true, true, true, true, true, true, true] rfl rfl (one_of HT_.out (by kernel_rfl)) (by decide) (fun K_ hK => ?_)
      refine skip_ (w1 := ?_) (by rfl) rfl ?_ ?_
      rotate_left
      · go_simp
        rfl
      refine hK.out _ _ ?_
      clear hK K_
      refine done_ (done_of HT_.out (by kernel_rfl)) ?_
      clear HT_ HW_
      go_wp2_with fail
      go_ret
      obtain ⟨hP, hraw, k1, k2, _⟩ := H2.out
      refine ⟨N.node b sq h m (.node bl sl hl ml ll lr) r', rfl, ?_, ?_⟩
      · show T.node sq h m _ r'.raw = thisT h m (T.node _ _ _ _ _) (T.node _ _ _ _ _)
        rw [HQ.out.1]
        rw [HQ.out.1] at hraw
        have e : thisT h m (N.raw (.node bl sl hl ml ll lr)) (N.raw (.node br sr hr mr rl rr)) = .node (T.least (N.raw (.node br sr hr mr rl rr))) h m (N.raw (.node bl sl hl ml ll lr)) (T.rem (N.raw (.node br sr hr mr rl rr)) (T.least (N.raw (.node br sr hr mr rl rr))).lo).1 := rfl
        refine Eq.trans ?_ e.symm
        rw [hraw]
      · have hp := put_right (t' := N.node b sq h m (.node bl sl hl ml ll lr) r') HS.out.2.1 HS.out.2.2 hP ⟨k1, List.Perm.refl _, Fr.refl _ _⟩
        rw [HU.out] at hp
        exact ⟨hp.mem, hp.nodup, fun x hx => (hp.ids x hx).imp (fun q => q) (fun q => Nat.le_trans HW.out.1.size q), (HW.out.1.into (fun n e => by rw [e]; simp [N.ids])).then (hp.fr.into (fun n q => q))⟩

theorem reb_at (t : N) (p : Value) (hp : t.ptr = p) (w : World) (hin : t.In w) (nd : t.ids.Nodup) (hq : ∀ b s h m l r, t = .node b s h m l r → Part l ∧ Part r) : Calls Try.prog 62 #[p] w (Done t w) := by
  subst hp; exact reb_any t w hin nd hq
theorem rem_this {s : S} {h m : Int} {l r : T} {key : Int} (h1 : ¬ key < s.lo) (h2 : ¬ key > s.lo) : T.rem (.node s h m l r) key = (T.reb (thisT h m l r), s, true) := by
  have e : T.rem (.node s h m l r) key = if key < s.lo then (T.reb (.node s h m (T.rem l key).1 r), (T.rem l key).2) else if key > s.lo then (T.reb (.node s h m l (T.rem r key).1), (T.rem r key).2)
    else if l.isNil = true then (T.reb r, s, true) else if r.isNil = true then (T.reb l, s, true) else (T.reb (.node (T.least r) h m l (T.rem r (T.least r).lo).1), s, true) := rfl
  rw [e, if_neg h1, if_neg h2]
  unfold thisT
  split
  · rfl
  · split <;> rfl
theorem part_this {l r : N} (gl : T.Good l.raw) (gr : T.Good r.raw) (hl : l.raw.tall ≤ 4294950000) (hr : r.raw.tall ≤ 4294950000) {t1 : N} {h m : Int} (e : t1.raw = thisT h m l.raw r.raw) :
    ∀ b' s' h' m' l2 r2, t1 = .node b' s' h' m' l2 r2 → Part l2 ∧ Part r2 := by
  rintro b' s' h' m' l2 r2 rfl
  replace e : T.node s' h' m' l2.raw r2.raw = thisT h m l.raw r.raw := e
  have key : ∀ u : T, T.Good u → u.tall ≤ 4294950000 → T.node s' h' m' l2.raw r2.raw = u → Part l2 ∧ Part r2 := fun u gu hu eu => by
    subst eu
    have t1 := T.tall_nonneg l2.raw
    have t2 := T.tall_nonneg r2.raw
    simp only [T.tall] at hu
    exact ⟨⟨gu.right.2.1, by omega⟩, ⟨gu.right.2.2, by omega⟩⟩
  unfold thisT at e
  split at e
  · exact key _ gr hr e
  · split at e
    · exact key _ gl hl e
    · injection e with e1 e2 e3 e4 e5
      have q := T.good_rem (T.least r.raw).lo gr
      exact ⟨⟨by rw [e4]; exact gl.right, by rw [e4]; omega⟩, ⟨by rw [e5]; exact q.1.right, by rw [e5]; have := q.2; omega⟩⟩
theorem Put.reb {t t1 t' : N} {w w3 w4 : World} (h : Put t t1 w w3) (h1 : t'.In w4) (hp : t'.ids.Perm t1.ids) (hf : Fr (fun n => n ∈ t1.ids ∨ w.heap.size ≤ n) w3 w4) : Put t t' w w4 :=
  ⟨h1, hp.nodup_iff.2 h.nodup, fun b hb => h.ids b (hp.mem_iff.1 hb), h.fr.trans hf (fun n hn q => q.elim (fun q => (h.ids n q).elim id (fun z => by omega)) (fun q => by omega))⟩

set_option maxHeartbeats 800000 in
set_option maxRecDepth 100000 in
theorem remove_nil (key : Int) (w : World) : Calls Try.prog 52 #[.pointer none, .int .i64 key] w (Removed key .nil w) := by
  go_enter Try.func52, Try.ntmps52
  go_wp2_with fail
  refine bodyPost_ret (v := .tuple #[.pointer none, .agg #[.int .i64 0, .int .i64 0, .int .i64 0], .bool false]) (by simp [results, Try.results52, go_sem]) rfl ?_
  exact ⟨.nil, ⟨0, 0, 0⟩, false, rfl, rfl, trivial, List.nodup_nil, fun b hb => by simp [N.ids] at hb, by repeat (first | exact Fr.refl _ _ | refine Fr.alloc ?_ _ | refine Fr.setCell ?_ (by intro h; simp at h) _)⟩

/-- The two boxes that remove lays. -/
structure Two (w W : World) : Prop where
  bel : Below w.heap.size w W
  p5 : Blk W w.heap.size (kvc ⟨0, 0, 0⟩) 74
  p7 : Blk W (w.heap.size + 1) (kvc ⟨0, 0, 0⟩) 74
theorem two_mk (w : World) : Two w ((w.alloc (.cells (kvc ⟨0, 0, 0⟩) 74)).alloc (.cells (kvc ⟨0, 0, 0⟩) 74)) := by
  have b1 := Blk.new w (kvc ⟨0, 0, 0⟩) 74
  have b2 := Blk.new (w.alloc (.cells (kvc ⟨0, 0, 0⟩) 74)) (kvc ⟨0, 0, 0⟩) 74
  rw [alloc_size] at b2
  exact ⟨(((Below.refl _ _).alloc (Nat.le_refl _) _).alloc (by simp) _), b1.alloc _, b2⟩

set_option maxHeartbeats 8000000 in
set_option maxRecDepth 100000 in
theorem remove_any {base : Nat} : ∀ (t : N) (key : Int) (w : World), Good base w t → t.raw.tall ≤ 4294950000 → Calls Try.prog 52 #[t.ptr, .int .i64 key] w (Removed key t w)
  | .nil, key, w, _, _ => remove_nil key w
  | .node b s h m l r, key, w, g, ht => by
    have tn : (N.node b s h m l r).raw.tall = 1 + max l.raw.tall r.raw.tall := rfl
    have tl := T.tall_nonneg l.raw
    have tr := T.tall_nonneg r.raw
    have HT : Hid (l.raw.tall ≤ 4294950000 ∧ r.raw.tall ≤ 4294950000) := ⟨by omega, by omega⟩
    have HG : Hid (Good base w (.node b s h m l r)) := g
    have c0 : w.cell? ⟨b, 0, none⟩ = some (.int .i64 s.lo) := g.mem.1.cell 0
    have c4 : w.cell? ⟨b, 4, none⟩ = some l.ptr := g.mem.1.cell 4
    have c5 : w.cell? ⟨b, 5, none⟩ = some r.ptr := g.mem.1.cell 5
    clear g ht tn tl tr c0 c4 c5
    show Calls Try.prog 52 #[.pointer (some ⟨b, 0, none⟩), .int .i64 key] w _
    have HB0 := hid (two_mk w)
    have c0 : ((w.alloc (.cells #[.int .i64 0, .int .i64 0, .int .i64 0] 74)).alloc (.cells #[.int .i64 0, .int .i64 0, .int .i64 0] 74)).cell? ⟨b, 0, none⟩ = some (.int .i64 s.lo) := (HG.out.mem.1.fr (Fr.new (Z := fun _ => False) HB0.out.bel) (fun h => h)).cell 0
    have c4 : ((w.alloc (.cells #[.int .i64 0, .int .i64 0, .int .i64 0] 74)).alloc (.cells #[.int .i64 0, .int .i64 0, .int .i64 0] 74)).cell? ⟨b, 4, none⟩ = some l.ptr := (HG.out.mem.1.fr (Fr.new (Z := fun _ => False) HB0.out.bel) (fun h => h)).cell 4
    have c5 : ((w.alloc (.cells #[.int .i64 0, .int .i64 0, .int .i64 0] 74)).alloc (.cells #[.int .i64 0, .int .i64 0, .int .i64 0] 74)).cell? ⟨b, 5, none⟩ = some r.ptr := (HG.out.mem.1.fr (Fr.new (Z := fun _ => False) HB0.out.bel) (fun h => h)).cell 5
    by_cases h1 : key < s.lo
    · have HR : Hid (T.rem (N.node b s h m l r).raw key = (T.reb (.node s h m (T.rem l.raw key).1 r.raw), (T.rem l.raw key).2)) := if_pos h1
      go_enter Try.func52, Try.ntmps52
      go_wp2_with fail
      have HB : Hid (Two w ((w.alloc (.cells #[.int .i64 0, .int .i64 0, .int .i64 0] 74)).alloc (.cells #[.int .i64 0, .int .i64 0, .int .i64 0] 74))) := HB0.out
      have k0 : ((w.alloc (.cells #[.int .i64 0, .int .i64 0, .int .i64 0] 74)).alloc (.cells #[.int .i64 0, .int .i64 0, .int .i64 0] 74)).heap.size = w.heap.size + 1 + 1 := by simp
      clear HB0 c0 c4 c5
      generalize (w.alloc (.cells #[.int .i64 0, .int .i64 0, .int .i64 0] 74)).alloc (.cells #[.int .i64 0, .int .i64 0, .int .i64 0] 74) = W at HB k0 ⊢
      clear h1
      refine (remove_any l key W (HG.out.lf.to HB.out.bel) HT.out.1).mono ?_
      rintro e w2 ⟨l', kv, ok, rfl, hraw, hput0⟩
      have hput : Put l l' w w2 := Put.since (W := W) hput0 HB.out.bel
      obtain ⟨q1, q2, q3, q4, q5⟩ := mem_left HG.out.mem HG.out.nodup hput
      have hlt := N.In.lt HG.out.mem
      have n9 : w.heap.size ∉ l'.ids := new_out (W := W) (fun b hb => hlt b (by simp [N.ids, hb])) hput0 (by omega) HB.out.p5.lt
      have n11 : w.heap.size + 1 ∉ l'.ids := new_out (W := W) (fun b hb => hlt b (by simp [N.ids, hb])) hput0 (by omega) HB.out.p7.lt
      have hb0 := hlt b (by simp [N.ids])
      have o9 : w.heap.size ∉ (N.node b s h m l' r).ids := out_left hlt (by omega) n9
      have o11 : w.heap.size + 1 ∉ (N.node b s h m l' r).ids := out_left hlt (by omega) n11
      have b9 : Blk w2 (w.heap.size) (kvc ⟨0, 0, 0⟩) 74 := HB.out.p5.fr hput0.fr (fun hx => by have := hlt (w.heap.size) (by simp [N.ids, hx]); omega)
      have b11 : Blk w2 (w.heap.size + 1) (kvc ⟨0, 0, 0⟩) 74 := HB.out.p7.fr hput0.fr (fun hx => by have := hlt (w.heap.size + 1) (by simp [N.ids, hx]); omega)
      have HP : Hid (w.heap.size ∉ (N.node b s h m l' r).ids ∧ w.heap.size + 1 ∉ (N.node b s h m l' r).ids ∧ b ≠ w.heap.size + 1 ∧ b ≠ w.heap.size) := ⟨o9, o11, by omega, by omega⟩
      have H2 : Hid (Put l l' w w2 ∧ (N.node b s h m l' r).In (w2.setCell ⟨b, 4, none⟩ l'.ptr) ∧ (N.node b s h m l' r).ids.Nodup ∧ Blk w2 b (cs s h m l r) 110 ∧ Blk w2 (w.heap.size) (kvc ⟨0, 0, 0⟩) 74 ∧ Blk w2 (w.heap.size + 1) (kvc ⟨0, 0, 0⟩) 74 ∧ T.rem l.raw key = (l'.raw, kv, ok)) := ⟨hput, q1, q2, q3, b9, b11, hraw⟩
      clear hput0 hput q1 q2 q3 q4 q5 n9 n11 o9 o11 b9 b11 hraw hlt hb0 k0
      obtain ⟨u, hu⟩ := l'.ptr_some
      have HU : Hid (l'.ptr = .pointer u) := hu
      rw [hu] at H2 ⊢
      clear hu
      have d0 : w2.cell? ⟨b, 4, none⟩ = some l.ptr := H2.out.2.2.2.1.cell 4
      have d1 : w2.frozen? ⟨b, 4, none⟩ = false := H2.out.2.2.2.1.free 4
      have e0 : w2.cell? ⟨w.heap.size + 1, 0, none⟩ = some (.int .i64 0) := H2.out.2.2.2.2.2.1.cell 0
      have e1 : w2.cell? ⟨w.heap.size + 1, 1, none⟩ = some (.int .i64 0) := H2.out.2.2.2.2.2.1.cell 1
      have e2 : w2.cell? ⟨w.heap.size + 1, 2, none⟩ = some (.int .i64 0) := H2.out.2.2.2.2.2.1.cell 2
      have f0 : w2.frozen? ⟨w.heap.size + 1, 0, none⟩ = false := H2.out.2.2.2.2.2.1.free 0
      have f1 : w2.frozen? ⟨w.heap.size + 1, 1, none⟩ = false := H2.out.2.2.2.2.2.1.free 1
      have f2 : w2.frozen? ⟨w.heap.size + 1, 2, none⟩ = false := H2.out.2.2.2.2.2.1.free 2
      have hne : w.heap.size + 1 ≠ b := fun e => HP.out.2.2.1 e.symm
      have hne' : b ≠ w.heap.size + 1 := HP.out.2.2.1
      go_wp2_with fail
      clear d0 d1 e0 e1 e2 f0 f1 f2
      have H11 : Hid (Blk ((((w2.setCell ⟨b, 4, none⟩ (.pointer u)).setCell ⟨w.heap.size + 1, 0, none⟩ (.int .i64 kv.lo)).setCell ⟨w.heap.size + 1, 1, none⟩ (.int .i64 kv.hi)).setCell ⟨w.heap.size + 1, 2, none⟩ (.int .i64 kv.v)) (w.heap.size + 1) (kvc kv) 74) := blk_box3 (w := w2.setCell ⟨b, 4, none⟩ (.pointer u)) (H2.out.2.2.2.2.2.1.other _ _ hne)
      have H9 : Hid (Blk ((((w2.setCell ⟨b, 4, none⟩ (.pointer u)).setCell ⟨w.heap.size + 1, 0, none⟩ (.int .i64 kv.lo)).setCell ⟨w.heap.size + 1, 1, none⟩ (.int .i64 kv.hi)).setCell ⟨w.heap.size + 1, 2, none⟩ (.int .i64 kv.v)) (w.heap.size) (kvc ⟨0, 0, 0⟩) 74) := (H2.out.2.2.2.2.1.other ⟨b, 4, none⟩ _ (fun e => HP.out.2.2.2 e.symm)).fr (fr_box3 (w := w2.setCell ⟨b, 4, none⟩ (.pointer u)) (p := w.heap.size + 1) (kv := kv)) (by omega)
      have HI : Hid ((N.node b s h m l' r).In ((((w2.setCell ⟨b, 4, none⟩ (.pointer u)).setCell ⟨w.heap.size + 1, 0, none⟩ (.int .i64 kv.lo)).setCell ⟨w.heap.size + 1, 1, none⟩ (.int .i64 kv.hi)).setCell ⟨w.heap.size + 1, 2, none⟩ (.int .i64 kv.v)) ∧ Fr (· = w.heap.size + 1) (w2.setCell ⟨b, 4, none⟩ (.pointer u)) ((((w2.setCell ⟨b, 4, none⟩ (.pointer u)).setCell ⟨w.heap.size + 1, 0, none⟩ (.int .i64 kv.lo)).setCell ⟨w.heap.size + 1, 1, none⟩ (.int .i64 kv.hi)).setCell ⟨w.heap.size + 1, 2, none⟩ (.int .i64 kv.v))) := ⟨N.In.fr (fr_box3 (w := w2.setCell ⟨b, 4, none⟩ (.pointer u)) (p := w.heap.size + 1) (kv := kv)) H2.out.2.1 (fun y hy e => HP.out.2.1 (e ▸ hy)), fr_box3 (w := w2.setCell ⟨b, 4, none⟩ (.pointer u)) (p := w.heap.size + 1) (kv := kv)⟩
      clear hne hne'
      generalize (((w2.setCell ⟨b, 4, none⟩ (.pointer u)).setCell ⟨w.heap.size + 1, 0, none⟩ (.int .i64 kv.lo)).setCell ⟨w.heap.size + 1, 1, none⟩ (.int .i64 kv.hi)).setCell ⟨w.heap.size + 1, 2, none⟩ (.int .i64 kv.v) = w3 at H11 H9 HI ⊢
      have e0 : w3.cell? ⟨w.heap.size + 1, 0, none⟩ = some (.int .i64 kv.lo) := H11.out.cell 0
      have e1 : w3.cell? ⟨w.heap.size + 1, 1, none⟩ = some (.int .i64 kv.hi) := H11.out.cell 1
      have e2 : w3.cell? ⟨w.heap.size + 1, 2, none⟩ = some (.int .i64 kv.v) := H11.out.cell 2
      refine start_ (n := 7) (S := fun w' => w'.cell? ⟨w.heap.size + 1, 0, none⟩ = some (.int .i64 kv.lo) ∧ w'.cell? ⟨w.heap.size + 1, 1, none⟩ = some (.int .i64 kv.hi) ∧ w'.cell? ⟨w.heap.size + 1, 2, none⟩ = some (.int .i64 kv.v)) (ds := [5]) #[false, false, false, false, false, false, false] (by kernel_rfl) rfl rfl ⟨e0, e1, e2⟩ (fun hHeld => ?_)
      refine with_tabW rem11.tab rem11.bits (fun HT_ HW_ => ?_)
      clear e0 e1 e2
      refine pure_ (i := 0) (N := some 56) (v := ?_) (a' := ?_) #[true, false, false, false, false, false, false] rfl rfl (any_of HT_.out (by kernel_rfl)) (fun _ _ _ h => h) (Or.inl ⟨by rfl, ?_⟩) ?_ ?_
      rotate_left
      · intro w'
        go_simp
        with_reducible rfl
      rotate_left
      · simp only [Act.put, List.setIfInBounds_toArray, List.set_cons_zero, List.set_cons_succ]
        rfl
      refine take_ (i := 2) (N := some 58) (v := ?_) (a' := ?_) #[true, false, true, false, false, false, false] rfl rfl (take_ofW HT_.out HW_.out (by kernel_rfl)) (fun _ _ _ h => h) (Or.inl ⟨by rfl, ?_⟩) hHeld ?_ ?_
      rotate_left
      · intro w' s0
        obtain ⟨s1, s2, s3⟩ := s0
        go_simp
        with_reducible rfl
      rotate_left
      · simp only [Act.put, List.setIfInBounds_toArray, List.set_cons_zero, List.set_cons_succ]
        rfl
      refine pure_ (i := 3) (N := some 59) (v := ?_) (a' := ?_) #[true, false, true, true, false, false, false] rfl rfl (any_of HT_.out (by kernel_rfl)) (fun _ _ _ h => h) (Or.inl ⟨by rfl, ?_⟩) ?_ ?_
      rotate_left
      · intro w'
        go_simp
        with_reducible rfl
      rotate_left
      · simp only [Act.put, List.setIfInBounds_toArray, List.set_cons_zero, List.set_cons_succ]
        rfl
      refine one_ (i := 1) (N := some 57) #[true, true, true, true, false, false, false] rfl rfl (one_of HT_.out (by kernel_rfl)) (by decide) (fun K_ hK => ?_)
      refine call_ (N := some 57) 62 #[.pointer (some ⟨b, 0, none⟩)] (by rfl) rfl (by go_simp) ?_
      have HCall_ := reb_any (N.node b s h m l' r) w3.drew (N.In.drew HI.out.1) H2.out.2.2.1 (fun b' s' h' m' l2 r2 e => by
          have hr1 : l'.raw = (T.rem l.raw key).1 := by rw [H2.out.2.2.2.2.2.2]
          injection e with e1 e2 e3 e4 e5 e6
          subst e5 e6
          exact ⟨⟨by rw [hr1]; exact (T.good_rem key HG.out.lf.good).1.right, by rw [hr1]; have := (T.good_rem key HG.out.lf.good).2; have := HT.out; omega⟩, ⟨HG.out.rt.good.right, by have := HT.out; omega⟩⟩)
      refine HCall_.mono ?_
      clear HCall_
      rintro e w4 ⟨t', rfl, i1, i2, i3, i4⟩
      have H4 : Hid (Blk w4 (w.heap.size + 1) (kvc kv) 74 ∧ Blk w4 (w.heap.size) (kvc ⟨0, 0, 0⟩) 74 ∧ t'.In w4 ∧ t'.raw = T.reb (N.node b s h m l' r).raw ∧ t'.ids.Perm (N.node b s h m l' r).ids ∧ Fr (· ∈ (N.node b s h m l' r).ids) w3 w4) :=
        ⟨Blk.fr (w := w3.drew) H11.out i4 HP.out.2.1, Blk.fr (w := w3.drew) H9.out i4 HP.out.1, i1, i2, i3, ⟨i4.os, i4.tape, i4.output, i4.size, i4.block⟩⟩
      clear i1 i2 i3 i4
      obtain ⟨u4, hu4⟩ := t'.ptr_some
      have HU4 : Hid (t'.ptr = .pointer u4) := hu4
      rw [hu4]
      clear hu4
      refine ⟨_, rfl, ?_⟩
      refine hK.out _ _ ⟨H4.out.1.cell 0, H4.out.1.cell 1, H4.out.1.cell 2⟩ (fun hHeld => ?_)
      clear hK K_
      refine norm_ (a' := ?_) ?_ ?_
      rotate_left
      · show Act.put _ (some 57) _ = _
        simp only [Act.put, List.setIfInBounds_toArray, List.set_cons_zero, List.set_cons_succ]
        rfl
      refine pure_ (i := 4) (N := some 4) (v := ?_) (a' := ?_) #[true, true, true, true, true, false, false] rfl rfl (any_of HT_.out (by kernel_rfl)) (fun _ _ _ h => h) (Or.inl ⟨by rfl, ?_⟩) ?_ ?_
      rotate_left
      · intro w'
        go_simp
        with_reducible rfl
      rotate_left
      · simp only [Act.put, List.setIfInBounds_toArray, List.set_cons_zero, List.set_cons_succ]
        rfl
      clear hHeld
      have e0 : w4.cell? ⟨w.heap.size, 0, none⟩ = some (.int .i64 0) := H4.out.2.1.cell 0
      have e1 : w4.cell? ⟨w.heap.size, 1, none⟩ = some (.int .i64 0) := H4.out.2.1.cell 1
      have e2 : w4.cell? ⟨w.heap.size, 2, none⟩ = some (.int .i64 0) := H4.out.2.1.cell 2
      have f0 : w4.frozen? ⟨w.heap.size, 0, none⟩ = false := H4.out.2.1.free 0
      have f1 : w4.frozen? ⟨w.heap.size, 1, none⟩ = false := H4.out.2.1.free 1
      have f2 : w4.frozen? ⟨w.heap.size, 2, none⟩ = false := H4.out.2.1.free 2
      refine last_ (i := 5) (N := none) #[true, true, true, true, true, true, false] rfl rfl (one_of HT_.out (by kernel_rfl)) (by decide) (fun K_ hK => ?_)
      refine skip_ (w1 := ?_) (by rfl) rfl ?_ ?_
      rotate_left
      · go_simp
        rfl
      refine hK.out _ _ ?_
      clear hK K_
      clear e0 e1 e2 f0 f1 f2
      refine pure_ (i := 6) (N := some 6) (v := ?_) (a' := ?_) #[true, true, true, true, true, true, true] rfl rfl (any_of HT_.out (by kernel_rfl)) (fun _ _ _ h => h) (Or.inl ⟨by rfl, ?_⟩) ?_ ?_
      rotate_left
      · intro w'
        go_simp
        with_reducible rfl
      rotate_left
      · simp only [Act.put, List.setIfInBounds_toArray, List.set_cons_zero, List.set_cons_succ]
        rfl
      refine done_ (done_of HT_.out (by kernel_rfl)) ?_
      clear HT_ HW_
      have z0 : (((w4.setCell ⟨w.heap.size, 0, none⟩ (.int .i64 kv.lo)).setCell ⟨w.heap.size, 1, none⟩ (.int .i64 kv.hi)).setCell ⟨w.heap.size, 2, none⟩ (.int .i64 kv.v)).cell? ⟨w.heap.size, 0, none⟩ = some (.int .i64 kv.lo) := (blk_box3 (kv := kv) H4.out.2.1).cell 0
      have z1 : (((w4.setCell ⟨w.heap.size, 0, none⟩ (.int .i64 kv.lo)).setCell ⟨w.heap.size, 1, none⟩ (.int .i64 kv.hi)).setCell ⟨w.heap.size, 2, none⟩ (.int .i64 kv.v)).cell? ⟨w.heap.size, 1, none⟩ = some (.int .i64 kv.hi) := (blk_box3 (kv := kv) H4.out.2.1).cell 1
      have z2 : (((w4.setCell ⟨w.heap.size, 0, none⟩ (.int .i64 kv.lo)).setCell ⟨w.heap.size, 1, none⟩ (.int .i64 kv.hi)).setCell ⟨w.heap.size, 2, none⟩ (.int .i64 kv.v)).cell? ⟨w.heap.size, 2, none⟩ = some (.int .i64 kv.v) := (blk_box3 (kv := kv) H4.out.2.1).cell 2
      go_wp2_with fail
      refine bodyPost_ret (v := .tuple #[.pointer u4, .agg #[.int .i64 kv.lo, .int .i64 kv.hi, .int .i64 kv.v], .bool ok]) (by simp [results, Try.results52, go_sem, z0, z1, z2]) rfl ?_
      refine ⟨t', kv, ok, by rw [HU4.out], by rw [HR.out, H2.out.2.2.2.2.2.2, H4.out.2.2.2.1]; rfl, ?_⟩
      have h9 : w.heap.size ∉ t'.ids := fun hx => HP.out.1 (H4.out.2.2.2.2.1.mem_iff.1 hx)
      have hf : Fr (fun n => n ∈ (N.node b s h m l' r).ids ∨ w.heap.size ≤ n) (w2.setCell ⟨b, 4, none⟩ l'.ptr) (box3 w4 (w.heap.size) kv) := by
        rw [HU.out]
        exact ((HI.out.2.into (fun n e => .inr (by omega))).then (H4.out.2.2.2.2.2.into (fun n e => .inl e))).then (fr_box3.into (fun n e => .inr (by omega)))
      exact put_left HG.out.mem HG.out.nodup H2.out.1 ⟨N.In.fr fr_box3 H4.out.2.2.1 (fun y hy e => h9 (e ▸ hy)), H4.out.2.2.2.2.1, hf⟩
    · by_cases h2 : key > s.lo
      · have HR : Hid (T.rem (N.node b s h m l r).raw key = (T.reb (.node s h m l.raw (T.rem r.raw key).1), (T.rem r.raw key).2)) := (if_neg h1).trans (if_pos h2)
        go_enter Try.func52, Try.ntmps52
        go_wp2_with fail
        have HB : Hid (Two w ((w.alloc (.cells #[.int .i64 0, .int .i64 0, .int .i64 0] 74)).alloc (.cells #[.int .i64 0, .int .i64 0, .int .i64 0] 74))) := HB0.out
        have k0 : ((w.alloc (.cells #[.int .i64 0, .int .i64 0, .int .i64 0] 74)).alloc (.cells #[.int .i64 0, .int .i64 0, .int .i64 0] 74)).heap.size = w.heap.size + 1 + 1 := by simp
        clear HB0 c0 c4 c5
        generalize (w.alloc (.cells #[.int .i64 0, .int .i64 0, .int .i64 0] 74)).alloc (.cells #[.int .i64 0, .int .i64 0, .int .i64 0] 74) = W at HB k0 ⊢
        clear h1 h2
        refine (remove_any r key W (HG.out.rt.to HB.out.bel) HT.out.2).mono ?_
        rintro e w2 ⟨r', kv, ok, rfl, hraw, hput0⟩
        have hput : Put r r' w w2 := Put.since (W := W) hput0 HB.out.bel
        obtain ⟨q1, q2, q3, q4, q5⟩ := mem_right HG.out.mem HG.out.nodup hput
        have hlt := N.In.lt HG.out.mem
        have n9 : w.heap.size ∉ r'.ids := new_out (W := W) (fun b hb => hlt b (by simp [N.ids, hb])) hput0 (by omega) HB.out.p5.lt
        have n11 : w.heap.size + 1 ∉ r'.ids := new_out (W := W) (fun b hb => hlt b (by simp [N.ids, hb])) hput0 (by omega) HB.out.p7.lt
        have hb0 := hlt b (by simp [N.ids])
        have o9 : w.heap.size ∉ (N.node b s h m l r').ids := out_right hlt (by omega) n9
        have o11 : w.heap.size + 1 ∉ (N.node b s h m l r').ids := out_right hlt (by omega) n11
        have b9 : Blk w2 (w.heap.size) (kvc ⟨0, 0, 0⟩) 74 := HB.out.p5.fr hput0.fr (fun hx => by have := hlt (w.heap.size) (by simp [N.ids, hx]); omega)
        have b11 : Blk w2 (w.heap.size + 1) (kvc ⟨0, 0, 0⟩) 74 := HB.out.p7.fr hput0.fr (fun hx => by have := hlt (w.heap.size + 1) (by simp [N.ids, hx]); omega)
        have HP : Hid (w.heap.size ∉ (N.node b s h m l r').ids ∧ w.heap.size + 1 ∉ (N.node b s h m l r').ids ∧ b ≠ w.heap.size + 1 ∧ b ≠ w.heap.size) := ⟨o9, o11, by omega, by omega⟩
        have H2 : Hid (Put r r' w w2 ∧ (N.node b s h m l r').In (w2.setCell ⟨b, 5, none⟩ r'.ptr) ∧ (N.node b s h m l r').ids.Nodup ∧ Blk w2 b (cs s h m l r) 110 ∧ Blk w2 (w.heap.size) (kvc ⟨0, 0, 0⟩) 74 ∧ Blk w2 (w.heap.size + 1) (kvc ⟨0, 0, 0⟩) 74 ∧ T.rem r.raw key = (r'.raw, kv, ok)) := ⟨hput, q1, q2, q3, b9, b11, hraw⟩
        clear hput0 hput q1 q2 q3 q4 q5 n9 n11 o9 o11 b9 b11 hraw hlt hb0 k0
        obtain ⟨u, hu⟩ := r'.ptr_some
        have HU : Hid (r'.ptr = .pointer u) := hu
        rw [hu] at H2 ⊢
        clear hu
        have d0 : w2.cell? ⟨b, 5, none⟩ = some r.ptr := H2.out.2.2.2.1.cell 5
        have d1 : w2.frozen? ⟨b, 5, none⟩ = false := H2.out.2.2.2.1.free 5
        have e0 : w2.cell? ⟨w.heap.size + 1, 0, none⟩ = some (.int .i64 0) := H2.out.2.2.2.2.2.1.cell 0
        have e1 : w2.cell? ⟨w.heap.size + 1, 1, none⟩ = some (.int .i64 0) := H2.out.2.2.2.2.2.1.cell 1
        have e2 : w2.cell? ⟨w.heap.size + 1, 2, none⟩ = some (.int .i64 0) := H2.out.2.2.2.2.2.1.cell 2
        have f0 : w2.frozen? ⟨w.heap.size + 1, 0, none⟩ = false := H2.out.2.2.2.2.2.1.free 0
        have f1 : w2.frozen? ⟨w.heap.size + 1, 1, none⟩ = false := H2.out.2.2.2.2.2.1.free 1
        have f2 : w2.frozen? ⟨w.heap.size + 1, 2, none⟩ = false := H2.out.2.2.2.2.2.1.free 2
        have hne : w.heap.size + 1 ≠ b := fun e => HP.out.2.2.1 e.symm
        have hne' : b ≠ w.heap.size + 1 := HP.out.2.2.1
        go_wp2_with fail
        clear d0 d1 e0 e1 e2 f0 f1 f2
        have H11 : Hid (Blk ((((w2.setCell ⟨b, 5, none⟩ (.pointer u)).setCell ⟨w.heap.size + 1, 0, none⟩ (.int .i64 kv.lo)).setCell ⟨w.heap.size + 1, 1, none⟩ (.int .i64 kv.hi)).setCell ⟨w.heap.size + 1, 2, none⟩ (.int .i64 kv.v)) (w.heap.size + 1) (kvc kv) 74) := blk_box3 (w := w2.setCell ⟨b, 5, none⟩ (.pointer u)) (H2.out.2.2.2.2.2.1.other _ _ hne)
        have H9 : Hid (Blk ((((w2.setCell ⟨b, 5, none⟩ (.pointer u)).setCell ⟨w.heap.size + 1, 0, none⟩ (.int .i64 kv.lo)).setCell ⟨w.heap.size + 1, 1, none⟩ (.int .i64 kv.hi)).setCell ⟨w.heap.size + 1, 2, none⟩ (.int .i64 kv.v)) (w.heap.size) (kvc ⟨0, 0, 0⟩) 74) := (H2.out.2.2.2.2.1.other ⟨b, 5, none⟩ _ (fun e => HP.out.2.2.2 e.symm)).fr (fr_box3 (w := w2.setCell ⟨b, 5, none⟩ (.pointer u)) (p := w.heap.size + 1) (kv := kv)) (by omega)
        have HI : Hid ((N.node b s h m l r').In ((((w2.setCell ⟨b, 5, none⟩ (.pointer u)).setCell ⟨w.heap.size + 1, 0, none⟩ (.int .i64 kv.lo)).setCell ⟨w.heap.size + 1, 1, none⟩ (.int .i64 kv.hi)).setCell ⟨w.heap.size + 1, 2, none⟩ (.int .i64 kv.v)) ∧ Fr (· = w.heap.size + 1) (w2.setCell ⟨b, 5, none⟩ (.pointer u)) ((((w2.setCell ⟨b, 5, none⟩ (.pointer u)).setCell ⟨w.heap.size + 1, 0, none⟩ (.int .i64 kv.lo)).setCell ⟨w.heap.size + 1, 1, none⟩ (.int .i64 kv.hi)).setCell ⟨w.heap.size + 1, 2, none⟩ (.int .i64 kv.v))) := ⟨N.In.fr (fr_box3 (w := w2.setCell ⟨b, 5, none⟩ (.pointer u)) (p := w.heap.size + 1) (kv := kv)) H2.out.2.1 (fun y hy e => HP.out.2.1 (e ▸ hy)), fr_box3 (w := w2.setCell ⟨b, 5, none⟩ (.pointer u)) (p := w.heap.size + 1) (kv := kv)⟩
        clear hne hne'
        generalize (((w2.setCell ⟨b, 5, none⟩ (.pointer u)).setCell ⟨w.heap.size + 1, 0, none⟩ (.int .i64 kv.lo)).setCell ⟨w.heap.size + 1, 1, none⟩ (.int .i64 kv.hi)).setCell ⟨w.heap.size + 1, 2, none⟩ (.int .i64 kv.v) = w3 at H11 H9 HI ⊢
        have e0 : w3.cell? ⟨w.heap.size + 1, 0, none⟩ = some (.int .i64 kv.lo) := H11.out.cell 0
        have e1 : w3.cell? ⟨w.heap.size + 1, 1, none⟩ = some (.int .i64 kv.hi) := H11.out.cell 1
        have e2 : w3.cell? ⟨w.heap.size + 1, 2, none⟩ = some (.int .i64 kv.v) := H11.out.cell 2
        refine start_ (n := 7) (S := fun w' => w'.cell? ⟨w.heap.size + 1, 0, none⟩ = some (.int .i64 kv.lo) ∧ w'.cell? ⟨w.heap.size + 1, 1, none⟩ = some (.int .i64 kv.hi) ∧ w'.cell? ⟨w.heap.size + 1, 2, none⟩ = some (.int .i64 kv.v)) (ds := [5]) #[false, false, false, false, false, false, false] (by kernel_rfl) rfl rfl ⟨e0, e1, e2⟩ (fun hHeld => ?_)
        refine with_tabW rem11.tab rem11.bits (fun HT_ HW_ => ?_)
        clear e0 e1 e2
        refine pure_ (i := 0) (N := some 56) (v := ?_) (a' := ?_) #[true, false, false, false, false, false, false] rfl rfl (any_of HT_.out (by kernel_rfl)) (fun _ _ _ h => h) (Or.inl ⟨by rfl, ?_⟩) ?_ ?_
        rotate_left
        · intro w'
          go_simp
          with_reducible rfl
        rotate_left
        · simp only [Act.put, List.setIfInBounds_toArray, List.set_cons_zero, List.set_cons_succ]
          rfl
        refine take_ (i := 2) (N := some 58) (v := ?_) (a' := ?_) #[true, false, true, false, false, false, false] rfl rfl (take_ofW HT_.out HW_.out (by kernel_rfl)) (fun _ _ _ h => h) (Or.inl ⟨by rfl, ?_⟩) hHeld ?_ ?_
        rotate_left
        · intro w' s0
          obtain ⟨s1, s2, s3⟩ := s0
          go_simp
          with_reducible rfl
        rotate_left
        · simp only [Act.put, List.setIfInBounds_toArray, List.set_cons_zero, List.set_cons_succ]
          rfl
        refine pure_ (i := 3) (N := some 59) (v := ?_) (a' := ?_) #[true, false, true, true, false, false, false] rfl rfl (any_of HT_.out (by kernel_rfl)) (fun _ _ _ h => h) (Or.inl ⟨by rfl, ?_⟩) ?_ ?_
        rotate_left
        · intro w'
          go_simp
          with_reducible rfl
        rotate_left
        · simp only [Act.put, List.setIfInBounds_toArray, List.set_cons_zero, List.set_cons_succ]
          rfl
        refine one_ (i := 1) (N := some 57) #[true, true, true, true, false, false, false] rfl rfl (one_of HT_.out (by kernel_rfl)) (by decide) (fun K_ hK => ?_)
        refine call_ (N := some 57) 62 #[.pointer (some ⟨b, 0, none⟩)] (by rfl) rfl (by go_simp) ?_
        have HCall_ := reb_any (N.node b s h m l r') w3.drew (N.In.drew HI.out.1) H2.out.2.2.1 (fun b' s' h' m' l2 r2 e => by
            have hr1 : r'.raw = (T.rem r.raw key).1 := by rw [H2.out.2.2.2.2.2.2]
            injection e with e1 e2 e3 e4 e5 e6
            subst e5 e6
            exact ⟨⟨HG.out.lf.good.right, by have := HT.out; omega⟩, ⟨by rw [hr1]; exact (T.good_rem key HG.out.rt.good).1.right, by rw [hr1]; have := (T.good_rem key HG.out.rt.good).2; have := HT.out; omega⟩⟩)
        refine HCall_.mono ?_
        clear HCall_
        rintro e w4 ⟨t', rfl, i1, i2, i3, i4⟩
        have H4 : Hid (Blk w4 (w.heap.size + 1) (kvc kv) 74 ∧ Blk w4 (w.heap.size) (kvc ⟨0, 0, 0⟩) 74 ∧ t'.In w4 ∧ t'.raw = T.reb (N.node b s h m l r').raw ∧ t'.ids.Perm (N.node b s h m l r').ids ∧ Fr (· ∈ (N.node b s h m l r').ids) w3 w4) :=
          ⟨Blk.fr (w := w3.drew) H11.out i4 HP.out.2.1, Blk.fr (w := w3.drew) H9.out i4 HP.out.1, i1, i2, i3, ⟨i4.os, i4.tape, i4.output, i4.size, i4.block⟩⟩
        clear i1 i2 i3 i4
        obtain ⟨u4, hu4⟩ := t'.ptr_some
        have HU4 : Hid (t'.ptr = .pointer u4) := hu4
        rw [hu4]
        clear hu4
        refine ⟨_, rfl, ?_⟩
        refine hK.out _ _ ⟨H4.out.1.cell 0, H4.out.1.cell 1, H4.out.1.cell 2⟩ (fun hHeld => ?_)
        clear hK K_
        refine norm_ (a' := ?_) ?_ ?_
        rotate_left
        · show Act.put _ (some 57) _ = _
          simp only [Act.put, List.setIfInBounds_toArray, List.set_cons_zero, List.set_cons_succ]
          rfl
        refine pure_ (i := 4) (N := some 4) (v := ?_) (a' := ?_) #[true, true, true, true, true, false, false] rfl rfl (any_of HT_.out (by kernel_rfl)) (fun _ _ _ h => h) (Or.inl ⟨by rfl, ?_⟩) ?_ ?_
        rotate_left
        · intro w'
          go_simp
          with_reducible rfl
        rotate_left
        · simp only [Act.put, List.setIfInBounds_toArray, List.set_cons_zero, List.set_cons_succ]
          rfl
        clear hHeld
        have e0 : w4.cell? ⟨w.heap.size, 0, none⟩ = some (.int .i64 0) := H4.out.2.1.cell 0
        have e1 : w4.cell? ⟨w.heap.size, 1, none⟩ = some (.int .i64 0) := H4.out.2.1.cell 1
        have e2 : w4.cell? ⟨w.heap.size, 2, none⟩ = some (.int .i64 0) := H4.out.2.1.cell 2
        have f0 : w4.frozen? ⟨w.heap.size, 0, none⟩ = false := H4.out.2.1.free 0
        have f1 : w4.frozen? ⟨w.heap.size, 1, none⟩ = false := H4.out.2.1.free 1
        have f2 : w4.frozen? ⟨w.heap.size, 2, none⟩ = false := H4.out.2.1.free 2
        refine last_ (i := 5) (N := none) #[true, true, true, true, true, true, false] rfl rfl (one_of HT_.out (by kernel_rfl)) (by decide) (fun K_ hK => ?_)
        refine skip_ (w1 := ?_) (by rfl) rfl ?_ ?_
        rotate_left
        · go_simp
          rfl
        refine hK.out _ _ ?_
        clear hK K_
        clear e0 e1 e2 f0 f1 f2
        refine pure_ (i := 6) (N := some 6) (v := ?_) (a' := ?_) #[true, true, true, true, true, true, true] rfl rfl (any_of HT_.out (by kernel_rfl)) (fun _ _ _ h => h) (Or.inl ⟨by rfl, ?_⟩) ?_ ?_
        rotate_left
        · intro w'
          go_simp
          with_reducible rfl
        rotate_left
        · simp only [Act.put, List.setIfInBounds_toArray, List.set_cons_zero, List.set_cons_succ]
          rfl
        refine done_ (done_of HT_.out (by kernel_rfl)) ?_
        clear HT_ HW_
        have z0 : (((w4.setCell ⟨w.heap.size, 0, none⟩ (.int .i64 kv.lo)).setCell ⟨w.heap.size, 1, none⟩ (.int .i64 kv.hi)).setCell ⟨w.heap.size, 2, none⟩ (.int .i64 kv.v)).cell? ⟨w.heap.size, 0, none⟩ = some (.int .i64 kv.lo) := (blk_box3 (kv := kv) H4.out.2.1).cell 0
        have z1 : (((w4.setCell ⟨w.heap.size, 0, none⟩ (.int .i64 kv.lo)).setCell ⟨w.heap.size, 1, none⟩ (.int .i64 kv.hi)).setCell ⟨w.heap.size, 2, none⟩ (.int .i64 kv.v)).cell? ⟨w.heap.size, 1, none⟩ = some (.int .i64 kv.hi) := (blk_box3 (kv := kv) H4.out.2.1).cell 1
        have z2 : (((w4.setCell ⟨w.heap.size, 0, none⟩ (.int .i64 kv.lo)).setCell ⟨w.heap.size, 1, none⟩ (.int .i64 kv.hi)).setCell ⟨w.heap.size, 2, none⟩ (.int .i64 kv.v)).cell? ⟨w.heap.size, 2, none⟩ = some (.int .i64 kv.v) := (blk_box3 (kv := kv) H4.out.2.1).cell 2
        go_wp2_with fail
        refine bodyPost_ret (v := .tuple #[.pointer u4, .agg #[.int .i64 kv.lo, .int .i64 kv.hi, .int .i64 kv.v], .bool ok]) (by simp [results, Try.results52, go_sem, z0, z1, z2]) rfl ?_
        refine ⟨t', kv, ok, by rw [HU4.out], by rw [HR.out, H2.out.2.2.2.2.2.2, H4.out.2.2.2.1]; rfl, ?_⟩
        have h9 : w.heap.size ∉ t'.ids := fun hx => HP.out.1 (H4.out.2.2.2.2.1.mem_iff.1 hx)
        have hf : Fr (fun n => n ∈ (N.node b s h m l r').ids ∨ w.heap.size ≤ n) (w2.setCell ⟨b, 5, none⟩ r'.ptr) (box3 w4 (w.heap.size) kv) := by
          rw [HU.out]
          exact ((HI.out.2.into (fun n e => .inr (by omega))).then (H4.out.2.2.2.2.2.into (fun n e => .inl e))).then (fr_box3.into (fun n e => .inr (by omega)))
        exact put_right HG.out.mem HG.out.nodup H2.out.1 ⟨N.In.fr fr_box3 H4.out.2.2.1 (fun y hy e => h9 (e ▸ hy)), H4.out.2.2.2.2.1, hf⟩
      · have HR : Hid (T.rem (N.node b s h m l r).raw key = (T.reb (thisT h m l.raw r.raw), s, true)) := rem_this h1 h2
        go_enter Try.func52, Try.ntmps52
        go_wp2_with fail
        have HB : Hid (Two w ((w.alloc (.cells #[.int .i64 0, .int .i64 0, .int .i64 0] 74)).alloc (.cells #[.int .i64 0, .int .i64 0, .int .i64 0] 74))) := HB0.out
        have k0 : ((w.alloc (.cells #[.int .i64 0, .int .i64 0, .int .i64 0] 74)).alloc (.cells #[.int .i64 0, .int .i64 0, .int .i64 0] 74)).heap.size = w.heap.size + 1 + 1 := by simp
        clear HB0 c0 c4 c5
        generalize (w.alloc (.cells #[.int .i64 0, .int .i64 0, .int .i64 0] 74)).alloc (.cells #[.int .i64 0, .int .i64 0, .int .i64 0] 74) = W at HB k0 ⊢
        clear h1 h2
        have HN : Hid (b ≠ w.heap.size + 1 ∧ b ≠ w.heap.size ∧ ∀ p, w.heap.size ≤ p → p ∉ (N.node b s h m l r).ids) := by
          have hlt := N.In.lt HG.out.mem
          have hb0 := hlt b (by simp [N.ids])
          exact ⟨by omega, by omega, fun p hp hx => by have := hlt p hx; omega⟩
        have HGW : Hid (Good base W (N.node b s h m l r)) := HG.out.to HB.out.bel
        refine (newKV_any b s h m l r W HGW.out.mem.1).mono ?_
        rintro e w2 ⟨rfl, hb⟩
        have hf0 := Fr.new (Z := fun _ => False) hb
        have H2 : Hid (Good base w2 (N.node b s h m l r) ∧ Blk w2 (w.heap.size) (kvc ⟨0, 0, 0⟩) 74 ∧ Blk w2 (w.heap.size + 1) (kvc ⟨0, 0, 0⟩) 74 ∧ Below w.heap.size w w2) :=
          ⟨HGW.out.to hb, HB.out.p5.fr hf0 (fun h => h), HB.out.p7.fr hf0 (fun h => h), below_at HB.out.bel hb HB.out.bel.size⟩
        clear hb hf0 k0
        have e0 : w2.cell? ⟨w.heap.size + 1, 0, none⟩ = some (.int .i64 0) := H2.out.2.2.1.cell 0
        have e1 : w2.cell? ⟨w.heap.size + 1, 1, none⟩ = some (.int .i64 0) := H2.out.2.2.1.cell 1
        have e2 : w2.cell? ⟨w.heap.size + 1, 2, none⟩ = some (.int .i64 0) := H2.out.2.2.1.cell 2
        have f0 : w2.frozen? ⟨w.heap.size + 1, 0, none⟩ = false := H2.out.2.2.1.free 0
        have f1 : w2.frozen? ⟨w.heap.size + 1, 1, none⟩ = false := H2.out.2.2.1.free 1
        have f2 : w2.frozen? ⟨w.heap.size + 1, 2, none⟩ = false := H2.out.2.2.1.free 2
        go_wp2_with fail
        clear e0 e1 e2 f0 f1 f2
        have H3 : Hid (Good base (((w2.setCell ⟨w.heap.size + 1, 0, none⟩ (.int .i64 s.lo)).setCell ⟨w.heap.size + 1, 1, none⟩ (.int .i64 s.hi)).setCell ⟨w.heap.size + 1, 2, none⟩ (.int .i64 s.v)) (N.node b s h m l r) ∧ Blk (((w2.setCell ⟨w.heap.size + 1, 0, none⟩ (.int .i64 s.lo)).setCell ⟨w.heap.size + 1, 1, none⟩ (.int .i64 s.hi)).setCell ⟨w.heap.size + 1, 2, none⟩ (.int .i64 s.v)) (w.heap.size + 1) (kvc s) 74 ∧ Blk (((w2.setCell ⟨w.heap.size + 1, 0, none⟩ (.int .i64 s.lo)).setCell ⟨w.heap.size + 1, 1, none⟩ (.int .i64 s.hi)).setCell ⟨w.heap.size + 1, 2, none⟩ (.int .i64 s.v)) (w.heap.size) (kvc ⟨0, 0, 0⟩) 74 ∧ Fr (fun n => w.heap.size ≤ n) w (((w2.setCell ⟨w.heap.size + 1, 0, none⟩ (.int .i64 s.lo)).setCell ⟨w.heap.size + 1, 1, none⟩ (.int .i64 s.hi)).setCell ⟨w.heap.size + 1, 2, none⟩ (.int .i64 s.v))) :=
          ⟨H2.out.1.fr (fr_box3 (kv := s)) (fun y hy e => HN.out.2.2 (w.heap.size + 1) (by omega) (e ▸ hy)), blk_box3 (kv := s) H2.out.2.2.1, H2.out.2.1.fr (fr_box3 (p := w.heap.size + 1) (kv := s)) (by omega), (Fr.new H2.out.2.2.2).then ((fr_box3 (p := w.heap.size + 1) (kv := s)).into (fun n e => by omega))⟩
        generalize ((w2.setCell ⟨w.heap.size + 1, 0, none⟩ (.int .i64 s.lo)).setCell ⟨w.heap.size + 1, 1, none⟩ (.int .i64 s.hi)).setCell ⟨w.heap.size + 1, 2, none⟩ (.int .i64 s.v) = w5 at H3 ⊢
        refine (this_any b s h m l r w5 H3.out.1 HT.out.2 (fun key w g hr => remove_any r key w g hr)).mono ?_
        rintro e w3 ⟨t1, rfl, hraw1, hput1⟩
        have hlt := N.In.lt HG.out.mem
        have z9 : w.heap.size ∉ t1.ids := fun hp => (hput1.ids _ hp).elim (fun q => HN.out.2.2 _ (by omega) q) (fun q => by have := H3.out.2.2.1.lt; omega)
        have z11 : w.heap.size + 1 ∉ t1.ids := fun hp => (hput1.ids _ hp).elim (fun q => HN.out.2.2 _ (by omega) q) (fun q => by have := H3.out.2.1.lt; omega)
        have H11 : Hid (Blk w3 (w.heap.size + 1) (kvc s) 74) := H3.out.2.1.fr hput1.fr (HN.out.2.2 _ (by omega))
        have H9 : Hid (Blk w3 (w.heap.size) (kvc ⟨0, 0, 0⟩) 74) := H3.out.2.2.1.fr hput1.fr (HN.out.2.2 _ (by omega))
        have hP : Put (N.node b s h m l r) t1 w w3 := ⟨hput1.mem, hput1.nodup, fun x hx => (hput1.ids x hx).imp id (fun q => Nat.le_trans H3.out.2.2.2.size q), (H3.out.2.2.2.mono (S' := fun n => n ∈ (N.node b s h m l r).ids) (fun n hn q => by omega)).then hput1.fr⟩
        have HI : Hid (Put (N.node b s h m l r) t1 w w3 ∧ t1.raw = thisT h m l.raw r.raw) := ⟨hP, hraw1⟩
        have HP : Hid (w.heap.size ∉ t1.ids ∧ w.heap.size + 1 ∉ t1.ids ∧ b ≠ w.heap.size + 1 ∧ b ≠ w.heap.size) := ⟨z9, z11, HN.out.1, HN.out.2.1⟩
        clear hraw1 hput1 hlt z9 z11 hP
        obtain ⟨u1, hu1⟩ := t1.ptr_some
        have HU1 : Hid (t1.ptr = .pointer u1) := hu1
        rw [hu1]
        clear hu1
        go_wp2_with fail
        have e0 : w3.cell? ⟨w.heap.size + 1, 0, none⟩ = some (.int .i64 s.lo) := H11.out.cell 0
        have e1 : w3.cell? ⟨w.heap.size + 1, 1, none⟩ = some (.int .i64 s.hi) := H11.out.cell 1
        have e2 : w3.cell? ⟨w.heap.size + 1, 2, none⟩ = some (.int .i64 s.v) := H11.out.cell 2
        refine start_ (n := 7) (S := fun w' => w'.cell? ⟨w.heap.size + 1, 0, none⟩ = some (.int .i64 s.lo) ∧ w'.cell? ⟨w.heap.size + 1, 1, none⟩ = some (.int .i64 s.hi) ∧ w'.cell? ⟨w.heap.size + 1, 2, none⟩ = some (.int .i64 s.v)) (ds := [5]) #[false, false, false, false, false, false, false] (by kernel_rfl) rfl rfl ⟨e0, e1, e2⟩ (fun hHeld => ?_)
        refine with_tabW rem11.tab rem11.bits (fun HT_ HW_ => ?_)
        clear e0 e1 e2
        refine pure_ (i := 0) (N := some 56) (v := ?_) (a' := ?_) #[true, false, false, false, false, false, false] rfl rfl (any_of HT_.out (by kernel_rfl)) (fun _ _ _ h => h) (Or.inl ⟨by rfl, ?_⟩) ?_ ?_
        rotate_left
        · intro w'
          go_simp
          with_reducible rfl
        rotate_left
        · simp only [Act.put, List.setIfInBounds_toArray, List.set_cons_zero, List.set_cons_succ]
          rfl
        refine take_ (i := 2) (N := some 58) (v := ?_) (a' := ?_) #[true, false, true, false, false, false, false] rfl rfl (take_ofW HT_.out HW_.out (by kernel_rfl)) (fun _ _ _ h => h) (Or.inl ⟨by rfl, ?_⟩) hHeld ?_ ?_
        rotate_left
        · intro w' s0
          obtain ⟨s1, s2, s3⟩ := s0
          go_simp
          with_reducible rfl
        rotate_left
        · simp only [Act.put, List.setIfInBounds_toArray, List.set_cons_zero, List.set_cons_succ]
          rfl
        refine pure_ (i := 3) (N := some 59) (v := ?_) (a' := ?_) #[true, false, true, true, false, false, false] rfl rfl (any_of HT_.out (by kernel_rfl)) (fun _ _ _ h => h) (Or.inl ⟨by rfl, ?_⟩) ?_ ?_
        rotate_left
        · intro w'
          go_simp
          with_reducible rfl
        rotate_left
        · simp only [Act.put, List.setIfInBounds_toArray, List.set_cons_zero, List.set_cons_succ]
          rfl
        refine one_ (i := 1) (N := some 57) #[true, true, true, true, false, false, false] rfl rfl (one_of HT_.out (by kernel_rfl)) (by decide) (fun K_ hK => ?_)
        refine call_ (N := some 57) 62 #[.pointer u1] (by rfl) rfl (by go_simp) ?_
        have HCall_ := reb_at t1 (.pointer u1) HU1.out w3.drew (N.In.drew HI.out.1.mem) HI.out.1.nodup (part_this HG.out.lf.good HG.out.rt.good HT.out.1 HT.out.2 HI.out.2)
        refine HCall_.mono ?_
        clear HCall_
        rintro e w4 ⟨t', rfl, i1, i2, i3, i4⟩
        have H4 : Hid (Blk w4 (w.heap.size + 1) (kvc s) 74 ∧ Blk w4 (w.heap.size) (kvc ⟨0, 0, 0⟩) 74 ∧ t'.In w4 ∧ t'.raw = T.reb (t1).raw ∧ t'.ids.Perm (t1).ids ∧ Fr (· ∈ (t1).ids) w3 w4) :=
          ⟨Blk.fr (w := w3.drew) H11.out i4 HP.out.2.1, Blk.fr (w := w3.drew) H9.out i4 HP.out.1, i1, i2, i3, ⟨i4.os, i4.tape, i4.output, i4.size, i4.block⟩⟩
        clear i1 i2 i3 i4
        obtain ⟨u4, hu4⟩ := t'.ptr_some
        have HU4 : Hid (t'.ptr = .pointer u4) := hu4
        rw [hu4]
        clear hu4
        refine ⟨_, rfl, ?_⟩
        refine hK.out _ _ ⟨H4.out.1.cell 0, H4.out.1.cell 1, H4.out.1.cell 2⟩ (fun hHeld => ?_)
        clear hK K_
        refine norm_ (a' := ?_) ?_ ?_
        rotate_left
        · show Act.put _ (some 57) _ = _
          simp only [Act.put, List.setIfInBounds_toArray, List.set_cons_zero, List.set_cons_succ]
          rfl
        refine pure_ (i := 4) (N := some 4) (v := ?_) (a' := ?_) #[true, true, true, true, true, false, false] rfl rfl (any_of HT_.out (by kernel_rfl)) (fun _ _ _ h => h) (Or.inl ⟨by rfl, ?_⟩) ?_ ?_
        rotate_left
        · intro w'
          go_simp
          with_reducible rfl
        rotate_left
        · simp only [Act.put, List.setIfInBounds_toArray, List.set_cons_zero, List.set_cons_succ]
          rfl
        clear hHeld
        have e0 : w4.cell? ⟨w.heap.size, 0, none⟩ = some (.int .i64 0) := H4.out.2.1.cell 0
        have e1 : w4.cell? ⟨w.heap.size, 1, none⟩ = some (.int .i64 0) := H4.out.2.1.cell 1
        have e2 : w4.cell? ⟨w.heap.size, 2, none⟩ = some (.int .i64 0) := H4.out.2.1.cell 2
        have f0 : w4.frozen? ⟨w.heap.size, 0, none⟩ = false := H4.out.2.1.free 0
        have f1 : w4.frozen? ⟨w.heap.size, 1, none⟩ = false := H4.out.2.1.free 1
        have f2 : w4.frozen? ⟨w.heap.size, 2, none⟩ = false := H4.out.2.1.free 2
        refine last_ (i := 5) (N := none) #[true, true, true, true, true, true, false] rfl rfl (one_of HT_.out (by kernel_rfl)) (by decide) (fun K_ hK => ?_)
        refine skip_ (w1 := ?_) (by rfl) rfl ?_ ?_
        rotate_left
        · go_simp
          rfl
        refine hK.out _ _ ?_
        clear hK K_
        clear e0 e1 e2 f0 f1 f2
        refine pure_ (i := 6) (N := some 6) (v := ?_) (a' := ?_) #[true, true, true, true, true, true, true] rfl rfl (any_of HT_.out (by kernel_rfl)) (fun _ _ _ h => h) (Or.inl ⟨by rfl, ?_⟩) ?_ ?_
        rotate_left
        · intro w'
          go_simp
          with_reducible rfl
        rotate_left
        · simp only [Act.put, List.setIfInBounds_toArray, List.set_cons_zero, List.set_cons_succ]
          rfl
        refine done_ (done_of HT_.out (by kernel_rfl)) ?_
        clear HT_ HW_
        have z0 : (((w4.setCell ⟨w.heap.size, 0, none⟩ (.int .i64 s.lo)).setCell ⟨w.heap.size, 1, none⟩ (.int .i64 s.hi)).setCell ⟨w.heap.size, 2, none⟩ (.int .i64 s.v)).cell? ⟨w.heap.size, 0, none⟩ = some (.int .i64 s.lo) := (blk_box3 (kv := s) H4.out.2.1).cell 0
        have z1 : (((w4.setCell ⟨w.heap.size, 0, none⟩ (.int .i64 s.lo)).setCell ⟨w.heap.size, 1, none⟩ (.int .i64 s.hi)).setCell ⟨w.heap.size, 2, none⟩ (.int .i64 s.v)).cell? ⟨w.heap.size, 1, none⟩ = some (.int .i64 s.hi) := (blk_box3 (kv := s) H4.out.2.1).cell 1
        have z2 : (((w4.setCell ⟨w.heap.size, 0, none⟩ (.int .i64 s.lo)).setCell ⟨w.heap.size, 1, none⟩ (.int .i64 s.hi)).setCell ⟨w.heap.size, 2, none⟩ (.int .i64 s.v)).cell? ⟨w.heap.size, 2, none⟩ = some (.int .i64 s.v) := (blk_box3 (kv := s) H4.out.2.1).cell 2
        go_wp2_with fail
        refine bodyPost_ret (v := .tuple #[.pointer u4, .agg #[.int .i64 s.lo, .int .i64 s.hi, .int .i64 s.v], .bool true]) (by simp [results, Try.results52, go_sem, z0, z1, z2]) rfl ?_
        refine ⟨t', s, true, by rw [HU4.out], by rw [HR.out, H4.out.2.2.2.1, HI.out.2], ?_⟩
        have h9 : w.heap.size ∉ t'.ids := fun hx => HP.out.1 (H4.out.2.2.2.2.1.mem_iff.1 hx)
        exact HI.out.1.reb (N.In.fr fr_box3 H4.out.2.2.1 (fun y hy e => h9 (e ▸ hy))) H4.out.2.2.2.2.1 ((H4.out.2.2.2.2.2.into (fun n e => .inl e)).then (fr_box3.into (fun n e => .inr (by omega))))
end Go.Proofs.Ytmnjkdbopafkfaa.Int
