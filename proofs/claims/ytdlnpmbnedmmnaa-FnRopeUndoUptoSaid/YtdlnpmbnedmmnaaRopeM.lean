/- Ropes in memory: Each, with the function that gathers what the leaves hold, and their lengths. For every rope. -/
import Derived.Test.YtdlnpmbnedmmnaaRopeL
import Derived.Maps.AppendAt
import Derived.Laws.OwnMore
namespace Go.Proofs.Ytdlnpmbnedmmnaa.Rope
open Go Go.RowKit Go.Deep Go.Proofs.Ytdlnpmbnedmmnaa.Hk Go.Proofs.Ytdlnpmbnedmmnaa.RopePure Go.Proofs.YtdlnpmbnedmmnaaW.PrintWords Go.Proofs.YtdlnpmbnedmmnaaW.PrintLast Go.Proofs.YtdlnpmbnedmmnaaW.PrintMore
def clo.T : Bool × List (List Nat × List Nat) := (true, [([], []), ([0], [0]), ([], []), ([2], [2]), ([1, 3, 3], [1, 3]), ([], []), ([5], [5]), ([], []), ([7, 4], [7]), ([8], [8]), ([6, 9, 8], [6, 9]), ([0, 1, 2, 3, 4, 5, 6], []), ([11, 4, 10, 0, 1, 2, 3, 4, 5, 6], [4, 11]), ([0, 1, 2, 3, 4, 5, 6, 7, 8, 9, 10, 11, 12], []), ([13, 10, 12, 0, 1, 2, 3, 4, 5, 6, 7, 8, 9, 10, 11, 12], [10, 13])])
def clo.B : List Nat := [0, 1, 0, 4, 15, 0, 32, 0, 159, 415, 1023, 127, 4095, 8191, 16383]
theorem clo.tab : rtab .any (opsOf Try.f37 0) = clo.T := by kernel_rfl
theorem clo.bits : waitsOk clo.T.2 clo.B = true := by kernel_rfl

/-- append of a row, whatever it is, to a row of the call's own, as a step of a region that draws its order. -/
theorem step_append_row {P : Program} {ops : Array Oper} {o : Oper} {a : Act} {w : World} {K : Act → World → Prop} {Q : Exit → Act → World → Prop} {E : Prop} (hgd : o.guard = none) (s x : Operand) (t e : TypeId) (i : TypeInfo) (z : Value) (bytes : Nat)
    (ho : o.op = .call { callee := .builtin .append, args := #[s, x], argTypes := #[t, t] }) (ht : P.underlying t = some (.slice e)) (hi : P.info? e = some i) (hz : i.zero = some z) (hsize : i.size = 1) (hby : i.bytes = bytes) (hzs : z.cells.size = 1)
    (base : Nat) (v : Value) (n : Nat) (xs : List Value) (hs : a.eval s = v) (hown : w.ownsRow base e 1 v n xs) (Av : Option Addr) (m c : Nat) (hx : a.eval x = .slice Av m c) (news : List Value) (hn : news.length = m) (hnone : Av = none → m = 0 ∧ c = 0)
    (hc : ∀ ad, Av = some ad → ∀ j u, news[j]? = some u → w.cell? (ad.add j) = some u) (h1 : ∀ u ∈ news, u.oneCell' = true) (h63 : n + m ≤ maxLen) (hbytes : (n + m) * bytes ≤ 140737488355328) (hbase : base ≤ w.heap.size)
    (h : ∀ v1 w1, w1.ownsRow base e 1 v1 (n + m) (xs ++ news) → w.grownBy w1 v.ownBlock → (v1.ownBlock = v.ownBlock ∨ v1.ownBlock = some w.heap.size) → K (a.put o.dst v1) w1) :
    if Region.wanted o (yielded ops a.tmps) = true then Oper.wp P o a w K Q else E := by
  have hw : Region.wanted o (yielded ops a.tmps) = true := by simp [Region.wanted, hgd]
  rw [if_pos hw]
  cases Av with
  | none =>
    obtain ⟨rfl, rfl⟩ := hnone rfl
    obtain rfl : news = [] := List.eq_nil_of_length_eq_zero hn
    have hrun := run_append_owned_none (P := P) w base t o.type e i 1 ht hi v n xs hown
    unfold Oper.wp
    simp [execOp, ho, resolve, invoke, builtin, hs, hx, hrun, Result.andThen]
    exact h v w (by simpa using hown) ⟨rfl, rfl, rfl, Nat.le_refl _, fun _ _ _ => rfl⟩ (.inl rfl)
  | some ad =>
    obtain ⟨v', w', hrun, r1, r2, _, r4⟩ := run_append_own_at (P := P) w base t o.type e i z 1 bytes ht hi hz hsize hby hzs (by decide) v n xs hown ad m c news (by omega) (hc ad rfl) h1 h63 hbytes hbase
    unfold Oper.wp
    simp [execOp, ho, resolve, invoke, builtin, hs, hx, hrun, Result.andThen]
    exact h v' w' r1 r2 r4
/-- What is gathered so far, in the block X. -/
structure Acc (N0 X : Nat) (vals sizes : List Int) (V1 V2 : Value) (w : World) : Prop where
  blk : Blk w X #[.int .i64 0, V1, V2] 34
  lt : X < N0
  le : N0 ≤ w.heap.size
  r1 : w.ownsRow N0 3 1 V1 vals.length (vals.map (Value.int .i64))
  r2 : w.ownsRow N0 3 1 V2 sizes.length (sizes.map (Value.int .i64))
  apart : ∀ k, V1.ownBlock = some k → V2.ownBlock ≠ some k
section
variable {N0 X : Nat} {vals sizes : List Int} {V1 V2 V : Value} {w w1 : World}
theorem Acc.below (h : Acc N0 X vals sizes V1 V2 w) (hB : Below w.heap.size w w1) : Acc N0 X vals sizes V1 V2 w1 :=
  ⟨h.blk.below hB h.blk.lt, h.lt, Nat.le_trans h.le hB.size, h.r1.kept (row := none) ⟨hB.os, hB.tape, hB.output, hB.size, fun k hk _ => hB.block k hk⟩ (by cases hv : V1.ownBlock <;> simp), h.r2.kept (row := none) ⟨hB.os, hB.tape, hB.output, hB.size, fun k hk _ => hB.block k hk⟩ (by cases hv : V2.ownBlock <;> simp), h.apart⟩
theorem own_slice {base n : Nat} {v : Value} {xs : List Value} (h : w.ownsRow base 3 1 v n xs) : ∃ A c, v = .slice A n c := by
  rcases h.2 with ⟨e1, e2⟩ | ⟨g, cap, cur, e, _⟩
  · exact ⟨none, 0, by rw [e1, e2]⟩
  · exact ⟨_, cap, e⟩
theorem own_new {base n : Nat} {v : Value} {xs : List Value} (h : w.ownsRow base 3 1 v n xs) : ∀ k, v.ownBlock = some k → base ≤ k ∧ k < w.heap.size := h.lt
/-- More in the first row. -/
theorem Acc.first (h : Acc N0 X vals sizes V1 V2 w) {xs : List Int} (ho : w1.ownsRow N0 3 1 V (vals.length + xs.length) (vals.map (Value.int .i64) ++ xs.map (Value.int .i64))) (hg : w.grownBy w1 V1.ownBlock) (hat : V.ownBlock = V1.ownBlock ∨ V.ownBlock = some w.heap.size) :
    w1.ownsRow N0 3 1 V (vals ++ xs).length ((vals ++ xs).map (Value.int .i64)) ∧ w1.ownsRow N0 3 1 V2 sizes.length (sizes.map (Value.int .i64)) ∧ Blk w1 X #[.int .i64 0, V1, V2] 34 ∧ (∀ k, V.ownBlock = some k → V2.ownBlock ≠ some k) ∧ Fr (fun k => N0 ≤ k) w w1 := by
  have hX : some X ≠ V1.ownBlock := fun e => by have := (h.r1.lt X e.symm).1; have := h.lt; omega
  refine ⟨by rw [List.length_append, List.map_append]; exact ho, h.r2.kept hg ?_, (hg.block X h.blk.lt hX).trans h.blk, fun k hk => ?_, ⟨hg.os, hg.tape, hg.output, hg.size, fun k hk hn => hg.block k hk (fun e => hn (h.r1.lt k e.symm).1)⟩⟩
  · cases hv : V1.ownBlock with
    | none => cases h2 : V2.ownBlock with
      | none => exact .inl rfl
      | some k => exact .inr (by simp)
    | some k => exact .inr (h.apart k hv)
  · rcases hat with e | e
    · exact h.apart k (by rw [← e]; exact hk)
    · rw [e] at hk
      obtain rfl := Option.some.inj hk
      exact fun e2 => by have := (h.r2.lt _ e2).2; omega
end
/-- More in the second row; both laid into the block. -/
theorem acc_second {N0 X : Nat} {vals sizes : List Int} {V1 V2 W1 U : Value} {w W W3 : World} {n : Int} (hX : X < N0) (hb : Blk W X #[.int .i64 0, V1, V2] 34) (hle : N0 ≤ W.heap.size) (h1 : W.ownsRow N0 3 1 W1 vals.length (vals.map (Value.int .i64))) (h2 : W.ownsRow N0 3 1 V2 sizes.length (sizes.map (Value.int .i64)))
    (ap : ∀ k, W1.ownBlock = some k → V2.ownBlock ≠ some k) (hf : Fr (fun k => N0 ≤ k) w W) (ho : W3.ownsRow N0 3 1 U (sizes.length + 1) (sizes.map (Value.int .i64) ++ [.int .i64 n])) (hg : W.grownBy W3 V2.ownBlock) (hat : U.ownBlock = V2.ownBlock ∨ U.ownBlock = some W.heap.size) :
    Blk W3 X #[.int .i64 0, V1, V2] 34 ∧ Acc N0 X vals (sizes ++ [n]) W1 U ((W3.setCell ⟨X, 1, none⟩ W1).setCell ⟨X, 2, none⟩ U) ∧ Fr (fun k => k = X ∨ N0 ≤ k) w ((W3.setCell ⟨X, 1, none⟩ W1).setCell ⟨X, 2, none⟩ U) := by
  have hXn : some X ≠ V2.ownBlock := fun e => by have := (h2.lt X e.symm).1; omega
  have B3 : Blk W3 X #[.int .i64 0, V1, V2] 34 := (hg.block X hb.lt hXn).trans hb
  have hr1 : W3.ownsRow N0 3 1 W1 vals.length (vals.map (Value.int .i64)) := h1.kept hg (by
    cases e : W1.ownBlock with
    | none => exact .inl rfl
    | some k => exact .inr (fun e2 => ap k e e2.symm))
  have st : ∀ (Wx : World) (i : Nat) (v : Value) (V : Value) (m : Nat) (cs : List Value), Wx.ownsRow N0 3 1 V m cs → (Wx.setCell ⟨X, i, none⟩ v).ownsRow N0 3 1 V m cs := fun Wx i v V m cs h =>
    h.kept (row := some X) ⟨rfl, rfl, rfl, by simp [World.setCell], fun k hk hn => Below.heap_setCell _ _ _ _ (fun e => hn (by rw [e]))⟩ (.inr (fun e => by have := (h.lt X e).1; omega))
  refine ⟨B3, ⟨(B3.set 1 W1).set 2 U, hX, by simp only [World.setCell, Array.size_modify]; exact Nat.le_trans hle hg.size, st _ _ _ _ _ _ (st _ _ _ _ _ _ hr1), st _ _ _ _ _ _ (st _ _ _ _ _ _ (by rw [List.length_append, List.map_append]; exact ho)), fun k hk e2 => ?_⟩, ?_⟩
  · rcases hat with e | e
    · exact ap k hk (by rw [← e]; exact e2)
    · rw [e] at e2
      obtain rfl := Option.some.inj e2
      have := (h1.lt _ hk).2; omega
  · have f3 : Fr (fun k => k = X ∨ N0 ≤ k) w W3 := (hf.mono (fun n _ a => .inr a)).trans (⟨hg.os, hg.tape, hg.output, hg.size, fun k hk hn => hg.block k hk (fun e => hn (h2.lt k e.symm).1)⟩ : Fr (fun k => N0 ≤ k) W W3) (fun n _ a => .inr a)
    exact (f3.trans Fr.one (fun n _ e => .inl e)).trans Fr.one (fun n _ e => .inl e)
theorem Seg.same {w w' : World} {A : Option Addr} {c : Nat} {xs : List Int} (h : Seg w A c xs) (hs : ∀ k o, dz A c k o → w'.heap[k]? = w.heap[k]?) : Seg w' A c xs :=
  ⟨h.le, h.spot, fun h0 => by
    obtain ⟨b, q, e, hc⟩ := h.at_ h0
    have hb := hs b q ⟨q, e, Nat.le_refl _, by omega⟩
    refine ⟨b, q, e, fun i hi => ?_⟩
    obtain ⟨f, v, hv, hx⟩ := hc i hi
    exact ⟨(froz_of_block hb).trans f, v, (cell_of_block hb).trans hv, hx⟩⟩
theorem N.In.same {w w' : World} : ∀ {t : N}, t.In w → (∀ k o, t.own k o → w'.heap[k]? = w.heap[k]?) → t.In w'
  | .leaf b _ _ _, ⟨h1, h2, h3⟩, hs => ⟨(hs b 0 (.inl rfl)).trans h1, h2.same (fun k o hz => hs k o (.inr hz)), h3⟩
  | .node b _ _, ⟨h1, h2, h3, h4⟩, hs => ⟨(hs b 0 (.inl rfl)).trans h1, N.In.same h2 (fun k o hz => hs k o (.inr (.inl hz))), N.In.same h3 (fun k o hz => hs k o (.inr (.inr hz))), h4⟩
theorem N.In.fr {w w' : World} {Z : Nat → Prop} {t : N} (h : t.In w) (hf : Fr Z w w') (hd : ∀ k o, t.own k o → ¬ Z k) : t.In w' := h.same (fun k o ho => hf.block k (h.lt k o ho) (hd k o ho))
/-- The function value that gathers into X. -/
def cloV (X : Nat) : Value := .func (.func 37) #[] #[.pointer (some ⟨X, 0, none⟩)]
/-- What gathering leaves. -/
def Gath (N0 X : Nat) (vals sizes : List Int) (w : World) (e : Ending) (w' : World) : Prop := e = .returned (.tuple #[]) ∧ ∃ V1 V2, Acc N0 X vals sizes V1 V2 w' ∧ Fr (fun k => k = X ∨ N0 ≤ k) w w'
set_option maxHeartbeats 8000000 in
set_option maxRecDepth 100000 in
theorem clo_any (N0 X b c : Nat) (A : Option Addr) (xs vals sizes : List Int) (V1 V2 : Value) (w : World) (hin : (N.leaf b A c xs).In w) (hlow : ∀ k o, (N.leaf b A c xs).own k o → k < N0 ∧ k ≠ X) (hA : Acc N0 X vals sizes V1 V2 w) (hl : vals.length + xs.length ≤ 1099511627776) (hs : sizes.length + 1 ≤ 1099511627776) :
    Calls Try.prog 37 #[.pointer (some ⟨b, 0, none⟩), .pointer (some ⟨X, 0, none⟩)] w (Gath N0 X (vals ++ xs) (sizes ++ [(xs.length : Int)]) w) := by
  have HI := hid hin
  have HW := hid hlow
  have HA := hid hA
  have HLL := hid (And.intro hl hs)
  obtain ⟨i, hi, hz, hsz, hby⟩ := infoInt
  have k1 : w.drew.cell? ⟨X, 1, none⟩ = some V1 := hA.blk.cell 1
  have k2 : w.drew.cell? ⟨X, 2, none⟩ = some V2 := hA.blk.cell 2
  clear hin hlow hA hl hs
  go_enter Try.func37, Try.ntmps37
  go_wp2_with fail
  refine start_ (n := 15) (S := fun w' => w'.cell? ⟨X, 1, none⟩ = some (V1) ∧ w'.cell? ⟨X, 2, none⟩ = some (V2)) (ds := [12, 14]) #[false, false, false, false, false, false, false, false, false, false, false, false, false, false, false] (by kernel_rfl) rfl rfl ⟨k1, k2⟩ (fun hHeld => ?_)
  refine with_tabW clo.tab clo.bits (fun HT_ HW_ => ?_)
  clear k1 k2
  refine pure_ (i := 0) (N := some 3) (v := ?_) (a' := ?_) #[true, false, false, false, false, false, false, false, false, false, false, false, false, false, false] rfl rfl (any_of HT_.out (by kernel_rfl)) (fun _ _ _ h => h) (Or.inl ⟨by rfl, ?_⟩) ?_ ?_
  rotate_left
  · intro w'
    go_simp
    with_reducible rfl
  rotate_left
  · simp only [Act.put, List.setIfInBounds_toArray, List.set_cons_zero, List.set_cons_succ]
    rfl
  refine take_ (i := 1) (N := some 4) (v := ?_) (a' := ?_) #[true, true, false, false, false, false, false, false, false, false, false, false, false, false, false] rfl rfl (take_ofW HT_.out HW_.out (by kernel_rfl)) (fun _ _ _ h => h) (Or.inl ⟨by rfl, ?_⟩) hHeld ?_ ?_
  rotate_left
  · intro w' s0
    obtain ⟨s1, s2⟩ := s0
    go_simp
    with_reducible rfl
  rotate_left
  · simp only [Act.put, List.setIfInBounds_toArray, List.set_cons_zero, List.set_cons_succ]
    rfl
  refine pure_ (i := 2) (N := some 5) (v := ?_) (a' := ?_) #[true, true, true, false, false, false, false, false, false, false, false, false, false, false, false] rfl rfl (any_of HT_.out (by kernel_rfl)) (fun _ _ _ h => h) (Or.inl ⟨by rfl, ?_⟩) ?_ ?_
  rotate_left
  · intro w'
    go_simp
    with_reducible rfl
  rotate_left
  · simp only [Act.put, List.setIfInBounds_toArray, List.set_cons_zero, List.set_cons_succ]
    rfl
  refine pure_ (i := 5) (N := some 8) (v := ?_) (a' := ?_) #[true, true, true, false, false, true, false, false, false, false, false, false, false, false, false] rfl rfl (any_of HT_.out (by kernel_rfl)) (fun _ _ _ h => h) (Or.inl ⟨by rfl, ?_⟩) ?_ ?_
  rotate_left
  · intro w'
    go_simp
    with_reducible rfl
  rotate_left
  · simp only [Act.put, List.setIfInBounds_toArray, List.set_cons_zero, List.set_cons_succ]
    rfl
  refine take_ (i := 6) (N := some 9) (v := ?_) (a' := ?_) #[true, true, true, false, false, true, true, false, false, false, false, false, false, false, false] rfl rfl (take_ofW HT_.out HW_.out (by kernel_rfl)) (fun _ _ _ h => h) (Or.inl ⟨by rfl, ?_⟩) hHeld ?_ ?_
  rotate_left
  · intro w' s0
    obtain ⟨s1, s2⟩ := s0
    go_simp
    with_reducible rfl
  rotate_left
  · simp only [Act.put, List.setIfInBounds_toArray, List.set_cons_zero, List.set_cons_succ]
    rfl
  refine pure_ (i := 7) (N := some 10) (v := ?_) (a' := ?_) #[true, true, true, false, false, true, true, true, false, false, false, false, false, false, false] rfl rfl (any_of HT_.out (by kernel_rfl)) (fun _ _ _ h => h) (Or.inl ⟨by rfl, ?_⟩) ?_ ?_
  rotate_left
  · intro w'
    go_simp
    with_reducible rfl
  rotate_left
  · simp only [Act.put, List.setIfInBounds_toArray, List.set_cons_zero, List.set_cons_succ]
    rfl
  refine one_ (i := 3) (N := some 6) #[true, true, true, true, false, true, true, true, false, false, false, false, false, false, false] rfl rfl (one_of HT_.out (by kernel_rfl)) (by decide) (fun K_ hK => ?_)
  refine call_ (N := some 6) 22 #[.pointer (some ⟨b, 0, none⟩)] (by rfl) rfl (by go_simp) ?_
  have HCall_ := Value_any (.leaf b A c xs) w.drew (HI.out.below (Below.refl _ _).drew) (by have := HLL.out; show xs.length ≤ _; omega)
  refine HCall_.mono ?_
  clear HCall_
  rintro e w1 ⟨v, rfl, rfl, rfl⟩
  refine ⟨_, rfl, ?_⟩
  refine hK.out _ _ ⟨HA.out.blk.cell 1, HA.out.blk.cell 2⟩ (fun hHeld => ?_)
  clear hK K_
  refine norm_ (a' := ?_) ?_ ?_
  rotate_left
  · show Act.put _ (some 6) _ = _
    simp only [Act.put, List.setIfInBounds_toArray, List.set_cons_zero, List.set_cons_succ]
    rfl
  refine one_ (i := 4) (N := some 7) #[true, true, true, true, true, true, true, true, false, false, false, false, false, false, false] rfl rfl (one_of HT_.out (by kernel_rfl)) (by decide) (fun K_ hK => ?_)
  refine step_append_row rfl (.tmp 4) (.tmp 6) 24 3 i (.int .i64 0) 8 rfl Try.underlying24 hi hz hsz hby rfl N0 V1 vals.length (vals.map (Value.int .i64)) rfl (HA.out.below (Below.refl _ _).drew).r1 A xs.length c rfl (xs.map (Value.int .i64)) (List.length_map ..) (fun e => ⟨by rw [HI.out.2.1.rd.nil_ e]; rfl, HI.out.2.1.rd.none_ e⟩) (HI.out.2.1.rd.below (Below.refl _ _).drew).news (ints_one _) (by have := HLL.out; unfold maxLen; omega) (by have := HLL.out; omega) HA.out.le ?_
  intro V1' w1 o1 g1 hat
  obtain ⟨A1', c1', rfl⟩ := own_slice o1
  have H1 := hid ((HA.out.below (Below.refl _ _).drew).first o1 g1 hat)
  have HG := hid (show N0 ≤ w1.heap.size from Nat.le_trans HA.out.le g1.size)
  clear o1 g1 hat
  refine hK.out _ _ ⟨H1.out.2.2.1.cell 1, H1.out.2.2.1.cell 2⟩ (fun hHeld => ?_)
  clear hK K_
  refine norm_ (a' := ?_) ?_ ?_
  rotate_left
  · show Act.put _ (some 7) _ = _
    simp only [Act.put, List.setIfInBounds_toArray, List.set_cons_zero, List.set_cons_succ]
    rfl
  refine pure_ (i := 11) (N := some 14) (v := ?_) (a' := ?_) #[true, true, true, true, true, true, true, true, false, false, false, true, false, false, false] rfl rfl (any_of HT_.out (by kernel_rfl)) (fun _ _ _ h => h) (Or.inl ⟨by rfl, ?_⟩) ?_ ?_
  rotate_left
  · intro w'
    go_simp
    with_reducible rfl
  rotate_left
  · simp only [Act.put, List.setIfInBounds_toArray, List.set_cons_zero, List.set_cons_succ]
    rfl
  refine one_ (i := 8) (N := some 11) #[true, true, true, true, true, true, true, true, true, false, false, true, false, false, false] rfl rfl (one_of HT_.out (by kernel_rfl)) (by decide) (fun K_ hK => ?_)
  refine call_ (N := some 11) 34 #[.pointer (some ⟨b, 0, none⟩)] (by rfl) rfl (by go_simp) ?_
  have HCall_ := Len_any (.leaf b A c xs) w1 ((HI.out.below (w' := w.drew) (Below.refl _ _).drew).fr H1.out.2.2.2.2 (fun k o ho e => by have := (HW.out k o ho).1; omega))
  refine HCall_.mono ?_
  clear HCall_
  rintro e w2 ⟨rfl, rfl⟩
  refine ⟨_, rfl, ?_⟩
  refine hK.out _ _ ⟨H1.out.2.2.1.cell 1, H1.out.2.2.1.cell 2⟩ (fun hHeld => ?_)
  clear hK K_
  refine norm_ (a' := ?_) ?_ ?_
  rotate_left
  · show Act.put _ (some 11) _ = _
    simp only [Act.put, List.setIfInBounds_toArray, List.set_cons_zero, List.set_cons_succ]
    rfl
  refine one_ (i := 9) (N := some 12) #[true, true, true, true, true, true, true, true, true, true, false, true, false, false, false] rfl rfl (one_of HT_.out (by kernel_rfl)) (by decide) (fun K_ hK => ?_)
  refine value_ (w1 := ?_) (v := ?_) (by rfl) rfl ?_ ?_
  rotate_left 2
  · go_simp
    constructor
    · rfl
    · rfl
  refine hK.out _ _ ⟨(H1.out.2.2.1.alloc _).cell 1, (H1.out.2.2.1.alloc _).cell 2⟩ (fun hHeld => ?_)
  clear hK K_
  refine norm_ (a' := ?_) ?_ ?_
  rotate_left
  · show Act.put _ (some 12) _ = _
    simp only [Act.put, List.setIfInBounds_toArray, List.set_cons_zero, List.set_cons_succ]
    rfl
  refine one_ (i := 10) (N := some 13) #[true, true, true, true, true, true, true, true, true, true, true, true, false, false, false] rfl rfl (one_of HT_.out (by kernel_rfl)) (by decide) (fun K_ hK => ?_)
  refine step_append_row rfl (.tmp 9) (.tmp 12) 24 3 i (.int .i64 0) 8 rfl Try.underlying24 hi hz hsz hby rfl N0 V2 sizes.length (sizes.map (Value.int .i64)) rfl (H1.out.2.1.alloc _) (some ⟨w2.heap.size, 0, none⟩) 1 1 rfl [.int .i64 (xs.length : Int)] rfl (fun e => by cases e) (fun ad e j u hu => by
    obtain rfl := Option.some.inj e
    match j, hu with
    | 0, hu =>
      obtain rfl : Value.int .i64 (xs.length : Int) = u := by simpa using hu
      rw [Addr.add_zero']
      exact (Blk.new w2 #[.int .i64 (xs.length : Int)] 3).cell 0) (fun u hu => by rw [List.mem_singleton] at hu; subst hu; rfl) (by have := HLL.out; unfold maxLen; omega) (by have := HLL.out; omega) (by rw [alloc_size]; exact Nat.le_succ_of_le HG.out) ?_
  intro V2' w3 o1 g1 hat
  obtain ⟨A2', c2', rfl⟩ := own_slice o1
  have H3 := hid (acc_second (HA.out.lt) (H1.out.2.2.1.alloc _) (by rw [alloc_size]; exact Nat.le_succ_of_le HG.out) (H1.out.1.alloc _) (H1.out.2.1.alloc _) H1.out.2.2.2.1 (H1.out.2.2.2.2.alloc _) o1 g1 hat)
  have q1 : w3.cell? ⟨X, 1, none⟩ = some V1 := H3.out.1.cell 1
  have q2 : w3.cell? ⟨X, 2, none⟩ = some V2 := H3.out.1.cell 2
  have p1 : w3.frozen? ⟨X, 1, none⟩ = false := H3.out.1.free 1
  have p2 : w3.frozen? ⟨X, 2, none⟩ = false := H3.out.1.free 2
  clear o1 g1 hat
  refine hK.out _ _ ⟨q1, q2⟩ (fun hHeld => ?_)
  clear hK K_
  refine norm_ (a' := ?_) ?_ ?_
  rotate_left
  · show Act.put _ (some 13) _ = _
    simp only [Act.put, List.setIfInBounds_toArray, List.set_cons_zero, List.set_cons_succ]
    rfl
  refine last_ (i := 12) (N := none) #[true, true, true, true, true, true, true, true, true, true, true, true, true, false, false] rfl rfl (one_of HT_.out (by kernel_rfl)) (by decide) (fun K_ hK => ?_)
  refine skip_ (w1 := ?_) (by rfl) rfl ?_ ?_
  rotate_left
  · go_simp
    rfl
  refine hK.out _ _ ?_
  clear hK K_
  refine pure_ (i := 13) (N := some 15) (v := ?_) (a' := ?_) #[true, true, true, true, true, true, true, true, true, true, true, true, true, true, false] rfl rfl (any_of HT_.out (by kernel_rfl)) (fun _ _ _ h => h) (Or.inl ⟨by rfl, ?_⟩) ?_ ?_
  rotate_left
  · intro w'
    go_simp
    with_reducible rfl
  rotate_left
  · simp only [Act.put, List.setIfInBounds_toArray, List.set_cons_zero, List.set_cons_succ]
    rfl
  refine last_ (i := 14) (N := none) #[true, true, true, true, true, true, true, true, true, true, true, true, true, true, true] rfl rfl (one_of HT_.out (by kernel_rfl)) (by decide) (fun K_ hK => ?_)
  refine skip_ (w1 := ?_) (by rfl) rfl ?_ ?_
  rotate_left
  · go_simp
    rfl
  refine hK.out _ _ ?_
  clear hK K_
  refine done_ (done_of HT_.out (by kernel_rfl)) ?_
  clear HT_ HW_
  go_wp2_with fail
  (try simp only [Exit.inBlock, Exit.then])
  refine bodyPost_end (results_none rfl _ _ _) rfl ?_
  have hf := H3.out.2.2
  exact ⟨rfl, _, _, H3.out.2.1, ⟨hf.os, hf.tape, hf.output, hf.size, hf.block⟩⟩
theorem flat_node (bk : Nat) (l r : N) : (N.node bk l r).raw.flat = l.raw.flat ++ r.raw.flat := rfl
theorem sizes_node (bk : Nat) (l r : N) : (N.node bk l r).raw.sizes = l.raw.sizes ++ r.raw.sizes := rfl
set_option maxHeartbeats 8000000 in
set_option maxRecDepth 100000 in
theorem Each_any (N0 X : Nat) : ∀ (t : N) (vals sizes : List Int) (V1 V2 : Value) (w : World), t.In w → (∀ k o, t.own k o → k < N0 ∧ k ≠ X) → Acc N0 X vals sizes V1 V2 w → vals.length + t.raw.flat.length ≤ 1099511627776 → sizes.length + t.raw.sizes.length ≤ 1099511627776 →
    Calls Try.prog 36 #[t.ptr, cloV X] w (Gath N0 X (vals ++ t.raw.flat) (sizes ++ ints t.raw.sizes) w)
  | .leaf b A c xs, vals, sizes, V1, V2, w, hin, hlow, hA, hl, hs => by
    have c0 : w.cell? ⟨b, 0, none⟩ = some (.int .u8 0) := hin.1.cell 0
    have HC := hid (clo_any N0 X b c A xs vals sizes V1 V2 w hin hlow hA hl hs)
    clear hin hlow hA hl hs
    show Calls Try.prog 36 #[.pointer (some ⟨b, 0, none⟩), .func (.func 37) #[] #[.pointer (some ⟨X, 0, none⟩)]] w _
    go_enter Try.func36, Try.ntmps36
    go_wp2_with fail
    refine HC.out.mono ?_
    rintro e w1 ⟨rfl, hT⟩
    have HT := hid hT
    clear hT
    go_wp2_with fail
    (try simp only [Exit.inBlock, Exit.then])
    refine bodyPost_end (results_none rfl _ _ _) rfl ?_
    exact ⟨rfl, HT.out⟩
  | .node bk l r, vals, sizes, V1, V2, w, hin, hlow, hA, hl, hs => by
    rw [flat_node, List.length_append] at hl
    rw [sizes_node, List.length_append] at hs
    have c0 : w.cell? ⟨bk, 0, none⟩ = some (.int .u8 1) := hin.1.cell 0
    have c3 : w.cell? ⟨bk, 3, none⟩ = some l.ptr := hin.1.cell 3
    have HI := hid hin
    have HW := hid hlow
    have HA := hid hA
    have HL := hid (And.intro hl hs)
    have IL := hid (Each_any N0 X l)
    have IR := hid (Each_any N0 X r)
    clear hin hlow hA hl hs
    show Calls Try.prog 36 #[.pointer (some ⟨bk, 0, none⟩), .func (.func 37) #[] #[.pointer (some ⟨X, 0, none⟩)]] w _
    go_enter Try.func36, Try.ntmps36
    go_wp2_with fail
    refine (IL.out vals sizes V1 V2 w HI.out.2.1 (fun k o ho => HW.out k o (.inr (.inl ho))) HA.out (by have := HL.out; omega) (by have := HL.out; omega)).mono ?_
    rintro e w1 ⟨rfl, U1, U2, hA1, hF1⟩
    have H1 := hid (And.intro hA1 hF1)
    have B1 := HI.out.1.fr hF1 (fun e => by have := HW.out bk 0 (.inl rfl); omega)
    have c4 : w1.cell? ⟨bk, 4, none⟩ = some r.ptr := B1.cell 4
    clear hA1 hF1 B1 c0 c3
    go_wp2_with fail
    refine (IR.out (vals ++ l.raw.flat) (sizes ++ ints l.raw.sizes) U1 U2 w1 (HI.out.2.2.1.fr H1.out.2 (fun k o ho e => by have := HW.out k o (.inr (.inr ho)); omega)) (fun k o ho => HW.out k o (.inr (.inr ho))) H1.out.1 (by have := HL.out; rw [List.length_append]; omega) (by have := HL.out; rw [List.length_append, ints, List.length_map]; omega)).mono ?_
    rintro e w2 ⟨rfl, W1, W2, hA2, hF2⟩
    have H2 := hid (And.intro hA2 hF2)
    clear hA2 hF2
    go_wp2_with fail
    (try simp only [Exit.inBlock, Exit.then])
    refine bodyPost_end (results_none rfl _ _ _) rfl ?_
    refine ⟨rfl, W1, W2, ?_, H1.out.2.trans H2.out.2 (fun n _ a => a)⟩
    have h := H2.out.1
    rw [List.append_assoc, List.append_assoc] at h
    rw [flat_node, sizes_node, show ints (l.raw.sizes ++ r.raw.sizes) = ints l.raw.sizes ++ ints r.raw.sizes from List.map_append ..]
    exact h
end Go.Proofs.Ytdlnpmbnedmmnaa.Rope
