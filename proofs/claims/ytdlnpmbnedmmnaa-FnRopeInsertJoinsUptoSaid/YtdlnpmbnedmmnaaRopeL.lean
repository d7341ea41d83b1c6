/- Ropes in memory: one step of a script. For every rope and every step that may be done with it. -/
import Derived.Test.YtdlnpmbnedmmnaaRopeK
import Derived.StillTailTactics
namespace Go.Proofs.Ytdlnpmbnedmmnaa.Rope
open Go Go.RowKit Go.Deep Go.Proofs.Ytdlnpmbnedmmnaa.Hk Go.Proofs.Ytdlnpmbnedmmnaa.RopePure Go.Proofs.YtdlnpmbnedmmnaaW.PrintWords Go.Proofs.YtdlnpmbnedmmnaaW.PrintLast Go.Proofs.YtdlnpmbnedmmnaaW.PrintMore
def rdo4.T : Bool × List (List Nat × List Nat) := (true, [([], []), ([], []), ([1], [1]), ([], []), ([3], [3]), ([4], [4]), ([0, 2, 5, 5], [0, 2, 5])])
def rdo4.B : List Nat := [0, 0, 2, 0, 8, 24, 63]
theorem rdo4.tab : rtab .any (opsOf Try.f26 4) = rdo4.T := by kernel_rfl
theorem rdo4.bits : waitsOk rdo4.T.2 rdo4.B = true := by kernel_rfl
/-- A row of the call's own. -/
abbrev Ro (w : World) (base : Nat) (v : Value) (xs : List Int) : Prop := (Kd.int .i64).R 3 w base (fun _ => True) v xs
theorem ro_ge {w : World} {base : Nat} {ok : Nat → Prop} {v : Value} {xs : List Int} (h : (Kd.int .i64).R 3 w base ok v xs) : ∀ k, v.ownBlock = some k → base ≤ k ∧ k < w.heap.size := by
  obtain ⟨_, inner, ho, _⟩ := h
  exact ho.lt
theorem Ro.ok {w : World} {base : Nat} {v : Value} {xs : List Int} (h : Ro w base v xs) (ok : Nat → Prop) (hk : ∀ k, base ≤ k → k < w.heap.size → ok k) : (Kd.int .i64).R 3 w base ok v xs := Kd.R_reok rfl h (fun k e => hk k (ro_ge h k e).1 (ro_ge h k e).2)
theorem Ro.same {w w' : World} {base : Nat} {v : Value} {xs : List Int} (h : Ro w base v xs) (hk : ∀ k, base ≤ k → k < w.heap.size → w'.heap[k]? = w.heap[k]?) : Ro w' base v xs :=
  Kd.R_mono (Kd.R_step (h.ok (fun k => base ≤ k) (fun _ a _ => a)) (fun k a b => hk k a b)) (fun _ _ => trivial)
theorem info3 : (Try.prog.info? 3).map (fun i => (i.zero, i.size, i.bytes)) = some (some (.int .i64 0), 1, 8) := by kernel_rfl
set_option maxHeartbeats 4000000 in
set_option maxRecDepth 100000 in
theorem copied_any (A : Option Addr) (c : Nat) (xs : List Int) (w : World) (hR : Kd.C (Kd.int .i64) w A xs.length xs) (hl : xs.length ≤ 1099511627776) :
    Calls Try.prog 20 #[.slice A xs.length c] w fun e w' => ∃ v, e = .returned v ∧ Ro w' w.heap.size v xs ∧ Below w.heap.size w w' := by
  have HC := hid hR
  have HL := hid hl
  clear hR hl
  go_enter Try.func20, Try.ntmps20
  go_wp2_with (first | ((with_reducible refine gate_dst (N := 3) rfl ?_); refine Kd.R_lit (Kd.int .i64) (w0 := w) w.heap.size 3 ?hg (N := 3) ?hd (xs := ([] : List Int)) (inner := []) (ok := fun _ => True) (okp := fun _ => True) ?hr ?hp (fun _ hk => hk) trivial (Below.refl _ _) (Nat.le_refl _) (by simp) ?_; (case hd => rfl); (case hg => rfl); (case hr => first | (go_simp; done) | (go_simp; rfl)); (case hp => exact (Reps.none _ _)); intro v_ w_ ho hb hg_ hnew_; obtain ⟨A_, c_, rfl⟩ := Kd.R_slice ho; have HO := hid (And.intro ho hb); clear hg_ hnew_ ho hb) | ((with_reducible refine gate_builtin (b := .append) (xs := #[.tmp 3, .tmp 4]) rfl ?_); at_builtin; refine Kd.R_append_rows (Kd.int .i64) (w0 := w) w.heap.size rfl (.tmp 3) (.tmp 4) 24 3 (.int .i64 0) 8 rfl Try.underlying24 info3 rfl (by decide) (by omega) _ [] xs _ _ _ (fun _ => True) (fun _ => False) rfl rfl ?aO ?aR (fun _ _ h => h) (fun _ h => h.elim) ?aF ?aB ?aS ?aL ?_; (case aR => exact (Kd.C_below HC.out HO.out.2)); (case aB => exact HO.out.2); (case aF => exact (fun _ _ => trivial)); (case aO => exact HO.out.1); (case aS => exact HO.out.2.size); (case aL => have h_ := HL.out; simp only [List.length_nil]; omega); intro v1 w1 ho hb hg hat; have HP := hid (And.intro ho hb); clear ho hb hg hat))
  go_ret
  exact ⟨_, rfl, HP.out.1, HP.out.2⟩
theorem Ro.owns {w : World} {base : Nat} {v : Value} {xs : List Int} (h : Ro w base v xs) : w.ownsRow base 3 1 v xs.length (xs.map (Value.int .i64)) := by
  obtain ⟨_, inner, ho, hr⟩ := h
  have e : inner = xs.map (Value.int .i64) := by
    have hl : inner.length = xs.length * 1 := hr.1
    refine List.ext_getElem? (fun j => ?_)
    rw [List.getElem?_map]
    cases hx : xs[j]? with
    | none =>
      have := List.getElem?_eq_none_iff.1 hx
      rw [List.getElem?_eq_none (by omega)]
      rfl
    | some x =>
      have h1 : (inner.drop (j * 1)).take 1 = [Value.int .i64 x] := hr.2 j x hx
      have h2 := congrArg (fun l : List Value => l[0]?) h1
      simp only [List.getElem?_take, List.getElem?_drop] at h2
      simpa using h2
  rw [← e]
  exact ho
theorem Ro.seg {w : World} {base : Nat} {v : Value} {xs : List Int} (h : Ro w base v xs) : ∃ A c, v = .slice A xs.length c ∧ Seg w A c xs ∧ (∀ k o, dz A c k o → base ≤ k) := by
  obtain ⟨A, c, e, h1, h2, _⟩ := Seg.owned h.owns
  exact ⟨A, c, e, h1, fun k o hz => (h2 k o hz).1⟩
theorem Len_any (t : N) (w : World) (hin : t.In w) : Calls Try.prog 34 #[t.ptr] w fun e w' => e = .returned (.int .i64 (t.len : Int)) ∧ w' = w := by
  have c2 := hin.len2
  rw [show t.ptr = .pointer (some ⟨t.blk, 0, none⟩) from rfl]
  clear hin
  go_enter Try.func34, Try.ntmps34
  go_wp2_with fail
  go_ret
  exact ⟨rfl, rfl⟩
set_option maxHeartbeats 4000000 in
set_option maxRecDepth 100000 in
theorem Join_two (l r : N) (w : World) (hl : l.In w) (hr : r.In w) (hd : ∀ k o, l.own k o → ¬ r.own k o) (hb : l.len + r.len ≤ 1099511627776) :
    Calls Try.prog 21 #[l.ptr, r.ptr, .slice none 0 0] w fun e w' => ∃ t : N, e = .returned t.ptr ∧ t.raw = T.adj l.raw r.raw ∧ t.In w' ∧ (∀ k o, t.own k o → l.own k o ∨ r.own k o ∨ w.heap.size ≤ k) ∧ Below w.heap.size w w' := by
  have H := hid (join_any l r w hl hr hd hb)
  clear hl hr hd hb
  go_enter Try.func21, Try.ntmps21
  go_wp2_with fail
  refine H.out.mono ?_
  rintro e w1 ⟨t, rfl, h1, h2, h3, h4⟩
  have HT := hid (And.intro h1 (And.intro h2 (And.intro h3 h4)))
  clear h1 h2 h3 h4
  go_wp2_with fail
  go_loopg [7, 15] 0 (fun _ v7 v15 wr => v7 = t.ptr ∧ v15 = .int .i64 0 ∧ wr = w1)
  case atStart => exact ⟨rfl, rfl, rfl⟩
  case round =>
    obtain ⟨rfl, rfl, rfl⟩ := hrel
    go_wp2_with fail
    go_ret
    exact ⟨t, rfl, HT.out⟩
/-- A step: what is to be done, at which place, up to which one, with which row. -/
abbrev Cut4 := Int × Int × Int × List Int
abbrev Part3 := Int × List Int × List Int
def partK : Kd Part3 := Kd.pair (Kd.int .i64) (Kd.pair (Kd.slice 3 (Kd.int .i64)) (Kd.slice 3 (Kd.int .i64)))
def stepR (t : T) (c : Cut4) : T :=
  if c.1 = 0 then T.ins c.2.2.2 t c.2.1.toNat else if c.1 = 1 then T.rem t c.2.1.toNat c.2.2.1.toNat else if c.1 = 6 then T.adj (T.split t c.2.1.toNat).2 (T.split t c.2.1.toNat).1 else if c.1 = 7 then T.adj t (T.new c.2.2.2)
  else if c.1 = 8 then T.adj (T.new c.2.2.2) t else if c.1 = 9 then (T.split t c.2.1.toNat).1 else if c.1 = 10 then (T.split t c.2.1.toNat).2 else t
def ints (l : List Nat) : List Int := l.map Int.ofNat
def tellR (t : T) (c : Cut4) : Part3 :=
  if c.1 = 2 then (0, seg t.flat c.2.1.toNat c.2.2.1.toNat, []) else if c.1 = 3 then (t.flat.getD c.2.1.toNat 0, [], []) else if c.1 = 4 then (0, t.flat, []) else if c.1 = 5 then ((t.len : Int), [], []) else if c.1 = 11 then (0, t.flat, ints t.sizes) else (0, [], [])
/-- Whether a step may be done. -/
def mayR (t : T) (c : Cut4) : Prop :=
  (c.1 = 0 ∨ c.1 = 6 ∨ c.1 = 9 ∨ c.1 = 10 → 0 ≤ c.2.1 ∧ c.2.1 ≤ (t.len : Int)) ∧ (c.1 = 1 ∨ c.1 = 2 → 0 ≤ c.2.1 ∧ c.2.1 ≤ c.2.2.1 ∧ c.2.2.1 ≤ (t.len : Int)) ∧ (c.1 = 3 → 0 ≤ c.2.1 ∧ c.2.1 < (t.len : Int))
/-- What a step leaves. -/
def Done (t : N) (raw : T) (p : Part3) (w : World) (e : Ending) (w' : World) : Prop :=
  ∃ (t' : N) (V1 V2 : Value), e = .returned (.tuple #[t'.ptr, .agg #[.int .i64 p.1, V1, V2]]) ∧ t'.raw = raw ∧ t'.In w' ∧ (∀ k o, t'.own k o → t.own k o ∨ w.heap.size ≤ k) ∧
    (Kd.int .i64).R 3 w' w.heap.size (fun k => ∀ o, ¬ t'.own k o) V1 p.2.1 ∧ (Kd.int .i64).R 3 w' w.heap.size (fun k => ∀ o, ¬ t'.own k o) V2 p.2.2 ∧ Fz t.own w w'
/-- What holds behind a step's own work: the rope, the row that is told (in the block X), the place of the result (X - 1). -/
structure Mid (t t' : N) (S : Nat) (p : Part3) (V1 V2 : Value) (w W : World) : Prop where
  sz : S = w.heap.size
  hin : t'.In W
  own : ∀ k o, t'.own k o → t.own k o ∨ S + 3 ≤ k
  fz : Fz t.own w W
  res : Blk W (S + 1) #[.int .i64 0, .slice none 0 0, .slice none 0 0] 34
  box : Blk W (S + 2) #[.int .i64 p.1, V1, V2] 34
  r1 : (Kd.int .i64).R 3 W (S + 3) (fun k => ∀ o, ¬ t'.own k o) V1 p.2.1
  r2 : (Kd.int .i64).R 3 W (S + 3) (fun k => ∀ o, ¬ t'.own k o) V2 p.2.2
abbrev zeroP : Part3 := (0, [], [])
abbrev enter (w : World) (d a b : Int) (D : Value) : World := ((w.alloc (.cells #[.int .i64 d, .int .i64 a, .int .i64 b, D] 38)).alloc (.cells #[.int .i64 0, .slice none 0 0, .slice none 0 0] 34)).alloc (.cells #[.int .i64 0, .slice none 0 0, .slice none 0 0] 34)
section
variable {t t' t2 : N} {S : Nat} {p : Part3} {V1 V2 : Value} {w W W' : World}
theorem enter_size (w : World) (d a b : Int) (D : Value) : (enter w d a b D).heap.size = w.heap.size + 3 := by simp [enter]
theorem enter_below (w : World) (d a b : Int) (D : Value) : Below w.heap.size w (enter w d a b D) :=
  (((Below.refl _ _).alloc (Nat.le_refl _) _).alloc (by simp) _).alloc (by simp; omega) _
theorem enter_cut (w : World) (d a b : Int) (D : Value) : Blk (enter w d a b D) w.heap.size #[.int .i64 d, .int .i64 a, .int .i64 b, D] 38 := ((Blk.new w _ _).alloc _).alloc _
theorem Mid.start (w : World) (d a b : Int) (D : Value) (h : t.In w) : Mid t t w.heap.size zeroP (.slice none 0 0) (.slice none 0 0) w (enter w d a b D) := by
  have hB := enter_below w d a b D
  refine ⟨rfl, h.below hB, fun k o ho => .inl ho, Fz.new hB, ?_, ?_, Kd.R_nil .., Kd.R_nil ..⟩
  · have h0 := (Blk.new (w.alloc (.cells #[.int .i64 d, .int .i64 a, .int .i64 b, D] 38)) #[.int .i64 0, .slice none 0 0, .slice none 0 0] 34)
    rw [alloc_size] at h0
    exact h0.alloc _
  · have h0 := (Blk.new ((w.alloc (.cells #[.int .i64 d, .int .i64 a, .int .i64 b, D] 38)).alloc (.cells #[.int .i64 0, .slice none 0 0, .slice none 0 0] 34)) #[.int .i64 0, .slice none 0 0, .slice none 0 0] 34)
    rw [alloc_size, alloc_size] at h0
    exact h0
theorem Mid.out (h : Mid t t' S p V1 V2 w W) (ht : t.In w) : (∀ o, ¬ t'.own (S + 1) o) ∧ (∀ o, ¬ t'.own (S + 2) o) := by
  have hs := h.sz
  constructor
  · intro o ho
    rcases h.own _ o ho with q | q
    · have := ht.lt _ _ q; omega
    · omega
  · intro o ho
    rcases h.own _ o ho with q | q
    · have := ht.lt _ _ q; omega
    · omega
/-- New blocks alone. -/
theorem Mid.below (h : Mid t t' S p V1 V2 w W) (hB : Below W.heap.size W W') : Mid t t' S p V1 V2 w W' :=
  ⟨h.sz, h.hin.below hB, h.own, h.fz.then_new hB, h.res.below hB h.res.lt, h.box.below hB h.box.lt, Kd.R_below h.r1 hB, Kd.R_below h.r2 hB⟩
/-- The rope is another one, made of the old one's cells and of new ones. -/
theorem Mid.rope (h : Mid t t' S zeroP (.slice none 0 0) (.slice none 0 0) w W) (ht : t.In w) (h2 : t2.In W') (ho : ∀ k o, t2.own k o → t'.own k o ∨ W.heap.size ≤ k) (hF : Fz t'.own W W') : Mid t t2 S zeroP (.slice none 0 0) (.slice none 0 0) w W' := by
  have hx := h.out ht
  have hs := h.sz
  have hlt := h.box.lt
  refine ⟨h.sz, h2, fun k o a => ?_, h.fz.trans hF (fun n o hn a => ?_), blk_fz h.res hF hx.1, blk_fz h.box hF hx.2, Kd.R_nil .., Kd.R_nil ..⟩
  · rcases ho k o a with q | q
    · exact h.own k o q
    · exact .inr (by omega)
  · rcases h.own n o a with q | q
    · exact q
    · omega
/-- What is told, laid into the block. -/
theorem Mid.number (h : Mid t t' S zeroP (.slice none 0 0) (.slice none 0 0) w W) (ht : t.In w) (n : Int) : Mid t t' S (n, [], []) (.slice none 0 0) (.slice none 0 0) w (W.setCell ⟨S + 2, 0, none⟩ (.int .i64 n)) := by
  have hx := h.out ht
  have hs := h.sz
  have F : Fz (fun k _ => k = S + 2) W (W.setCell ⟨S + 2, 0, none⟩ (.int .i64 n)) := Fz.one.mono (fun _ _ _ e => e.1)
  exact ⟨h.sz, h.hin.fz F (fun k o a e => hx.2 o (e ▸ a)), h.own, h.fz.trans F (fun n o hn e => by omega), blk_fz h.res F (fun _ e => by omega), h.box.set 0 _, Kd.R_nil .., Kd.R_nil ..⟩
theorem Mid.row (h : Mid t t' S zeroP (.slice none 0 0) (.slice none 0 0) w W) (ht : t.In w) {v : Value} {xs : List Int} (hR : Ro W' W.heap.size v xs) (hB : Below W.heap.size W W') : Mid t t' S (0, xs, []) v (.slice none 0 0) w (W'.setCell ⟨S + 2, 1, none⟩ v) := by
  have hx := h.out ht
  have hs := h.sz
  have hlt := h.box.lt
  have h' := h.below hB
  have F : Fz (fun k _ => k = S + 2) W' (W'.setCell ⟨S + 2, 1, none⟩ v) := Fz.one.mono (fun _ _ _ e => e.1)
  refine ⟨h.sz, h'.hin.fz F (fun k o a e => hx.2 o (e ▸ a)), h.own, h'.fz.trans F (fun n o hn e => by omega), blk_fz h'.res F (fun _ e => by omega), h'.box.set 1 _, ?_, Kd.R_nil ..⟩
  have h1 : Ro (W'.setCell ⟨S + 2, 1, none⟩ v) W.heap.size v xs := hR.same (fun k hk _ => F.block k (by omega) (fun _ e => by omega))
  exact Kd.R_lower (h1.ok _ (fun k hk _ o a => by have := h.hin.lt k o a; omega)) (by omega)
/-- The end: the row is told. -/
theorem Mid.done (h : Mid t t' S p V1 V2 w W) (ht : t.In w) : Done t t'.raw p w (.returned (.tuple #[t'.ptr, .agg #[.int .i64 p.1, V1, V2]])) (((W.setCell ⟨S + 1, 0, none⟩ (.int .i64 p.1)).setCell ⟨S + 1, 1, none⟩ V1).setCell ⟨S + 1, 2, none⟩ V2).drew := by
  have hx := h.out ht
  have hs := h.sz
  have F : Fz (fun k _ => k = S + 1) W (((W.setCell ⟨S + 1, 0, none⟩ (.int .i64 p.1)).setCell ⟨S + 1, 1, none⟩ V1).setCell ⟨S + 1, 2, none⟩ V2).drew :=
    ((((Fz.refl _ W).trans Fz.one (fun _ _ _ e => e.1)).trans Fz.one (fun _ _ _ e => e.1)).trans Fz.one (fun _ _ _ e => e.1)).drew
  generalize (((W.setCell ⟨S + 1, 0, none⟩ (.int .i64 p.1)).setCell ⟨S + 1, 1, none⟩ V1).setCell ⟨S + 1, 2, none⟩ V2).drew = W2 at F ⊢
  have mv : ∀ (v : Value) (xs : List Int), (Kd.int .i64).R 3 W (S + 3) (fun k => ∀ o, ¬ t'.own k o) v xs → (Kd.int .i64).R 3 W2 w.heap.size (fun k => ∀ o, ¬ t'.own k o) v xs := fun v xs hR => by
    have h1 := Kd.R_reok (ok := fun k => S + 3 ≤ k ∧ ∀ o, ¬ t'.own k o) rfl hR (fun k e => ⟨(ro_ge hR k e).1, hR.1 k e⟩)
    have h2 := Kd.R_step h1 (fun k a b => F.block k b (fun _ e => by omega))
    exact Kd.R_lower (Kd.R_mono h2 (fun _ a => a.2)) (by omega)
  refine ⟨t', V1, V2, rfl, rfl, h.hin.fz F (fun k o a e => hx.1 o (e ▸ a)), fun k o a => ?_, mv _ _ h.r1, mv _ _ h.r2, h.fz.trans F (fun n o hn e => by omega)⟩
  rcases h.own k o a with q | q
  · exact .inl q
  · exact .inr (by omega)
end
set_option maxHeartbeats 8000000 in
set_option maxRecDepth 100000 in
theorem rdo_0 (t : N) (a b : Int) (Ad : Option Addr) (dc : Nat) (data : List Int) (w : World) (hin : t.In w) (hm : mayR t.raw (0, a, b, data)) (hl : t.len + data.length ≤ 1099511627776) (hD : Kd.C (Kd.int .i64) w Ad data.length data) :
    Calls Try.prog 26 #[t.ptr, .agg #[.int .i64 0, .int .i64 a, .int .i64 b, .slice Ad data.length dc]] w (Done t (stepR t.raw (0, a, b, data)) (tellR t.raw (0, a, b, data)) w) := by
  obtain ⟨ha, hb⟩ : 0 ≤ a ∧ a ≤ (t.len : Int) := hm.1 (.inl rfl)
  obtain ⟨x, rfl⟩ : ∃ n : Nat, a = (n : Int) := ⟨a.toNat, by omega⟩
  have HI := hid hin
  have HL := hid hl
  have HD := hid hD
  have HM0 := hid (Mid.start w 0 (x : Int) b (.slice Ad data.length dc) hin)
  have HE := hid (And.intro (enter_below w 0 (x : Int) b (.slice Ad data.length dc)) (enter_size w 0 (x : Int) b (.slice Ad data.length dc)))
  have HCut := hid (enter_cut w 0 (x : Int) b (.slice Ad data.length dc))
  clear hin hD hl
  go_enter Try.func26, Try.ntmps26
  go_wp2_with fail
  refine start_ (n := 7) (S := fun w' => w'.cell? ⟨w.heap.size, 1, none⟩ = some (.int .i64 (x : Int)) ∧ w'.cell? ⟨w.heap.size, 3, none⟩ = some (.slice Ad data.length dc)) (ds := []) #[false, false, false, false, false, false, false] (by kernel_rfl) rfl rfl ⟨HCut.out.cell 1, HCut.out.cell 3⟩ (fun hHeld => ?_)
  refine with_tabW rdo4.tab rdo4.bits (fun HT_ HW_ => ?_)
  refine pure_ (i := 0) (N := some 13) (v := ?_) (a' := ?_) #[true, false, false, false, false, false, false] rfl rfl (any_of HT_.out (by kernel_rfl)) (fun _ _ _ h => h) (Or.inl ⟨by rfl, ?_⟩) ?_ ?_
  rotate_left
  · intro w'
    go_simp
    with_reducible rfl
  rotate_left
  · simp only [Act.put, List.setIfInBounds_toArray, List.set_cons_zero, List.set_cons_succ]
    rfl
  refine pure_ (i := 1) (N := some 14) (v := ?_) (a' := ?_) #[true, true, false, false, false, false, false] rfl rfl (any_of HT_.out (by kernel_rfl)) (fun _ _ _ h => h) (Or.inl ⟨by rfl, ?_⟩) ?_ ?_
  rotate_left
  · intro w'
    go_simp
    with_reducible rfl
  rotate_left
  · simp only [Act.put, List.setIfInBounds_toArray, List.set_cons_zero, List.set_cons_succ]
    rfl
  refine take_ (i := 2) (N := some 15) (v := ?_) (a' := ?_) #[true, true, true, false, false, false, false] rfl rfl (take_ofW HT_.out HW_.out (by kernel_rfl)) (fun _ _ _ h => h) (Or.inl ⟨by rfl, ?_⟩) hHeld ?_ ?_
  rotate_left
  · intro w' s0
    obtain ⟨s1, s2⟩ := s0
    go_simp
    with_reducible rfl
  rotate_left
  · simp only [Act.put, List.setIfInBounds_toArray, List.set_cons_zero, List.set_cons_succ]
    rfl
  refine pure_ (i := 3) (N := some 16) (v := ?_) (a' := ?_) #[true, true, true, true, false, false, false] rfl rfl (any_of HT_.out (by kernel_rfl)) (fun _ _ _ h => h) (Or.inl ⟨by rfl, ?_⟩) ?_ ?_
  rotate_left
  · intro w'
    go_simp
    with_reducible rfl
  rotate_left
  · simp only [Act.put, List.setIfInBounds_toArray, List.set_cons_zero, List.set_cons_succ]
    rfl
  refine take_ (i := 4) (N := some 17) (v := ?_) (a' := ?_) #[true, true, true, true, true, false, false] rfl rfl (take_ofW HT_.out HW_.out (by kernel_rfl)) (fun _ _ _ h => h) (Or.inl ⟨by rfl, ?_⟩) hHeld ?_ ?_
  rotate_left
  · intro w' s0
    obtain ⟨s1, s2⟩ := s0
    go_simp
    with_reducible rfl
  rotate_left
  · simp only [Act.put, List.setIfInBounds_toArray, List.set_cons_zero, List.set_cons_succ]
    rfl
  refine one_ (i := 5) (N := some 18) #[true, true, true, true, true, true, false] rfl rfl (one_of HT_.out (by kernel_rfl)) (by decide) (fun K_ hK => ?_)
  refine call_ (N := some 18) 20 #[.slice Ad data.length dc] (by rfl) rfl (by go_simp) ?_
  have HCall_ := copied_any Ad dc data (enter w 0 (x : Int) b (.slice Ad data.length dc)).drew (Kd.C_below HD.out HE.out.1.drew) (by have := HL.out; omega)
  refine HCall_.mono ?_
  clear HCall_
  rintro e W1 ⟨v, rfl, hR, hB⟩
  have hB1 : Below (enter w 0 (x : Int) b (.slice Ad data.length dc)).heap.size (enter w 0 (x : Int) b (.slice Ad data.length dc)) W1 := ⟨hB.os, hB.tape, hB.output, hB.size, hB.block⟩
  obtain ⟨Av, cv, rfl, hs, hz⟩ := hR.seg
  have hfar : ∀ ad, Av = some ad → ∀ o, ¬ t.own ad.block o := fun ad e o ho => HM0.out.hin.far (show (enter w 0 (x : Int) b (.slice Ad data.length dc)).heap.size ≤ ad.block from (ro_ge hR ad.block (by rw [e]; rfl)).1) ho
  have HV := hid (And.intro hs (And.intro hfar hB1))
  clear hR hB hs hz hB1 hfar
  refine ⟨_, rfl, ?_⟩
  refine hK.out _ _ ⟨(HCut.out.below HV.out.2.2 HCut.out.lt).cell 1, (HCut.out.below HV.out.2.2 HCut.out.lt).cell 3⟩ (fun hHeld => ?_)
  clear hK K_
  refine norm_ (a' := ?_) ?_ ?_
  rotate_left
  · show Act.put _ (some 18) _ = _
    simp only [Act.put, List.setIfInBounds_toArray, List.set_cons_zero, List.set_cons_succ]
    rfl
  refine one_ (i := 6) (N := some 19) #[true, true, true, true, true, true, true] rfl rfl (one_of HT_.out (by kernel_rfl)) (by decide) (fun K_ hK => ?_)
  refine call_ (N := some 19) 30 #[t.ptr, .int .i64 (x : Int), .slice Av data.length cv] (by rfl) rfl (by go_simp) ?_
  have HCall_ := Insert_any t x data Av cv W1 (HM0.out.below HV.out.2.2).hin HV.out.1.rd HV.out.2.1 (by omega) HL.out
  refine HCall_.mono ?_
  clear HCall_
  rintro e W hT
  obtain ⟨rfl, t', h1, h2, h3, h4, h5⟩ := hT
  have HMW := hid ((HM0.out.below HV.out.2.2).rope HI.out h3 h4 h5)
  have HX := hid h2
  have HBK := hid h1
  have HCC := hid (show Blk W w.heap.size #[.int .i64 0, .int .i64 (x : Int), .int .i64 b, .slice Ad data.length dc] 38 from blk_fz (HCut.out.below HV.out.2.2 HCut.out.lt) h5 (fun o e => by have := HI.out.lt _ _ e; omega))
  clear h1 h2 h3 h4 h5
  refine ⟨_, rfl, ?_⟩
  refine hK.out _ _ ⟨HCC.out.cell 1, HCC.out.cell 3⟩ (fun hHeld => ?_)
  clear hK K_
  refine norm_ (a' := ?_) ?_ ?_
  rotate_left
  · show Act.put _ (some 19) _ = _
    simp only [Act.put, List.setIfInBounds_toArray, List.set_cons_zero, List.set_cons_succ]
    rfl
  refine done_ (done_of HT_.out (by kernel_rfl)) ?_
  clear HT_ HW_
  rw [show t.ptr = .pointer (some ⟨t.blk, 0, none⟩) from rfl]
  have HM := hid HMW.out
  have e0 : W.cell? ⟨w.heap.size + 1 + 1, 0, none⟩ = some (.int .i64 0) := HM.out.box.cell 0
  have e1 : W.cell? ⟨w.heap.size + 1 + 1, 1, none⟩ = some (.slice none 0 0) := HM.out.box.cell 1
  have e2 : W.cell? ⟨w.heap.size + 1 + 1, 2, none⟩ = some (.slice none 0 0) := HM.out.box.cell 2
  have g0 : W.cell? ⟨w.heap.size + 1, 0, none⟩ = some (.int .i64 0) := HM.out.res.cell 0
  have g1 : W.cell? ⟨w.heap.size + 1, 1, none⟩ = some (.slice none 0 0) := HM.out.res.cell 1
  have g2 : W.cell? ⟨w.heap.size + 1, 2, none⟩ = some (.slice none 0 0) := HM.out.res.cell 2
  have h0 : W.frozen? ⟨w.heap.size + 1, 0, none⟩ = false := HM.out.res.free 0
  have h1 : W.frozen? ⟨w.heap.size + 1, 1, none⟩ = false := HM.out.res.free 1
  have h2 : W.frozen? ⟨w.heap.size + 1, 2, none⟩ = false := HM.out.res.free 2
  go_wp2_with fail
  refine still_tail_drew 3 (by kernel_rfl) (by kernel_rfl) ?_
  simp only [List.take_succ_cons, List.take_zero, List.drop_succ_cons, List.drop_zero]
  repeat still_step
  refine wpStill_nil ?_
  change wpList _ _ _ _ _ W.drew
  go_wp2_with fail
  refine bodyPost_ret (v := .tuple #[.pointer (some ⟨t.blk, 0, none⟩), .agg #[.int .i64 0, .slice none 0 0, .slice none 0 0]]) (by simp [results, Try.results26, go_sem, g0, g1, g2]) rfl ?_
  have hh := HM.out.done HI.out
  unfold N.ptr at hh
  rw [HBK.out] at hh
  rw [show stepR t.raw _ = T.ins data t.raw x from by simp [stepR], show tellR t.raw _ = (0, [], []) from by simp [tellR]]
  rw [← HX.out]
  exact hh
set_option maxHeartbeats 8000000 in
set_option maxRecDepth 100000 in
theorem rdo_1 (t : N) (a b : Int) (Ad : Option Addr) (dc : Nat) (data : List Int) (w : World) (hin : t.In w) (hm : mayR t.raw (1, a, b, data)) (hl : t.len + data.length ≤ 1099511627776) (hD : Kd.C (Kd.int .i64) w Ad data.length data) :
    Calls Try.prog 26 #[t.ptr, .agg #[.int .i64 1, .int .i64 a, .int .i64 b, .slice Ad data.length dc]] w (Done t (stepR t.raw (1, a, b, data)) (tellR t.raw (1, a, b, data)) w) := by
  obtain ⟨ha, hab, hb⟩ : 0 ≤ a ∧ a ≤ b ∧ b ≤ (t.len : Int) := hm.2.1 (.inl rfl)
  obtain ⟨x, rfl⟩ : ∃ n : Nat, a = (n : Int) := ⟨a.toNat, by omega⟩
  obtain ⟨y, rfl⟩ : ∃ n : Nat, b = (n : Int) := ⟨b.toNat, by omega⟩
  have HI := hid hin
  have HL := hid hl
  have HD := hid hD
  have HM0 := hid (Mid.start w 1 (x : Int) (y : Int) (.slice Ad data.length dc) hin)
  have HE := hid (And.intro (enter_below w 1 (x : Int) (y : Int) (.slice Ad data.length dc)) (enter_size w 1 (x : Int) (y : Int) (.slice Ad data.length dc)))
  have HCut := hid (enter_cut w 1 (x : Int) (y : Int) (.slice Ad data.length dc))
  clear hin hD hl
  go_enter Try.func26, Try.ntmps26
  go_wp2_with fail
  refine (Remove_any t x y _ HM0.out.hin (by omega) (by omega) (by have := HL.out; omega)).mono ?_
  rintro e W hT
  obtain ⟨rfl, t', h1, h2, h3, h4, h5⟩ := hT
  have HM := hid (HM0.out.rope HI.out h3 h4 h5)
  have HR := hid h2
  have HBK := hid h1
  clear h1 h2 h3 h4 h5
  rw [show t.ptr = .pointer (some ⟨t.blk, 0, none⟩) from rfl]
  have e0 : W.cell? ⟨w.heap.size + 1 + 1, 0, none⟩ = some (.int .i64 0) := HM.out.box.cell 0
  have e1 : W.cell? ⟨w.heap.size + 1 + 1, 1, none⟩ = some (.slice none 0 0) := HM.out.box.cell 1
  have e2 : W.cell? ⟨w.heap.size + 1 + 1, 2, none⟩ = some (.slice none 0 0) := HM.out.box.cell 2
  have g0 : W.cell? ⟨w.heap.size + 1, 0, none⟩ = some (.int .i64 0) := HM.out.res.cell 0
  have g1 : W.cell? ⟨w.heap.size + 1, 1, none⟩ = some (.slice none 0 0) := HM.out.res.cell 1
  have g2 : W.cell? ⟨w.heap.size + 1, 2, none⟩ = some (.slice none 0 0) := HM.out.res.cell 2
  have h0 : W.frozen? ⟨w.heap.size + 1, 0, none⟩ = false := HM.out.res.free 0
  have h1 : W.frozen? ⟨w.heap.size + 1, 1, none⟩ = false := HM.out.res.free 1
  have h2 : W.frozen? ⟨w.heap.size + 1, 2, none⟩ = false := HM.out.res.free 2
  go_wp2_with fail
  refine still_tail_drew 3 (by kernel_rfl) (by kernel_rfl) ?_
  simp only [List.take_succ_cons, List.take_zero, List.drop_succ_cons, List.drop_zero]
  repeat still_step
  refine wpStill_nil ?_
  change wpList _ _ _ _ _ W.drew
  go_wp2_with fail
  refine bodyPost_ret (v := .tuple #[.pointer (some ⟨t.blk, 0, none⟩), .agg #[.int .i64 0, .slice none 0 0, .slice none 0 0]]) (by simp [results, Try.results26, go_sem, g0, g1, g2]) rfl ?_
  have hh := HM.out.done HI.out
  unfold N.ptr at hh
  rw [HBK.out] at hh
  rw [show stepR t.raw _ = T.rem t.raw x y from by simp [stepR], show tellR t.raw _ = (0, [], []) from by simp [tellR]]
  rw [← HR.out]
  exact hh
set_option maxHeartbeats 8000000 in
set_option maxRecDepth 100000 in
theorem rdo_2 (t : N) (a b : Int) (Ad : Option Addr) (dc : Nat) (data : List Int) (w : World) (hin : t.In w) (hm : mayR t.raw (2, a, b, data)) (hl : t.len + data.length ≤ 1099511627776) (hD : Kd.C (Kd.int .i64) w Ad data.length data) :
    Calls Try.prog 26 #[t.ptr, .agg #[.int .i64 2, .int .i64 a, .int .i64 b, .slice Ad data.length dc]] w (Done t (stepR t.raw (2, a, b, data)) (tellR t.raw (2, a, b, data)) w) := by
  obtain ⟨ha, hab, hb⟩ : 0 ≤ a ∧ a ≤ b ∧ b ≤ (t.len : Int) := hm.2.1 (.inr rfl)
  obtain ⟨x, rfl⟩ : ∃ n : Nat, a = (n : Int) := ⟨a.toNat, by omega⟩
  obtain ⟨y, rfl⟩ : ∃ n : Nat, b = (n : Int) := ⟨b.toNat, by omega⟩
  have HI := hid hin
  have HL := hid hl
  have HD := hid hD
  have HM0 := hid (Mid.start w 2 (x : Int) (y : Int) (.slice Ad data.length dc) hin)
  have HE := hid (And.intro (enter_below w 2 (x : Int) (y : Int) (.slice Ad data.length dc)) (enter_size w 2 (x : Int) (y : Int) (.slice Ad data.length dc)))
  have HCut := hid (enter_cut w 2 (x : Int) (y : Int) (.slice Ad data.length dc))
  clear hin hD hl
  go_enter Try.func26, Try.ntmps26
  go_wp2_with fail
  refine (Slice_any t x y _ HM0.out.hin (by omega) (by omega) (by have := HL.out; omega)).mono ?_
  rintro e W1 ⟨A1, k1, rfl, hr, hB1⟩
  have H1 := hid (And.intro hr hB1)
  have HLS : Hid ((seg t.raw.flat x y).length ≤ 1099511627776) := hid (by rw [seg_len (show y ≤ t.raw.flat.length by have : t.raw.flat.length = t.len := rfl; omega)]; have := HL.out; omega)
  obtain ⟨xs, hxs⟩ : ∃ xs, xs = seg t.raw.flat x y := ⟨_, rfl⟩
  rw [← hxs] at H1 HLS ⊢
  have HXS := hid hxs
  clear hr hB1 hxs
  go_wp2_with fail
  refine (copied_any A1 k1 xs W1 (H1.out.1.C HLS.out) HLS.out).mono ?_
  rintro e W2 ⟨v, rfl, hR, hB2⟩
  have HR := hid (And.intro hR hB2)
  have HMx := hid ((HM0.out.below H1.out.2).row HI.out hR hB2)
  have HMy := hid ((HM0.out.below H1.out.2).below hB2)
  obtain ⟨Av, cv, rfl, _, _⟩ := hR.seg
  have j1 : W2.cell? ⟨w.heap.size + 1 + 1, 1, none⟩ = some (.slice none 0 0) := HMy.out.box.cell 1
  have j2 : W2.frozen? ⟨w.heap.size + 1 + 1, 1, none⟩ = false := HMy.out.box.free 1
  clear hR hB2
  rw [show t.ptr = .pointer (some ⟨t.blk, 0, none⟩) from rfl]
  go_wp2_with fail
  have HM : Hid (Mid t t w.heap.size (0, xs, []) (.slice Av xs.length cv) (.slice none 0 0) w (W2.setCell ⟨w.heap.size + 1 + 1, 1, none⟩ (.slice Av xs.length cv))) := hid HMx.out
  generalize W2.setCell ⟨w.heap.size + 1 + 1, 1, none⟩ (.slice Av xs.length cv) = W at HM ⊢
  have e0 : W.cell? ⟨w.heap.size + 1 + 1, 0, none⟩ = some (.int .i64 0) := HM.out.box.cell 0
  have e1 : W.cell? ⟨w.heap.size + 1 + 1, 1, none⟩ = some (.slice Av xs.length cv) := HM.out.box.cell 1
  have e2 : W.cell? ⟨w.heap.size + 1 + 1, 2, none⟩ = some (.slice none 0 0) := HM.out.box.cell 2
  have g0 : W.cell? ⟨w.heap.size + 1, 0, none⟩ = some (.int .i64 0) := HM.out.res.cell 0
  have g1 : W.cell? ⟨w.heap.size + 1, 1, none⟩ = some (.slice none 0 0) := HM.out.res.cell 1
  have g2 : W.cell? ⟨w.heap.size + 1, 2, none⟩ = some (.slice none 0 0) := HM.out.res.cell 2
  have h0 : W.frozen? ⟨w.heap.size + 1, 0, none⟩ = false := HM.out.res.free 0
  have h1 : W.frozen? ⟨w.heap.size + 1, 1, none⟩ = false := HM.out.res.free 1
  have h2 : W.frozen? ⟨w.heap.size + 1, 2, none⟩ = false := HM.out.res.free 2
  go_wp2_with fail
  refine still_tail_drew 3 (by kernel_rfl) (by kernel_rfl) ?_
  simp only [List.take_succ_cons, List.take_zero, List.drop_succ_cons, List.drop_zero]
  repeat still_step
  refine wpStill_nil ?_
  change wpList _ _ _ _ _ W.drew
  go_wp2_with fail
  refine bodyPost_ret (v := .tuple #[.pointer (some ⟨t.blk, 0, none⟩), .agg #[.int .i64 0, .slice Av xs.length cv, .slice none 0 0]]) (by simp [results, Try.results26, go_sem, g0, g1, g2]) rfl ?_
  have hh := HM.out.done HI.out
  rw [show stepR t.raw _ = t.raw from by simp [stepR], show tellR t.raw _ = (0, xs, []) from by rw [HXS.out]; simp [tellR]]
  exact hh
set_option maxHeartbeats 8000000 in
set_option maxRecDepth 100000 in
theorem rdo_3 (t : N) (a b : Int) (Ad : Option Addr) (dc : Nat) (data : List Int) (w : World) (hin : t.In w) (hm : mayR t.raw (3, a, b, data)) (hl : t.len + data.length ≤ 1099511627776) (hD : Kd.C (Kd.int .i64) w Ad data.length data) :
    Calls Try.prog 26 #[t.ptr, .agg #[.int .i64 3, .int .i64 a, .int .i64 b, .slice Ad data.length dc]] w (Done t (stepR t.raw (3, a, b, data)) (tellR t.raw (3, a, b, data)) w) := by
  obtain ⟨ha, hb⟩ : 0 ≤ a ∧ a < (t.len : Int) := hm.2.2 rfl
  obtain ⟨x, rfl⟩ : ∃ n : Nat, a = (n : Int) := ⟨a.toNat, by omega⟩
  have HI := hid hin
  have HL := hid hl
  have HD := hid hD
  have HM0 := hid (Mid.start w 3 (x : Int) b (.slice Ad data.length dc) hin)
  have HE := hid (And.intro (enter_below w 3 (x : Int) b (.slice Ad data.length dc)) (enter_size w 3 (x : Int) b (.slice Ad data.length dc)))
  have HCut := hid (enter_cut w 3 (x : Int) b (.slice Ad data.length dc))
  clear hin hD hl
  go_enter Try.func26, Try.ntmps26
  go_wp2_with fail
  have hxl : x < t.raw.flat.length := by have : t.raw.flat.length = t.len := rfl; omega
  have hget : t.raw.flat[x]? = some (t.raw.flat.getD x 0) := by rw [List.getD_eq_getElem?_getD, List.getElem?_eq_getElem hxl]; rfl
  obtain ⟨n, hn⟩ : ∃ n, n = t.raw.flat.getD x 0 := ⟨_, rfl⟩
  rw [← hn] at hget
  refine (At_any t x n _ HM0.out.hin hget (by have := HL.out; omega)).mono ?_
  have HXS := hid hn
  clear hn hget hxl
  rintro e W1 ⟨rfl, hB1⟩
  have HMx := hid (HM0.out.below hB1)
  have j1 : W1.cell? ⟨w.heap.size + 1 + 1, 0, none⟩ = some (.int .i64 0) := HMx.out.box.cell 0
  have j2 : W1.frozen? ⟨w.heap.size + 1 + 1, 0, none⟩ = false := HMx.out.box.free 0
  clear hB1
  rw [show t.ptr = .pointer (some ⟨t.blk, 0, none⟩) from rfl]
  go_wp2_with fail
  have HM : Hid (Mid t t w.heap.size (n, [], []) (.slice none 0 0) (.slice none 0 0) w (W1.setCell ⟨w.heap.size + 1 + 1, 0, none⟩ (.int .i64 n))) := hid (HMx.out.number HI.out n)
  generalize W1.setCell ⟨w.heap.size + 1 + 1, 0, none⟩ (.int .i64 n) = W at HM ⊢
  have e0 : W.cell? ⟨w.heap.size + 1 + 1, 0, none⟩ = some (.int .i64 n) := HM.out.box.cell 0
  have e1 : W.cell? ⟨w.heap.size + 1 + 1, 1, none⟩ = some (.slice none 0 0) := HM.out.box.cell 1
  have e2 : W.cell? ⟨w.heap.size + 1 + 1, 2, none⟩ = some (.slice none 0 0) := HM.out.box.cell 2
  have g0 : W.cell? ⟨w.heap.size + 1, 0, none⟩ = some (.int .i64 0) := HM.out.res.cell 0
  have g1 : W.cell? ⟨w.heap.size + 1, 1, none⟩ = some (.slice none 0 0) := HM.out.res.cell 1
  have g2 : W.cell? ⟨w.heap.size + 1, 2, none⟩ = some (.slice none 0 0) := HM.out.res.cell 2
  have h0 : W.frozen? ⟨w.heap.size + 1, 0, none⟩ = false := HM.out.res.free 0
  have h1 : W.frozen? ⟨w.heap.size + 1, 1, none⟩ = false := HM.out.res.free 1
  have h2 : W.frozen? ⟨w.heap.size + 1, 2, none⟩ = false := HM.out.res.free 2
  go_wp2_with fail
  refine still_tail_drew 3 (by kernel_rfl) (by kernel_rfl) ?_
  simp only [List.take_succ_cons, List.take_zero, List.drop_succ_cons, List.drop_zero]
  repeat still_step
  refine wpStill_nil ?_
  change wpList _ _ _ _ _ W.drew
  go_wp2_with fail
  refine bodyPost_ret (v := .tuple #[.pointer (some ⟨t.blk, 0, none⟩), .agg #[.int .i64 n, .slice none 0 0, .slice none 0 0]]) (by simp [results, Try.results26, go_sem, g0, g1, g2]) rfl ?_
  have hh := HM.out.done HI.out
  rw [show stepR t.raw _ = t.raw from by simp [stepR], show tellR t.raw _ = (n, [], []) from by rw [HXS.out]; simp [tellR]]
  exact hh
set_option maxHeartbeats 8000000 in
set_option maxRecDepth 100000 in
theorem rdo_4 (t : N) (a b : Int) (Ad : Option Addr) (dc : Nat) (data : List Int) (w : World) (hin : t.In w) (_hm : mayR t.raw (4, a, b, data)) (hl : t.len + data.length ≤ 1099511627776) (hD : Kd.C (Kd.int .i64) w Ad data.length data) :
    Calls Try.prog 26 #[t.ptr, .agg #[.int .i64 4, .int .i64 a, .int .i64 b, .slice Ad data.length dc]] w (Done t (stepR t.raw (4, a, b, data)) (tellR t.raw (4, a, b, data)) w) := by
  have HI := hid hin
  have HL := hid hl
  have HD := hid hD
  have HM0 := hid (Mid.start w 4 a b (.slice Ad data.length dc) hin)
  have HE := hid (And.intro (enter_below w 4 a b (.slice Ad data.length dc)) (enter_size w 4 a b (.slice Ad data.length dc)))
  have HCut := hid (enter_cut w 4 a b (.slice Ad data.length dc))
  clear hin hD hl
  go_enter Try.func26, Try.ntmps26
  go_wp2_with fail
  have HLS : Hid (t.raw.flat.length ≤ 1099511627776) := hid (by have : t.raw.flat.length = t.len := rfl; have := HL.out; omega)
  refine (Value_any t _ HM0.out.hin HLS.out).mono ?_
  rintro e W1 ⟨v1, rfl, hv⟩
  obtain ⟨A1, k1, rfl, hr, hB1⟩ := hv.rd HM0.out.hin
  have H1 := hid (And.intro hr hB1)
  obtain ⟨xs, hxs⟩ : ∃ xs, xs = t.raw.flat := ⟨_, rfl⟩
  rw [← hxs] at H1 HLS ⊢
  have HXS := hid hxs
  clear hr hB1 hxs hv
  go_wp2_with fail
  refine (copied_any A1 k1 xs W1 (H1.out.1.C HLS.out) HLS.out).mono ?_
  rintro e W2 ⟨v, rfl, hR, hB2⟩
  have HMx := hid ((HM0.out.below H1.out.2).row HI.out hR hB2)
  have HMy := hid ((HM0.out.below H1.out.2).below hB2)
  obtain ⟨Av, cv, rfl, _, _⟩ := hR.seg
  have j1 : W2.cell? ⟨w.heap.size + 1 + 1, 1, none⟩ = some (.slice none 0 0) := HMy.out.box.cell 1
  have j2 : W2.frozen? ⟨w.heap.size + 1 + 1, 1, none⟩ = false := HMy.out.box.free 1
  clear hR hB2
  rw [show t.ptr = .pointer (some ⟨t.blk, 0, none⟩) from rfl]
  go_wp2_with fail
  have HM : Hid (Mid t t w.heap.size (0, xs, []) (.slice Av xs.length cv) (.slice none 0 0) w (W2.setCell ⟨w.heap.size + 1 + 1, 1, none⟩ (.slice Av xs.length cv))) := hid HMx.out
  generalize W2.setCell ⟨w.heap.size + 1 + 1, 1, none⟩ (.slice Av xs.length cv) = W at HM ⊢
  have e0 : W.cell? ⟨w.heap.size + 1 + 1, 0, none⟩ = some (.int .i64 0) := HM.out.box.cell 0
  have e1 : W.cell? ⟨w.heap.size + 1 + 1, 1, none⟩ = some (.slice Av xs.length cv) := HM.out.box.cell 1
  have e2 : W.cell? ⟨w.heap.size + 1 + 1, 2, none⟩ = some (.slice none 0 0) := HM.out.box.cell 2
  have g0 : W.cell? ⟨w.heap.size + 1, 0, none⟩ = some (.int .i64 0) := HM.out.res.cell 0
  have g1 : W.cell? ⟨w.heap.size + 1, 1, none⟩ = some (.slice none 0 0) := HM.out.res.cell 1
  have g2 : W.cell? ⟨w.heap.size + 1, 2, none⟩ = some (.slice none 0 0) := HM.out.res.cell 2
  have h0 : W.frozen? ⟨w.heap.size + 1, 0, none⟩ = false := HM.out.res.free 0
  have h1 : W.frozen? ⟨w.heap.size + 1, 1, none⟩ = false := HM.out.res.free 1
  have h2 : W.frozen? ⟨w.heap.size + 1, 2, none⟩ = false := HM.out.res.free 2
  go_wp2_with fail
  refine still_tail_drew 3 (by kernel_rfl) (by kernel_rfl) ?_
  simp only [List.take_succ_cons, List.take_zero, List.drop_succ_cons, List.drop_zero]
  repeat still_step
  refine wpStill_nil ?_
  change wpList _ _ _ _ _ W.drew
  go_wp2_with fail
  refine bodyPost_ret (v := .tuple #[.pointer (some ⟨t.blk, 0, none⟩), .agg #[.int .i64 0, .slice Av xs.length cv, .slice none 0 0]]) (by simp [results, Try.results26, go_sem, g0, g1, g2]) rfl ?_
  have hh := HM.out.done HI.out
  rw [show stepR t.raw _ = t.raw from by simp [stepR], show tellR t.raw _ = (0, xs, []) from by rw [HXS.out]; simp [tellR]]
  exact hh
set_option maxHeartbeats 8000000 in
set_option maxRecDepth 100000 in
theorem rdo_5 (t : N) (a b : Int) (Ad : Option Addr) (dc : Nat) (data : List Int) (w : World) (hin : t.In w) (_hm : mayR t.raw (5, a, b, data)) (hl : t.len + data.length ≤ 1099511627776) (hD : Kd.C (Kd.int .i64) w Ad data.length data) :
    Calls Try.prog 26 #[t.ptr, .agg #[.int .i64 5, .int .i64 a, .int .i64 b, .slice Ad data.length dc]] w (Done t (stepR t.raw (5, a, b, data)) (tellR t.raw (5, a, b, data)) w) := by
  have HI := hid hin
  have HL := hid hl
  have HD := hid hD
  have HM0 := hid (Mid.start w 5 a b (.slice Ad data.length dc) hin)
  have HE := hid (And.intro (enter_below w 5 a b (.slice Ad data.length dc)) (enter_size w 5 a b (.slice Ad data.length dc)))
  have HCut := hid (enter_cut w 5 a b (.slice Ad data.length dc))
  clear hin hD hl
  go_enter Try.func26, Try.ntmps26
  go_wp2_with fail
  refine (Len_any t _ HM0.out.hin).mono ?_
  rintro e W1 ⟨rfl, rfl⟩
  have HMx := hid HM0.out
  generalize enter w 5 a b (.slice Ad data.length dc) = W1 at HMx ⊢
  have j1 : W1.cell? ⟨w.heap.size + 1 + 1, 0, none⟩ = some (.int .i64 0) := HMx.out.box.cell 0
  have j2 : W1.frozen? ⟨w.heap.size + 1 + 1, 0, none⟩ = false := HMx.out.box.free 0
  rw [show t.ptr = .pointer (some ⟨t.blk, 0, none⟩) from rfl]
  go_wp2_with fail
  have HM : Hid (Mid t t w.heap.size ((t.len : Int), [], []) (.slice none 0 0) (.slice none 0 0) w (W1.setCell ⟨w.heap.size + 1 + 1, 0, none⟩ (.int .i64 (t.len : Int)))) := hid (HMx.out.number HI.out (t.len : Int))
  generalize W1.setCell ⟨w.heap.size + 1 + 1, 0, none⟩ (.int .i64 (t.len : Int)) = W at HM ⊢
  have e0 : W.cell? ⟨w.heap.size + 1 + 1, 0, none⟩ = some (.int .i64 (t.len : Int)) := HM.out.box.cell 0
  have e1 : W.cell? ⟨w.heap.size + 1 + 1, 1, none⟩ = some (.slice none 0 0) := HM.out.box.cell 1
  have e2 : W.cell? ⟨w.heap.size + 1 + 1, 2, none⟩ = some (.slice none 0 0) := HM.out.box.cell 2
  have g0 : W.cell? ⟨w.heap.size + 1, 0, none⟩ = some (.int .i64 0) := HM.out.res.cell 0
  have g1 : W.cell? ⟨w.heap.size + 1, 1, none⟩ = some (.slice none 0 0) := HM.out.res.cell 1
  have g2 : W.cell? ⟨w.heap.size + 1, 2, none⟩ = some (.slice none 0 0) := HM.out.res.cell 2
  have h0 : W.frozen? ⟨w.heap.size + 1, 0, none⟩ = false := HM.out.res.free 0
  have h1 : W.frozen? ⟨w.heap.size + 1, 1, none⟩ = false := HM.out.res.free 1
  have h2 : W.frozen? ⟨w.heap.size + 1, 2, none⟩ = false := HM.out.res.free 2
  go_wp2_with fail
  refine still_tail_drew 3 (by kernel_rfl) (by kernel_rfl) ?_
  simp only [List.take_succ_cons, List.take_zero, List.drop_succ_cons, List.drop_zero]
  repeat still_step
  refine wpStill_nil ?_
  change wpList _ _ _ _ _ W.drew
  go_wp2_with fail
  refine bodyPost_ret (v := .tuple #[.pointer (some ⟨t.blk, 0, none⟩), .agg #[.int .i64 (t.len : Int), .slice none 0 0, .slice none 0 0]]) (by simp [results, Try.results26, go_sem, g0, g1, g2]) rfl ?_
  have hh := HM.out.done HI.out
  rw [show stepR t.raw _ = t.raw from by simp [stepR], show tellR t.raw _ = ((t.len : Int), [], []) from by simp [tellR]]
  exact hh
set_option maxHeartbeats 8000000 in
set_option maxRecDepth 100000 in
theorem rdo_6 (t : N) (a b : Int) (Ad : Option Addr) (dc : Nat) (data : List Int) (w : World) (hin : t.In w) (hm : mayR t.raw (6, a, b, data)) (hl : t.len + data.length ≤ 1099511627776) (hD : Kd.C (Kd.int .i64) w Ad data.length data) :
    Calls Try.prog 26 #[t.ptr, .agg #[.int .i64 6, .int .i64 a, .int .i64 b, .slice Ad data.length dc]] w (Done t (stepR t.raw (6, a, b, data)) (tellR t.raw (6, a, b, data)) w) := by
  obtain ⟨ha, hb⟩ : 0 ≤ a ∧ a ≤ (t.len : Int) := hm.1 (by simp)
  obtain ⟨x, rfl⟩ : ∃ n : Nat, a = (n : Int) := ⟨a.toNat, by omega⟩
  have HI := hid hin
  have HL := hid hl
  have HD := hid hD
  have HM0 := hid (Mid.start w 6 (x : Int) b (.slice Ad data.length dc) hin)
  have HE := hid (And.intro (enter_below w 6 (x : Int) b (.slice Ad data.length dc)) (enter_size w 6 (x : Int) b (.slice Ad data.length dc)))
  have HCut := hid (enter_cut w 6 (x : Int) b (.slice Ad data.length dc))
  clear hin hD hl
  go_enter Try.func26, Try.ntmps26
  go_wp2_with fail
  refine (SplitAt_any t x _ HM0.out.hin (by omega) (by have := HL.out; omega)).mono ?_
  rintro e W1 ⟨t1, t2, rfl, a1, a2, a3, a4, a5, a6, a7, a8⟩
  have H := hid (And.intro a1 (And.intro a2 (And.intro a3 (And.intro a4 (And.intro a5 (And.intro a6 (And.intro a7 a8)))))))
  clear a1 a2 a3 a4 a5 a6 a7 a8
  have HSL := hid (split_len t.raw x (by show x ≤ t.len; omega))
  go_wp2_with fail
  refine (Join_two t2 t1 W1 H.out.2.2.2.1 H.out.2.2.1 (fun k o p q => H.out.2.2.2.2.2.2.1 k o q p) (by
    have h1 : t1.len = x := by unfold N.len; rw [H.out.1]; exact HSL.out.1
    have h2 : t2.len = t.len - x := by unfold N.len; rw [H.out.2.1]; exact HSL.out.2
    have := HL.out
    omega)).mono ?_
  rintro e W ⟨t', rfl, b1, b2, b3, b4⟩
  have HX := hid b1
  have HM := hid (HM0.out.rope HI.out b2 (fun k o p => by
    rcases b3 k o p with q | q | q
    · exact H.out.2.2.2.2.2.1 k o q
    · exact H.out.2.2.2.2.1 k o q
    · exact .inr (Nat.le_trans H.out.2.2.2.2.2.2.2.size q)) (Fz.new (below_at H.out.2.2.2.2.2.2.2 b4 H.out.2.2.2.2.2.2.2.size)))
  clear b1 b2 b3 b4
  rw [show t'.ptr = .pointer (some ⟨t'.blk, 0, none⟩) from rfl]
  have e0 : W.cell? ⟨w.heap.size + 1 + 1, 0, none⟩ = some (.int .i64 0) := HM.out.box.cell 0
  have e1 : W.cell? ⟨w.heap.size + 1 + 1, 1, none⟩ = some (.slice none 0 0) := HM.out.box.cell 1
  have e2 : W.cell? ⟨w.heap.size + 1 + 1, 2, none⟩ = some (.slice none 0 0) := HM.out.box.cell 2
  have g0 : W.cell? ⟨w.heap.size + 1, 0, none⟩ = some (.int .i64 0) := HM.out.res.cell 0
  have g1 : W.cell? ⟨w.heap.size + 1, 1, none⟩ = some (.slice none 0 0) := HM.out.res.cell 1
  have g2 : W.cell? ⟨w.heap.size + 1, 2, none⟩ = some (.slice none 0 0) := HM.out.res.cell 2
  have h0 : W.frozen? ⟨w.heap.size + 1, 0, none⟩ = false := HM.out.res.free 0
  have h1 : W.frozen? ⟨w.heap.size + 1, 1, none⟩ = false := HM.out.res.free 1
  have h2 : W.frozen? ⟨w.heap.size + 1, 2, none⟩ = false := HM.out.res.free 2
  go_wp2_with fail
  refine still_tail_drew 3 (by kernel_rfl) (by kernel_rfl) ?_
  simp only [List.take_succ_cons, List.take_zero, List.drop_succ_cons, List.drop_zero]
  repeat still_step
  refine wpStill_nil ?_
  change wpList _ _ _ _ _ W.drew
  go_wp2_with fail
  refine bodyPost_ret (v := .tuple #[.pointer (some ⟨t'.blk, 0, none⟩), .agg #[.int .i64 0, .slice none 0 0, .slice none 0 0]]) (by simp [results, Try.results26, go_sem, g0, g1, g2]) rfl ?_
  have hh := HM.out.done HI.out
  rw [show stepR t.raw _ = T.adj (T.split t.raw x).2 (T.split t.raw x).1 from by simp [stepR], show tellR t.raw _ = (0, [], []) from by simp [tellR], ← H.out.1, ← H.out.2.1, ← HX.out]
  exact hh
set_option maxHeartbeats 8000000 in
set_option maxRecDepth 100000 in
theorem rdo_7 (t : N) (a b : Int) (Ad : Option Addr) (dc : Nat) (data : List Int) (w : World) (hin : t.In w) (_hm : mayR t.raw (7, a, b, data)) (hl : t.len + data.length ≤ 1099511627776) (hD : Kd.C (Kd.int .i64) w Ad data.length data) :
    Calls Try.prog 26 #[t.ptr, .agg #[.int .i64 7, .int .i64 a, .int .i64 b, .slice Ad data.length dc]] w (Done t (stepR t.raw (7, a, b, data)) (tellR t.raw (7, a, b, data)) w) := by
  have HI := hid hin
  have HL := hid hl
  have HD := hid hD
  have HM0 := hid (Mid.start w 7 a b (.slice Ad data.length dc) hin)
  have HE := hid (And.intro (enter_below w 7 a b (.slice Ad data.length dc)) (enter_size w 7 a b (.slice Ad data.length dc)))
  have HCut := hid (enter_cut w 7 a b (.slice Ad data.length dc))
  clear hin hD hl
  go_enter Try.func26, Try.ntmps26
  go_wp2_with fail
  refine (copied_any Ad dc data _ (Kd.C_below HD.out HE.out.1) (by have := HL.out; omega)).mono ?_
  rintro e W1 ⟨v, rfl, hR, hB1⟩
  obtain ⟨Av, cv, rfl, hs, hz⟩ := hR.seg
  have H1 := hid (And.intro hs (And.intro hz hB1))
  clear hR hs hz hB1
  go_wp2_with fail
  refine (New_any data (by have := HL.out; omega) Av cv W1 H1.out.1).mono ?_
  rintro e W2 ⟨t2, rfl, a1, a2, a3, a4⟩
  have H2 := hid (And.intro a1 (And.intro a2 (And.intro (show ∀ k o, t2.own k o → (enter w 7 a b (.slice Ad data.length dc)).heap.size ≤ k from fun k o p => by
    rcases a3 k o p with q | q
    · obtain ⟨q1, e1, g1, g2⟩ := q
      exact H1.out.2.1 k o ⟨q1, e1, g1, by have := H1.out.1.le; omega⟩
    · exact Nat.le_trans H1.out.2.2.size q) (below_at H1.out.2.2 a4 H1.out.2.2.size))))
  clear a1 a2 a3 a4
  go_wp2_with fail
  have hdis : ∀ k o, t.own k o → ¬ t2.own k o := fun k o p q => HM0.out.hin.far (H2.out.2.2.1 k o q) p
  refine (Join_two t t2 W2 (HM0.out.hin.below H2.out.2.2.2) H2.out.2.1 hdis (by
    have h2 : t2.len = data.length := by unfold N.len; rw [H2.out.1, T.len_new]
    have := HL.out
    omega)).mono ?_
  rintro e W ⟨t', rfl, b1, b2, b3, b4⟩
  have HX := hid b1
  have HM := hid (HM0.out.rope HI.out b2 (fun k o p => by
    rcases b3 k o p with q | q | q
    · exact .inl q
    · exact .inr (H2.out.2.2.1 k o q)
    · exact .inr (Nat.le_trans H2.out.2.2.2.size q)) (Fz.new (below_at H2.out.2.2.2 b4 H2.out.2.2.2.size)))
  clear b1 b2 b3 b4
  rw [show t'.ptr = .pointer (some ⟨t'.blk, 0, none⟩) from rfl]
  have e0 : W.cell? ⟨w.heap.size + 1 + 1, 0, none⟩ = some (.int .i64 0) := HM.out.box.cell 0
  have e1 : W.cell? ⟨w.heap.size + 1 + 1, 1, none⟩ = some (.slice none 0 0) := HM.out.box.cell 1
  have e2 : W.cell? ⟨w.heap.size + 1 + 1, 2, none⟩ = some (.slice none 0 0) := HM.out.box.cell 2
  have g0 : W.cell? ⟨w.heap.size + 1, 0, none⟩ = some (.int .i64 0) := HM.out.res.cell 0
  have g1 : W.cell? ⟨w.heap.size + 1, 1, none⟩ = some (.slice none 0 0) := HM.out.res.cell 1
  have g2 : W.cell? ⟨w.heap.size + 1, 2, none⟩ = some (.slice none 0 0) := HM.out.res.cell 2
  have h0 : W.frozen? ⟨w.heap.size + 1, 0, none⟩ = false := HM.out.res.free 0
  have h1 : W.frozen? ⟨w.heap.size + 1, 1, none⟩ = false := HM.out.res.free 1
  have h2 : W.frozen? ⟨w.heap.size + 1, 2, none⟩ = false := HM.out.res.free 2
  go_wp2_with fail
  refine still_tail_drew 3 (by kernel_rfl) (by kernel_rfl) ?_
  simp only [List.take_succ_cons, List.take_zero, List.drop_succ_cons, List.drop_zero]
  repeat still_step
  refine wpStill_nil ?_
  change wpList _ _ _ _ _ W.drew
  go_wp2_with fail
  refine bodyPost_ret (v := .tuple #[.pointer (some ⟨t'.blk, 0, none⟩), .agg #[.int .i64 0, .slice none 0 0, .slice none 0 0]]) (by simp [results, Try.results26, go_sem, g0, g1, g2]) rfl ?_
  have hh := HM.out.done HI.out
  rw [show stepR t.raw _ = T.adj t.raw (T.new data) from by simp [stepR], show tellR t.raw _ = (0, [], []) from by simp [tellR], ← H2.out.1, ← HX.out]
  exact hh
set_option maxHeartbeats 8000000 in
set_option maxRecDepth 100000 in
theorem rdo_8 (t : N) (a b : Int) (Ad : Option Addr) (dc : Nat) (data : List Int) (w : World) (hin : t.In w) (_hm : mayR t.raw (8, a, b, data)) (hl : t.len + data.length ≤ 1099511627776) (hD : Kd.C (Kd.int .i64) w Ad data.length data) :
    Calls Try.prog 26 #[t.ptr, .agg #[.int .i64 8, .int .i64 a, .int .i64 b, .slice Ad data.length dc]] w (Done t (stepR t.raw (8, a, b, data)) (tellR t.raw (8, a, b, data)) w) := by
  have HI := hid hin
  have HL := hid hl
  have HD := hid hD
  have HM0 := hid (Mid.start w 8 a b (.slice Ad data.length dc) hin)
  have HE := hid (And.intro (enter_below w 8 a b (.slice Ad data.length dc)) (enter_size w 8 a b (.slice Ad data.length dc)))
  have HCut := hid (enter_cut w 8 a b (.slice Ad data.length dc))
  clear hin hD hl
  go_enter Try.func26, Try.ntmps26
  go_wp2_with fail
  refine (copied_any Ad dc data _ (Kd.C_below HD.out HE.out.1) (by have := HL.out; omega)).mono ?_
  rintro e W1 ⟨v, rfl, hR, hB1⟩
  obtain ⟨Av, cv, rfl, hs, hz⟩ := hR.seg
  have H1 := hid (And.intro hs (And.intro hz hB1))
  clear hR hs hz hB1
  go_wp2_with fail
  refine (New_any data (by have := HL.out; omega) Av cv W1 H1.out.1).mono ?_
  rintro e W2 ⟨t2, rfl, a1, a2, a3, a4⟩
  have H2 := hid (And.intro a1 (And.intro a2 (And.intro (show ∀ k o, t2.own k o → (enter w 8 a b (.slice Ad data.length dc)).heap.size ≤ k from fun k o p => by
    rcases a3 k o p with q | q
    · obtain ⟨q1, e1, g1, g2⟩ := q
      exact H1.out.2.1 k o ⟨q1, e1, g1, by have := H1.out.1.le; omega⟩
    · exact Nat.le_trans H1.out.2.2.size q) (below_at H1.out.2.2 a4 H1.out.2.2.size))))
  clear a1 a2 a3 a4
  go_wp2_with fail
  have hdis : ∀ k o, t.own k o → ¬ t2.own k o := fun k o p q => HM0.out.hin.far (H2.out.2.2.1 k o q) p
  refine (Join_two t2 t W2 H2.out.2.1 (HM0.out.hin.below H2.out.2.2.2) (fun k o p q => hdis k o q p) (by
    have h2 : t2.len = data.length := by unfold N.len; rw [H2.out.1, T.len_new]
    have := HL.out
    omega)).mono ?_
  rintro e W ⟨t', rfl, b1, b2, b3, b4⟩
  have HX := hid b1
  have HM := hid (HM0.out.rope HI.out b2 (fun k o p => by
    rcases b3 k o p with q | q | q
    · exact .inr (H2.out.2.2.1 k o q)
    · exact .inl q
    · exact .inr (Nat.le_trans H2.out.2.2.2.size q)) (Fz.new (below_at H2.out.2.2.2 b4 H2.out.2.2.2.size)))
  clear b1 b2 b3 b4
  rw [show t'.ptr = .pointer (some ⟨t'.blk, 0, none⟩) from rfl]
  have e0 : W.cell? ⟨w.heap.size + 1 + 1, 0, none⟩ = some (.int .i64 0) := HM.out.box.cell 0
  have e1 : W.cell? ⟨w.heap.size + 1 + 1, 1, none⟩ = some (.slice none 0 0) := HM.out.box.cell 1
  have e2 : W.cell? ⟨w.heap.size + 1 + 1, 2, none⟩ = some (.slice none 0 0) := HM.out.box.cell 2
  have g0 : W.cell? ⟨w.heap.size + 1, 0, none⟩ = some (.int .i64 0) := HM.out.res.cell 0
  have g1 : W.cell? ⟨w.heap.size + 1, 1, none⟩ = some (.slice none 0 0) := HM.out.res.cell 1
  have g2 : W.cell? ⟨w.heap.size + 1, 2, none⟩ = some (.slice none 0 0) := HM.out.res.cell 2
  have h0 : W.frozen? ⟨w.heap.size + 1, 0, none⟩ = false := HM.out.res.free 0
  have h1 : W.frozen? ⟨w.heap.size + 1, 1, none⟩ = false := HM.out.res.free 1
  have h2 : W.frozen? ⟨w.heap.size + 1, 2, none⟩ = false := HM.out.res.free 2
  go_wp2_with fail
  refine still_tail_drew 3 (by kernel_rfl) (by kernel_rfl) ?_
  simp only [List.take_succ_cons, List.take_zero, List.drop_succ_cons, List.drop_zero]
  repeat still_step
  refine wpStill_nil ?_
  change wpList _ _ _ _ _ W.drew
  go_wp2_with fail
  refine bodyPost_ret (v := .tuple #[.pointer (some ⟨t'.blk, 0, none⟩), .agg #[.int .i64 0, .slice none 0 0, .slice none 0 0]]) (by simp [results, Try.results26, go_sem, g0, g1, g2]) rfl ?_
  have hh := HM.out.done HI.out
  rw [show stepR t.raw _ = T.adj (T.new data) t.raw from by simp [stepR], show tellR t.raw _ = (0, [], []) from by simp [tellR], ← H2.out.1, ← HX.out]
  exact hh
set_option maxHeartbeats 8000000 in
set_option maxRecDepth 100000 in
theorem rdo_9 (t : N) (a b : Int) (Ad : Option Addr) (dc : Nat) (data : List Int) (w : World) (hin : t.In w) (hm : mayR t.raw (9, a, b, data)) (hl : t.len + data.length ≤ 1099511627776) (hD : Kd.C (Kd.int .i64) w Ad data.length data) :
    Calls Try.prog 26 #[t.ptr, .agg #[.int .i64 9, .int .i64 a, .int .i64 b, .slice Ad data.length dc]] w (Done t (stepR t.raw (9, a, b, data)) (tellR t.raw (9, a, b, data)) w) := by
  obtain ⟨ha, hb⟩ : 0 ≤ a ∧ a ≤ (t.len : Int) := hm.1 (by simp)
  obtain ⟨x, rfl⟩ : ∃ n : Nat, a = (n : Int) := ⟨a.toNat, by omega⟩
  have HI := hid hin
  have HL := hid hl
  have HD := hid hD
  have HM0 := hid (Mid.start w 9 (x : Int) b (.slice Ad data.length dc) hin)
  have HE := hid (And.intro (enter_below w 9 (x : Int) b (.slice Ad data.length dc)) (enter_size w 9 (x : Int) b (.slice Ad data.length dc)))
  have HCut := hid (enter_cut w 9 (x : Int) b (.slice Ad data.length dc))
  clear hin hD hl
  go_enter Try.func26, Try.ntmps26
  go_wp2_with fail
  refine (SplitAt_any t x _ HM0.out.hin (by omega) (by have := HL.out; omega)).mono ?_
  rintro e W1 ⟨t1, t2, rfl, a1, a2, a3, a4, a5, a6, a7, a8⟩
  have H := hid (And.intro a1 (And.intro a2 (And.intro a3 (And.intro a4 (And.intro a5 (And.intro a6 (And.intro a7 a8)))))))
  clear a1 a2 a3 a4 a5 a6 a7 a8
  have HM := hid (HM0.out.rope HI.out H.out.2.2.1 H.out.2.2.2.2.1 (Fz.new H.out.2.2.2.2.2.2.2))
  rw [show t1.ptr = .pointer (some ⟨t1.blk, 0, none⟩) from rfl, show t2.ptr = .pointer (some ⟨t2.blk, 0, none⟩) from rfl]
  have e0 : W1.cell? ⟨w.heap.size + 1 + 1, 0, none⟩ = some (.int .i64 0) := HM.out.box.cell 0
  have e1 : W1.cell? ⟨w.heap.size + 1 + 1, 1, none⟩ = some (.slice none 0 0) := HM.out.box.cell 1
  have e2 : W1.cell? ⟨w.heap.size + 1 + 1, 2, none⟩ = some (.slice none 0 0) := HM.out.box.cell 2
  have g0 : W1.cell? ⟨w.heap.size + 1, 0, none⟩ = some (.int .i64 0) := HM.out.res.cell 0
  have g1 : W1.cell? ⟨w.heap.size + 1, 1, none⟩ = some (.slice none 0 0) := HM.out.res.cell 1
  have g2 : W1.cell? ⟨w.heap.size + 1, 2, none⟩ = some (.slice none 0 0) := HM.out.res.cell 2
  have h0 : W1.frozen? ⟨w.heap.size + 1, 0, none⟩ = false := HM.out.res.free 0
  have h1 : W1.frozen? ⟨w.heap.size + 1, 1, none⟩ = false := HM.out.res.free 1
  have h2 : W1.frozen? ⟨w.heap.size + 1, 2, none⟩ = false := HM.out.res.free 2
  go_wp2_with fail
  refine still_tail_drew 3 (by kernel_rfl) (by kernel_rfl) ?_
  simp only [List.take_succ_cons, List.take_zero, List.drop_succ_cons, List.drop_zero]
  repeat still_step
  refine wpStill_nil ?_
  change wpList _ _ _ _ _ W1.drew
  go_wp2_with fail
  refine bodyPost_ret (v := .tuple #[.pointer (some ⟨t1.blk, 0, none⟩), .agg #[.int .i64 0, .slice none 0 0, .slice none 0 0]]) (by simp [results, Try.results26, go_sem, g0, g1, g2]) rfl ?_
  have hh := HM.out.done HI.out
  rw [show stepR t.raw _ = (T.split t.raw x).1 from by simp [stepR], show tellR t.raw _ = (0, [], []) from by simp [tellR], ← H.out.1]
  exact hh
set_option maxHeartbeats 8000000 in
set_option maxRecDepth 100000 in
theorem rdo_10 (t : N) (a b : Int) (Ad : Option Addr) (dc : Nat) (data : List Int) (w : World) (hin : t.In w) (hm : mayR t.raw (10, a, b, data)) (hl : t.len + data.length ≤ 1099511627776) (hD : Kd.C (Kd.int .i64) w Ad data.length data) :
    Calls Try.prog 26 #[t.ptr, .agg #[.int .i64 10, .int .i64 a, .int .i64 b, .slice Ad data.length dc]] w (Done t (stepR t.raw (10, a, b, data)) (tellR t.raw (10, a, b, data)) w) := by
  obtain ⟨ha, hb⟩ : 0 ≤ a ∧ a ≤ (t.len : Int) := hm.1 (by simp)
  obtain ⟨x, rfl⟩ : ∃ n : Nat, a = (n : Int) := ⟨a.toNat, by omega⟩
  have HI := hid hin
  have HL := hid hl
  have HD := hid hD
  have HM0 := hid (Mid.start w 10 (x : Int) b (.slice Ad data.length dc) hin)
  have HE := hid (And.intro (enter_below w 10 (x : Int) b (.slice Ad data.length dc)) (enter_size w 10 (x : Int) b (.slice Ad data.length dc)))
  have HCut := hid (enter_cut w 10 (x : Int) b (.slice Ad data.length dc))
  clear hin hD hl
  go_enter Try.func26, Try.ntmps26
  go_wp2_with fail
  refine (SplitAt_any t x _ HM0.out.hin (by omega) (by have := HL.out; omega)).mono ?_
  rintro e W1 ⟨t1, t2, rfl, a1, a2, a3, a4, a5, a6, a7, a8⟩
  have H := hid (And.intro a1 (And.intro a2 (And.intro a3 (And.intro a4 (And.intro a5 (And.intro a6 (And.intro a7 a8)))))))
  clear a1 a2 a3 a4 a5 a6 a7 a8
  have HM := hid (HM0.out.rope HI.out H.out.2.2.2.1 H.out.2.2.2.2.2.1 (Fz.new H.out.2.2.2.2.2.2.2))
  rw [show t1.ptr = .pointer (some ⟨t1.blk, 0, none⟩) from rfl, show t2.ptr = .pointer (some ⟨t2.blk, 0, none⟩) from rfl]
  have e0 : W1.cell? ⟨w.heap.size + 1 + 1, 0, none⟩ = some (.int .i64 0) := HM.out.box.cell 0
  have e1 : W1.cell? ⟨w.heap.size + 1 + 1, 1, none⟩ = some (.slice none 0 0) := HM.out.box.cell 1
  have e2 : W1.cell? ⟨w.heap.size + 1 + 1, 2, none⟩ = some (.slice none 0 0) := HM.out.box.cell 2
  have g0 : W1.cell? ⟨w.heap.size + 1, 0, none⟩ = some (.int .i64 0) := HM.out.res.cell 0
  have g1 : W1.cell? ⟨w.heap.size + 1, 1, none⟩ = some (.slice none 0 0) := HM.out.res.cell 1
  have g2 : W1.cell? ⟨w.heap.size + 1, 2, none⟩ = some (.slice none 0 0) := HM.out.res.cell 2
  have h0 : W1.frozen? ⟨w.heap.size + 1, 0, none⟩ = false := HM.out.res.free 0
  have h1 : W1.frozen? ⟨w.heap.size + 1, 1, none⟩ = false := HM.out.res.free 1
  have h2 : W1.frozen? ⟨w.heap.size + 1, 2, none⟩ = false := HM.out.res.free 2
  go_wp2_with fail
  refine still_tail_drew 3 (by kernel_rfl) (by kernel_rfl) ?_
  simp only [List.take_succ_cons, List.take_zero, List.drop_succ_cons, List.drop_zero]
  repeat still_step
  refine wpStill_nil ?_
  change wpList _ _ _ _ _ W1.drew
  go_wp2_with fail
  refine bodyPost_ret (v := .tuple #[.pointer (some ⟨t2.blk, 0, none⟩), .agg #[.int .i64 0, .slice none 0 0, .slice none 0 0]]) (by simp [results, Try.results26, go_sem, g0, g1, g2]) rfl ?_
  have hh := HM.out.done HI.out
  rw [show stepR t.raw _ = (T.split t.raw x).2 from by simp [stepR], show tellR t.raw _ = (0, [], []) from by simp [tellR], ← H.out.2.1]
  exact hh
set_option maxHeartbeats 8000000 in
set_option maxRecDepth 100000 in
theorem rdo_else (d : Int) (h0 : d ≠ 0) (h1 : d ≠ 1) (h2 : d ≠ 2) (h3 : d ≠ 3) (h4 : d ≠ 4) (h5 : d ≠ 5) (h6 : d ≠ 6) (h7 : d ≠ 7) (h8 : d ≠ 8) (h9 : d ≠ 9) (h10 : d ≠ 10) (h11 : d ≠ 11) (t : N) (a b : Int) (Ad : Option Addr) (dc : Nat) (data : List Int) (w : World) (hin : t.In w) (_hm : mayR t.raw (d, a, b, data)) (hl : t.len + data.length ≤ 1099511627776) (hD : Kd.C (Kd.int .i64) w Ad data.length data) :
    Calls Try.prog 26 #[t.ptr, .agg #[.int .i64 d, .int .i64 a, .int .i64 b, .slice Ad data.length dc]] w (Done t (stepR t.raw (d, a, b, data)) (tellR t.raw (d, a, b, data)) w) := by
  have HI := hid hin
  have HL := hid hl
  have HD := hid hD
  have HM0 := hid (Mid.start w d a b (.slice Ad data.length dc) hin)
  have HE := hid (And.intro (enter_below w d a b (.slice Ad data.length dc)) (enter_size w d a b (.slice Ad data.length dc)))
  have HCut := hid (enter_cut w d a b (.slice Ad data.length dc))
  clear hin hD hl
  have z0 : (d == 0) = false := beq_eq_false_iff_ne.2 h0
  have z1 : (d == 1) = false := beq_eq_false_iff_ne.2 h1
  have z2 : (d == 2) = false := beq_eq_false_iff_ne.2 h2
  have z3 : (d == 3) = false := beq_eq_false_iff_ne.2 h3
  have z4 : (d == 4) = false := beq_eq_false_iff_ne.2 h4
  have z5 : (d == 5) = false := beq_eq_false_iff_ne.2 h5
  have z6 : (d == 6) = false := beq_eq_false_iff_ne.2 h6
  have z7 : (d == 7) = false := beq_eq_false_iff_ne.2 h7
  have z8 : (d == 8) = false := beq_eq_false_iff_ne.2 h8
  have z9 : (d == 9) = false := beq_eq_false_iff_ne.2 h9
  have z10 : (d == 10) = false := beq_eq_false_iff_ne.2 h10
  have z11 : (d == 11) = false := beq_eq_false_iff_ne.2 h11
  have HNE := hid (And.intro h0 (And.intro h1 (And.intro h2 (And.intro h3 (And.intro h4 (And.intro h5 (And.intro h6 (And.intro h7 (And.intro h8 (And.intro h9 (And.intro h10 h11)))))))))))
  clear h0 h1 h2 h3 h4 h5 h6 h7 h8 h9 h10 h11
  go_enter Try.func26, Try.ntmps26
  go_wp2_with fail
  have HM := hid HM0.out
  change Code.wp _ _ _ _ (enter w d a b (.slice Ad data.length dc))
  generalize enter w d a b (.slice Ad data.length dc) = W at HM ⊢
  rw [show t.ptr = .pointer (some ⟨t.blk, 0, none⟩) from rfl]
  have e0 : W.cell? ⟨w.heap.size + 1 + 1, 0, none⟩ = some (.int .i64 0) := HM.out.box.cell 0
  have e1 : W.cell? ⟨w.heap.size + 1 + 1, 1, none⟩ = some (.slice none 0 0) := HM.out.box.cell 1
  have e2 : W.cell? ⟨w.heap.size + 1 + 1, 2, none⟩ = some (.slice none 0 0) := HM.out.box.cell 2
  have g0 : W.cell? ⟨w.heap.size + 1, 0, none⟩ = some (.int .i64 0) := HM.out.res.cell 0
  have g1 : W.cell? ⟨w.heap.size + 1, 1, none⟩ = some (.slice none 0 0) := HM.out.res.cell 1
  have g2 : W.cell? ⟨w.heap.size + 1, 2, none⟩ = some (.slice none 0 0) := HM.out.res.cell 2
  have h0 : W.frozen? ⟨w.heap.size + 1, 0, none⟩ = false := HM.out.res.free 0
  have h1 : W.frozen? ⟨w.heap.size + 1, 1, none⟩ = false := HM.out.res.free 1
  have h2 : W.frozen? ⟨w.heap.size + 1, 2, none⟩ = false := HM.out.res.free 2
  go_wp2_with fail
  refine still_tail_drew 3 (by kernel_rfl) (by kernel_rfl) ?_
  simp only [List.take_succ_cons, List.take_zero, List.drop_succ_cons, List.drop_zero]
  repeat still_step
  refine wpStill_nil ?_
  change wpList _ _ _ _ _ W.drew
  go_wp2_with fail
  refine bodyPost_ret (v := .tuple #[.pointer (some ⟨t.blk, 0, none⟩), .agg #[.int .i64 0, .slice none 0 0, .slice none 0 0]]) (by simp [results, Try.results26, go_sem, g0, g1, g2]) rfl ?_
  have hh := HM.out.done HI.out
  obtain ⟨n0, n1, n2, n3, n4, n5, n6, n7, n8, n9, n10, n11⟩ := HNE.out
  rw [show stepR t.raw _ = t.raw from by simp [stepR, n0, n1, n6, n7, n8, n9, n10], show tellR t.raw _ = (0, [], []) from by simp [tellR, n2, n3, n4, n5, n11]]
  exact hh
end Go.Proofs.Ytdlnpmbnedmmnaa.Rope
