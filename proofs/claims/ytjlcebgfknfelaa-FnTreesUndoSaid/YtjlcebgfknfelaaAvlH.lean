/- AVL trees in memory: the tree's own methods. For every balanced tree. -/
import Derived.Test.YtjlcebgfknfelaaAvlG
namespace Go.Proofs.Ytjlcebgfknfelaa.Avl
open Go Go.RowKit Go.Proofs.Ytjlcebgfknfelaa.Hk Go.Proofs.Ytjlcebgfknfelaa.AvlPure Go.Proofs.Ytjlcebgfknfelaa.Less Go.Proofs.Ytjlcebgfknfelaa.Row Go.Proofs.YtjlcebgfknfelaaW.PrintWords Go.Proofs.YtjlcebgfknfelaaW.PrintLast Go.Proofs.YtjlcebgfknfelaaW.PrintMore

/-- A tree in memory: its own variable at R. -/
structure Tree (base R : Nat) (tb : List Int) (t : N) (w : World) : Prop where
  blk : ∃ lv, Blk w R #[t.ptr, lv] 96 ∧ LessS base w lv tb
  ge : base ≤ R
  notin : R ∉ t.ids
  good : Good base w t

theorem In.kept {w w' : World} {t : N} (h : t.In w) (hk : ∀ b ∈ t.ids, w'.heap[b]? = w.heap[b]?) : t.In w' := by
  induction t with
  | nil => trivial
  | node b k v h' l r ihl ihr =>
    exact ⟨(hk b (by simp [N.ids])).trans h.1, ihl h.2.1 (fun x hx => hk x (by simp [N.ids, hx])), ihr h.2.2 (fun x hx => hk x (by simp [N.ids, hx]))⟩

theorem Tree.kept {base R : Nat} {tb : List Int} {t : N} {w w' : World} (h : Tree base R tb t w) (hb : Below base w w') (hR : w'.heap[R]? = w.heap[R]?) (hk : ∀ b ∈ t.ids, w'.heap[b]? = w.heap[b]?) : Tree base R tb t w' := by
  obtain ⟨⟨lv, B, L⟩, g, n, G⟩ := h
  exact ⟨⟨lv, hR.trans B, L.to hb⟩, g, n, ⟨In.kept G.mem hk, G.nodup, G.above, G.right, G.even⟩⟩

theorem Tree.lt {base R : Nat} {tb : List Int} {t : N} {w : World} (h : Tree base R tb t w) : R < w.heap.size ∧ ∀ b ∈ t.ids, b < w.heap.size := by
  obtain ⟨⟨lv, B, L⟩, g, n, G⟩ := h
  exact ⟨B.lt, fun b hb => N.In.lt G.mem b hb⟩

/-- Only what is new, or no block of the tree, has turned. -/
theorem Tree.below {base R : Nat} {tb : List Int} {t : N} {w w' : World} (h : Tree base R tb t w) (hb : Below w.heap.size w w') : Tree base R tb t w' :=
  h.kept (have hg := h.ge; have hl := h.lt.1; ⟨hb.os, hb.tape, hb.output, hb.size, fun k hk => hb.block k (by omega)⟩) (hb.block R h.lt.1) (fun b hx => hb.block b (h.lt.2 b hx))

/-- What is behind a call that turns the tree. -/
def Turned (base R : Nat) (tb : List Int) (t : N) (raw' : T) (w w' : World) : Prop :=
  ∃ t', Tree base R tb t' w' ∧ t'.raw = raw' ∧ Fr (fun b => b = R ∨ b ∈ t.ids) w w' ∧ ∀ b ∈ t'.ids, b ∈ t.ids ∨ w.heap.size ≤ b

theorem turned_of {base R : Nat} {tb : List Int} {t t' : N} {w w1 : World} {lv : Value} (hT : Tree base R tb t w) (hbl : Blk w R #[t.ptr, lv] 96) (hL : LessS base w lv tb) (hp : Put base t t' w w1)
    (hr : T.Right t'.raw) (he : T.Even t'.raw) : Blk w1 R #[t.ptr, lv] 96 ∧ Turned base R tb t t'.raw w (w1.setCell ⟨R, 0, none⟩ t'.ptr) := by
  have hB1 := hbl.fr hp.fr (fun h => hT.notin h)
  have hf : Fr (fun b => b = R ∨ b ∈ t.ids) w (w1.setCell ⟨R, 0, none⟩ t'.ptr) := (hp.fr.mono (fun k _ hk => .inr hk)).setCell (p := ⟨R, 0, none⟩) (fun _ => .inl rfl) _
  have hR' : R ∉ t'.ids := fun h => by
    rcases hp.ids R h with h | h
    · exact hT.notin h
    · have := hT.lt.1; omega
  have hge := hT.ge
  have hlt := hT.lt.1
  refine ⟨hB1, t', ⟨⟨lv, hB1.set 0 t'.ptr, hL.to (hf.below (by omega) (fun k hk => ?_))⟩, hT.ge, hR', ⟨?_, hp.nodup, fun b hb => ?_, hr, he⟩⟩, rfl, hf, hp.ids⟩
  · rcases hk with rfl | hk
    · exact hge
    · exact hT.good.above k hk
  · exact In.kept hp.mem (fun b hb => Below.heap_setCell _ _ _ _ (fun e => hR' (by have e' : b = R := e; subst e'; exact hb)))
  · rcases hp.ids b hb with h | h
    · exact hT.good.above b h
    · omega

set_option maxHeartbeats 4000000 in
set_option maxRecDepth 100000 in
theorem tPut_any (base R : Nat) (tb : List Int) (t : N) (key val : Int) (w : World) (hT : Tree base R tb t w) (ht : t.raw.tall ≤ 4294950000) :
    Calls Try.prog 60 #[.pointer (some ⟨R, 0, none⟩), .int .i64 key, .int .i64 val] w fun e w' => e = .returned (.tuple #[]) ∧ Turned base R tb t (T.ins (rankOf tb) key val t.raw) w w' := by
  obtain ⟨⟨lv, hB, hL⟩, g, n, G⟩ := hT
  have c0 : w.cell? ⟨R, 0, none⟩ = some t.ptr := hB.cell 0
  have c1 : w.cell? ⟨R, 1, none⟩ = some lv := hB.cell 1
  have hlt := hB.lt
  have HT : Hid (Tree base R tb t w) := ⟨⟨lv, hB, hL⟩, g, n, G⟩
  have HB : Hid (Blk w R #[t.ptr, lv] 96 ∧ LessS base w lv tb ∧ Good base w.drew t ∧ base ≤ w.drew.heap.size ∧ LessS base w.drew lv tb ∧ t.raw.tall ≤ 4294950000) := ⟨hB, hL, G.drew, Nat.le_of_lt (Nat.lt_of_le_of_lt g hlt), hL.drew, ht⟩
  clear hB hL g n G hlt ht
  obtain ⟨q, hq⟩ := t.ptr_some
  have HQ : Hid (t.ptr = .pointer q) := hq
  rw [hq] at c0
  clear hq
  go_enter Try.func60, Try.ntmps60
  refine wp_first_tail (.tmp 0) (some 6) 11 (by kernel_rfl) ⟨rfl, rfl, rfl⟩ (by kernel_rfl) (by kernel_rfl) (by kernel_rfl) (fun _ _ _ h => h) (by kernel_rfl) ?_
  simp only [tied, List.modify_succ_cons, List.modify_zero_cons, List.take_succ_cons, List.take_zero, List.drop_succ_cons, List.drop_zero]
  repeat still_step
  refine wpStill_nil ?_
  go_wp2_with fail
  rw [← HQ.out]
  refine (add_any base tb key val lv t w.drew HB.out.2.2.1 HB.out.2.2.2.2.2 HB.out.2.2.2.1 HB.out.2.2.2.2.1).mono ?_
  rintro e w1 ⟨t', rfl, hraw, hput⟩
  have hput' := hput.of_drew
  have hR := T.right_ins (rankOf tb) key val HB.out.2.2.1.right
  have hE := (T.even_ins (rankOf tb) key val HB.out.2.2.1.right HB.out.2.2.1.even).1
  have HE := hid (turned_of HT.out HB.out.1 HB.out.2.1 hput' (by rw [hraw]; exact hR) (by rw [hraw]; exact hE))
  have d0 : w1.cell? ⟨R, 0, none⟩ = some t.ptr := HE.out.1.cell 0
  have f0 : w1.frozen? ⟨R, 0, none⟩ = false := HE.out.1.free 0
  have HR := hid hraw
  obtain ⟨u, hu⟩ := t'.ptr_some
  rw [hu] at HE ⊢
  clear hraw hput hput' hR hE c0 c1
  go_wp2_with fail
  go_end0
  exact ⟨rfl, HR.out ▸ HE.out.2⟩

set_option maxHeartbeats 4000000 in
set_option maxRecDepth 100000 in
theorem tRemove_any (base R : Nat) (tb : List Int) (t : N) (key : Int) (w : World) (hT : Tree base R tb t w) (ht : t.raw.tall ≤ 4294950000) :
    Calls Try.prog 61 #[.pointer (some ⟨R, 0, none⟩), .int .i64 key] w fun e w' => e = .returned (.tuple #[]) ∧ Turned base R tb t (T.rem (rankOf tb) t.raw key) w w' := by
  obtain ⟨⟨lv, hB, hL⟩, g, n, G⟩ := hT
  have c0 : w.cell? ⟨R, 0, none⟩ = some t.ptr := hB.cell 0
  have c1 : w.cell? ⟨R, 1, none⟩ = some lv := hB.cell 1
  have hlt := hB.lt
  have HT : Hid (Tree base R tb t w) := ⟨⟨lv, hB, hL⟩, g, n, G⟩
  have HB : Hid (Blk w R #[t.ptr, lv] 96 ∧ LessS base w lv tb ∧ Good base w.drew t ∧ base ≤ w.drew.heap.size ∧ LessS base w.drew lv tb ∧ t.raw.tall ≤ 4294950000) := ⟨hB, hL, G.drew, Nat.le_of_lt (Nat.lt_of_le_of_lt g hlt), hL.drew, ht⟩
  clear hB hL g n G hlt ht
  obtain ⟨q, hq⟩ := t.ptr_some
  have HQ : Hid (t.ptr = .pointer q) := hq
  rw [hq] at c0
  clear hq
  go_enter Try.func61, Try.ntmps61
  refine wp_first_tail (.tmp 0) (some 4) 10 (by kernel_rfl) ⟨rfl, rfl, rfl⟩ (by kernel_rfl) (by kernel_rfl) (by kernel_rfl) (fun _ _ _ h => h) (by kernel_rfl) ?_
  simp only [tied, List.modify_succ_cons, List.modify_zero_cons, List.take_succ_cons, List.take_zero, List.drop_succ_cons, List.drop_zero]
  repeat still_step
  refine wpStill_nil ?_
  go_wp2_with fail
  rw [← HQ.out]
  refine (remove_any base tb lv t key w.drew HB.out.2.2.1 HB.out.2.2.2.2.2 HB.out.2.2.2.1 HB.out.2.2.2.2.1).mono ?_
  rintro e w1 ⟨t', rfl, hraw, hput⟩
  have hput' := hput.of_drew
  have hR := T.right_rem (rankOf tb) key HB.out.2.2.1.right HB.out.2.2.1.even
  have hE := (T.even_rem (rankOf tb) key HB.out.2.2.1.right HB.out.2.2.1.even).1
  have HE := hid (turned_of HT.out HB.out.1 HB.out.2.1 hput' (by rw [hraw]; exact hR) (by rw [hraw]; exact hE))
  have d0 : w1.cell? ⟨R, 0, none⟩ = some t.ptr := HE.out.1.cell 0
  have f0 : w1.frozen? ⟨R, 0, none⟩ = false := HE.out.1.free 0
  have HR := hid hraw
  obtain ⟨u, hu⟩ := t'.ptr_some
  rw [hu] at HE ⊢
  clear hraw hput hput' hR hE c0 c1
  go_wp2_with fail
  go_end0
  exact ⟨rfl, HR.out ▸ HE.out.2⟩

/-- What Get tells. -/
def got (tb : List Int) (t : T) (key : Int) : Int × Bool := match T.find (rankOf tb) key t with | none => (0, false) | some p => (p.2, true)

set_option maxHeartbeats 4000000 in
set_option maxRecDepth 100000 in
theorem tGet_any (base R : Nat) (tb : List Int) (t : N) (key : Int) (w : World) (hT : Tree base R tb t w) :
    Calls Try.prog 62 #[.pointer (some ⟨R, 0, none⟩), .int .i64 key] w fun e w' => e = .returned (.tuple #[.int .i64 (got tb t.raw key).1, .bool (got tb t.raw key).2]) ∧ ∃ n, w' = w.drewN n := by
  obtain ⟨⟨lv, hB, hL⟩, g, n, G⟩ := hT
  have c0 : w.cell? ⟨R, 0, none⟩ = some t.ptr := hB.cell 0
  have c1 : w.cell? ⟨R, 1, none⟩ = some lv := hB.cell 1
  have HB : Hid (t.In w.drew ∧ LessS base w.drew lv tb) := ⟨G.mem.drew, hL.drew⟩
  have HF : Hid (T.find (rankOf tb) key t.raw = match N.sub (rankOf tb) key t with | .nil => none | .node _ k v _ _ _ => some (k, v)) := sub_find (rankOf tb) key t
  clear hB hL g n G
  obtain ⟨q, hq⟩ := t.ptr_some
  have HQ : Hid (t.ptr = .pointer q) := hq
  rw [hq] at c0
  clear hq
  go_enter Try.func62, Try.ntmps62
  go_wp2_with fail
  refine still_tail_drew 9 (by kernel_rfl) (by kernel_rfl) ?_
  simp only [List.take_succ_cons, List.take_zero, List.drop_succ_cons, List.drop_zero]
  repeat still_step
  refine wpStill_nil ?_
  go_wp2_with fail
  rw [← HQ.out]
  refine (search_any base tb key lv t w.drew HB.out.1 HB.out.2).mono ?_
  rintro e w1 ⟨rfl, m, rfl⟩
  have HI := hid (sub_in (t := t) (rankOf tb) key HB.out.1)
  generalize N.sub (rankOf tb) key t = s at HI HF ⊢
  cases s with
  | nil =>
    have HG : Hid (got tb t.raw key = (0, false)) := by
      show got tb t.raw key = _
      unfold got
      rw [HF.out]
    clear HF
    rw [show (N.nil).ptr = .pointer none from rfl]
    go_wp2_with fail
    go_ret2
    exact ⟨by rw [HG.out]; rfl, _, rfl⟩
  | node b k v h l r =>
    have HG : Hid (got tb t.raw key = (v, true)) := by
      show got tb t.raw key = _
      unfold got
      rw [HF.out]
    have k1 : w.cell? ⟨b, 1, none⟩ = some (.int .i64 v) := HI.out.1.cell 1
    clear HF
    rw [show (N.node b k v h l r).ptr = .pointer (some ⟨b, 0, none⟩) from rfl]
    go_wp2_with fail
    go_ret2
    exact ⟨by rw [HG.out]; rfl, _, rfl⟩

set_option maxHeartbeats 4000000 in
set_option maxRecDepth 100000 in
theorem tSize_any (base R : Nat) (tb : List Int) (t : N) (w : World) (hT : Tree base R tb t w) (hs : t.raw.size ≤ 4611686018427387) :
    Calls Try.prog 63 #[.pointer (some ⟨R, 0, none⟩)] w fun e w' => e = .returned (.int .i64 t.raw.size) ∧ ∃ n, w' = w.drewN n := by
  obtain ⟨⟨lv, hB, hL⟩, g, n, G⟩ := hT
  have c0 : w.cell? ⟨R, 0, none⟩ = some t.ptr := hB.cell 0
  have HB : Hid (t.In w ∧ t.raw.size ≤ 4611686018427387) := ⟨G.mem, hs⟩
  clear hB hL g n G hs
  obtain ⟨q, hq⟩ := t.ptr_some
  have HQ : Hid (t.ptr = .pointer q) := hq
  rw [hq] at c0
  clear hq
  go_enter Try.func63, Try.ntmps63
  go_wp2_with fail
  rw [← HQ.out]
  refine (size_any t _ HB.out.1 HB.out.2).mono ?_
  rintro e w1 ⟨rfl, m, rfl⟩
  go_wp2_with fail
  go_ret
  exact ⟨rfl, m, rfl⟩

set_option maxHeartbeats 4000000 in
set_option maxRecDepth 100000 in
theorem tHeight_any (base R : Nat) (tb : List Int) (t : N) (w : World) (hT : Tree base R tb t w) :
    Calls Try.prog 66 #[.pointer (some ⟨R, 0, none⟩)] w fun e w' => e = .returned (.int .i64 t.raw.ht) ∧ w' = w := by
  obtain ⟨⟨lv, hB, hL⟩, g, n, G⟩ := hT
  have c0 : w.cell? ⟨R, 0, none⟩ = some t.ptr := hB.cell 0
  have HB : Hid (t.In w) := G.mem
  clear hB hL g n G
  obtain ⟨q, hq⟩ := t.ptr_some
  have HQ : Hid (t.ptr = .pointer q) := hq
  rw [hq] at c0
  clear hq
  go_enter Try.func66, Try.ntmps66
  go_wp2_with fail
  rw [← HQ.out]
  refine (getHeight_any t _ HB.out).mono ?_
  rintro e w1 ⟨rfl, rfl⟩
  go_wp2_with fail
  go_ret
  exact ⟨rfl, rfl⟩

set_option maxHeartbeats 4000000 in
set_option maxRecDepth 100000 in
theorem tEach_any (base R : Nat) (tb : List Int) (t : N) (N0 X : Nat) (val : Int) (okv : Bool) (w : World) (hT : Tree base R tb t w) (hid' : ∀ b ∈ t.ids, b < N0 ∧ b ≠ X) (hA : Acc N0 X val okv [] [] w) (hs : t.raw.size ≤ 1099511627776) :
    Calls Try.prog 64 #[.pointer (some ⟨R, 0, none⟩), cloV X] w fun e w' => e = .returned (.tuple #[]) ∧ Acc N0 X val okv (keys t.raw) (vals t.raw) w' ∧ Fr (fun b => b = X ∨ N0 ≤ b) w w' := by
  obtain ⟨⟨lv, hB, hL⟩, g, n, G⟩ := hT
  have c0 : w.cell? ⟨R, 0, none⟩ = some t.ptr := hB.cell 0
  have HB : Hid (t.In w ∧ (∀ b ∈ t.ids, b < N0 ∧ b ≠ X) ∧ Acc N0 X val okv [] [] w ∧ ((([] : List Int).length : Int)) + t.raw.size ≤ 1099511627776) := ⟨G.mem, hid', hA, by simpa using hs⟩
  clear hB hL g n G hid' hA hs
  obtain ⟨q, hq⟩ := t.ptr_some
  have HQ : Hid (t.ptr = .pointer q) := hq
  rw [hq] at c0
  clear hq
  show Calls Try.prog 64 #[.pointer (some ⟨R, 0, none⟩), .func (.func 65) #[] #[.pointer (some ⟨X, 0, none⟩)]] w _
  go_enter Try.func64, Try.ntmps64
  go_wp2_with fail
  rw [← HQ.out]
  refine (each_any N0 X val okv t [] [] w HB.out.1 HB.out.2.1 HB.out.2.2.1 rfl HB.out.2.2.2).mono ?_
  rintro e w1 ⟨rfl, hA, hF⟩
  have H := hid hA
  have H2 := hid hF
  clear hA hF
  go_wp2_with fail
  go_end0
  exact ⟨rfl, H.out, H2.out⟩

theorem less_any (A : Option Addr) (c : Nat) (tb : List Int) (w : World) (hC : Kd.C (Kd.int .i64) w A tb.length tb) (hn : tb.length ≤ 140737488351232) :
    Calls Try.prog 47 #[.slice A tb.length c] w fun e w' => ∃ lv, e = .returned lv ∧ w' = w.alloc (.cells #[.slice A tb.length c] 24) ∧ LessS w'.heap.size w' lv tb := by
  have HC : Hid (Kd.C (Kd.int .i64) w A tb.length tb ∧ tb.length ≤ 140737488351232) := ⟨hC, hn⟩
  clear hC hn
  go_enter Try.func47, Try.ntmps47
  go_wp2_with fail
  go_ret
  exact ⟨_, rfl, rfl, LessS.of ⟨HC.out.2, w.heap.size, A, c, rfl, Blk.new w _ _, Kd.C_alloc HC.out.1 _⟩⟩

theorem New_any (base : Nat) (tb : List Int) (lv : Value) (w : World) (hL : LessS base w lv tb) (hb : base ≤ w.heap.size) :
    Calls Try.prog 46 #[lv] w fun e w' => ∃ R, e = .returned (.pointer (some ⟨R, 0, none⟩)) ∧ Tree base R tb .nil w' ∧ Below w.heap.size w w' := by
  obtain ⟨_, B, A, c, rfl, _, _⟩ := hL.now
  have HL : Hid (LessS base w (.func (.func 67) #[] #[.pointer (some ⟨B, 0, none⟩)]) tb) := hL
  clear hL
  go_enter Try.func46, Try.ntmps46
  go_wp2_with fail
  go_ret
  exact ⟨w.heap.size, rfl, ⟨⟨_, Blk.new w _ _, HL.out.to ((Below.refl _ _).alloc hb _)⟩, hb, by simp [N.ids], ⟨trivial, List.nodup_nil, fun b h => by simp [N.ids] at h, trivial, trivial⟩⟩, (Below.refl _ _).alloc (Nat.le_refl _) _⟩

end Go.Proofs.Ytjlcebgfknfelaa.Avl
