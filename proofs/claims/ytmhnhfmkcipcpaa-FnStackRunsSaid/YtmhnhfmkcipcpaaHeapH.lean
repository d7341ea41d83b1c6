/- Binary heaps in memory: one step. For every heap. -/
import Derived.Test.YtmhnhfmkcipcpaaHeapG
namespace Go.Proofs.Ytmhnhfmkcipcpaa.Heap
open Go Go.RowKit Go.Proofs.Ytmhnhfmkcipcpaa.Hk Go.Proofs.Ytmhnhfmkcipcpaa.HeapPure Go.Proofs.Ytmhnhfmkcipcpaa.Less Go.Proofs.YtmhnhfmkcipcpaaW.PrintWords Go.Proofs.YtmhnhfmkcipcpaaW.PrintLast Go.Proofs.YtmhnhfmkcipcpaaW.PrintMore

theorem zh_not {base R b : Nat} {w : World} {cs : Array Value} {t : TypeId} (h : Blk w b cs t) (ht : t ≠ 3) (hne : b ≠ R) : ¬ Zh base R w b := fun hz => by
  rcases hz.2 with e | ⟨cs', e⟩
  · exact hne e
  · have h' : w.heap[b]? = some (.cells cs t (0, 0)) := h
    rw [h'] at e
    injection e with e
    injection e with _ e
    exact ht e
/-- The cells of what a step tells. -/
abbrev F4 (n : Int) (ok : Bool) : Array Value := #[.int .i64 n, .bool ok, .slice none 0 0, .slice none 0 0]
/-- What stands while a step is done: the heap, the result's cells, what is told so far. -/
structure Sd (base R s : Nat) (tb xs : List Int) (n : Int) (ok : Bool) (w0 W : World) : Prop where
  heap : HeapIn base R tb xs W
  fr : Fr (Zh base R w0) w0 W
  x4 : Blk W (s + 1) (F4 0 false) 34
  x5 : Blk W (s + 2) (F4 n ok) 34
  lt : R < s
  big : base ≤ W.heap.size
  sz : s + 2 < W.heap.size
  s0 : w0.heap.size = s
section
variable {base R s : Nat} {tb xs ys : List Int} {n m : Int} {ok ok' : Bool} {w0 W W1 : World}
theorem Sd.step (h : Sd base R s tb xs n ok w0 W) (hH : HeapIn base R tb ys W1) (hF : Fr (Zh base R W) W W1) : Sd base R s tb ys n ok w0 W1 :=
  ⟨hH, zh_trans h.fr hF, h.x4.fr hF (zh_not h.x4 (by decide) (by have := h.lt; omega)), h.x5.fr hF (zh_not h.x5 (by decide) (by have := h.lt; omega)), h.lt, Nat.le_trans h.big hF.size, Nat.lt_of_lt_of_le h.sz hF.size, h.s0⟩
theorem Sd.set5 (h : Sd base R s tb xs n ok w0 W) (i : Nat) (u : Value) {n' : Int} {ok' : Bool} (hc : (F4 n ok).setIfInBounds i u = F4 n' ok') : Sd base R s tb xs n' ok' w0 (W.setCell ⟨s + 2, i, none⟩ u) := by
  obtain ⟨v, lv, hV⟩ := h.heap
  have hF : Fr (· = s + 2) W (W.setCell ⟨s + 2, i, none⟩ u) := Fr.one
  have hs0 := h.s0
  have hlt := h.lt
  have hbelow : Below (s + 2) W (W.setCell ⟨s + 2, i, none⟩ u) := hF.below (Nat.le_of_lt h.sz) (fun k hk => Nat.le_of_eq hk.symm)
  have hbase : base ≤ s := Nat.le_trans hV.ge (Nat.le_of_lt hlt)
  refine ⟨⟨v, lv, ⟨hV.blk.fr hF (by omega), hV.less.to ⟨hbelow.os, hbelow.tape, hbelow.output, hbelow.size, fun k hk => hbelow.block k (by omega)⟩, Ro.fr hV.row hF (fun k hk e => ?_), hV.ge⟩⟩, h.fr.trans hF (fun k hk e => by omega), h.x4.fr hF (by omega), ?_, h.lt, Nat.le_trans h.big hF.size, Nat.lt_of_lt_of_le h.sz hF.size, hs0⟩
  · obtain ⟨inner, ho⟩ := Kd.R_own hV.row
    obtain ⟨cells, hc'⟩ := own_typed ho k hk
    subst e
    have h5 : W.heap[s + 2]? = some (.cells (F4 n ok) 34 (0, 0)) := h.x5
    rw [h5] at hc'
    injection hc' with hc'
    injection hc' with _ hc'
    exact absurd hc' (by decide)
  · have := h.x5.set i u
    rw [hc] at this
    exact this
theorem Sd.start (hH : HeapIn base R tb xs w0) (hb : base ≤ w0.heap.size) (st : Array Value) :
    Sd base R w0.heap.size tb xs 0 false w0 (((w0.alloc (.cells st 27)).alloc (.cells (F4 0 false) 34)).alloc (.cells (F4 0 false) 34)) := by
  obtain ⟨v, lv, hV⟩ := hH
  have hB : Below w0.heap.size w0 (((w0.alloc (.cells st 27)).alloc (.cells (F4 0 false) 34)).alloc (.cells (F4 0 false) 34)) := (((Below.refl _ _).alloc (Nat.le_refl _) _).alloc (by simp) _).alloc (by simp; omega) _
  have h4 := Blk.new (w0.alloc (.cells st 27)) (F4 0 false) 34
  have h5 := Blk.new ((w0.alloc (.cells st 27)).alloc (.cells (F4 0 false) 34)) (F4 0 false) 34
  rw [Hk.alloc_size] at h4
  rw [Hk.alloc_size, Hk.alloc_size] at h5
  exact ⟨⟨v, lv, hV.below hB hb⟩, Fr.new hB, h4.alloc _, h5, hV.blk.lt, Nat.le_trans hb hB.size, by simp, rfl⟩
theorem heap_off {base R b : Nat} {tb xs : List Int} {W W1 : World} {cs : Array Value} (hH : HeapIn base R tb xs W) (hb : Blk W b cs 34) (hF : Fr (· = b) W W1) (hlt : R < b - 1) (hbs : b ≤ W.heap.size) : HeapIn base R tb xs W1 := by
  obtain ⟨v, lv, hV⟩ := hH
  have hbelow : Below b W W1 := hF.below hbs (fun k hk => Nat.le_of_eq hk.symm)
  have hge := hV.ge
  refine ⟨v, lv, ⟨hV.blk.fr hF (by omega), hV.less.to ⟨hbelow.os, hbelow.tape, hbelow.output, hbelow.size, fun k hk => hbelow.block k (by omega)⟩, Ro.fr hV.row hF (fun k hk e => ?_), hV.ge⟩⟩
  obtain ⟨inner, ho⟩ := Kd.R_own hV.row
  obtain ⟨cells, hc'⟩ := own_typed ho k hk
  subst e
  have h5 : W.heap[k]? = some (.cells cs 34 (0, 0)) := hb
  rw [h5] at hc'
  injection hc' with hc'
  injection hc' with _ hc'
  exact absurd hc' (by decide)
end

set_option maxHeartbeats 8000000 in
set_option maxRecDepth 100000 in
theorem heapDo_any (base R : Nat) (tb xs : List Int) (o d key val : Int) (w : World) (hH : HeapIn base R tb xs w) (hb : base ≤ w.heap.size) (hl : xs.length < 1099511627776) :
    Calls Try.prog 43 #[.pointer (some ⟨R, 0, none⟩), .agg #[.int .i64 o, .int .i64 d, .int .i64 key, .int .i64 val]] w fun e w' =>
      e = .returned (.agg #[.int .i64 (tellT xs d).1, .bool (tellT xs d).2, .slice none 0 0, .slice none 0 0]) ∧ HeapIn base R tb (HeapPure.stepT (rankOf tb) xs d key) w' ∧ Fr (Zh base R w) w w' := by
  have H0 := hid (Sd.start hH hb #[.int .i64 o, .int .i64 d, .int .i64 key, .int .i64 val])
  have HS : Hid (Blk (((w.alloc (.cells #[.int .i64 o, .int .i64 d, .int .i64 key, .int .i64 val] 27)).alloc (.cells (F4 0 false) 34)).alloc (.cells (F4 0 false) 34)) w.heap.size #[.int .i64 o, .int .i64 d, .int .i64 key, .int .i64 val] 27) := hid (((Blk.new w _ _).alloc _).alloc _)
  have HL := hid hl
  clear hH hb hl
  by_cases h0 : d = 0
  · subst h0
    go_enter Try.func43, Try.ntmps43
    go_upto_region 2 with fail
    change Code.wp _ _ _ _ (((w.alloc (.cells #[.int .i64 o, .int .i64 0, .int .i64 key, .int .i64 val] 27)).alloc (.cells (F4 0 false) 34)).alloc (.cells (F4 0 false) 34))
    generalize ((w.alloc (.cells #[.int .i64 o, .int .i64 0, .int .i64 key, .int .i64 val] 27)).alloc (.cells (F4 0 false) 34)).alloc (.cells (F4 0 false) 34) = W at H0 HS ⊢
    have k1 : W.cell? ⟨w.heap.size, 1, none⟩ = some (.int .i64 0) := HS.out.cell 1
    have k2 : W.cell? ⟨w.heap.size, 2, none⟩ = some (.int .i64 key) := HS.out.cell 2
    go_wp2_with fail
    refine (push_any base R tb xs key W H0.out.heap H0.out.big HL.out).mono ?_
    rintro e W1 ⟨rfl, hH, hF⟩
    have H2 := hid (H0.out.step hH hF)
    clear hH hF H0 k1 k2 HS
    have HT : Hid (tellT xs 0 = (0, false) ∧ HeapPure.stepT (rankOf tb) xs 0 key = pushT (rankOf tb) xs key) := ⟨rfl, rfl⟩
    go_upto_region 11 with fail
    have p0 : W1.cell? ⟨w.heap.size + 2, 0, none⟩ = some (.int .i64 0) := H2.out.x5.cell 0
    have p1 : W1.cell? ⟨w.heap.size + 2, 1, none⟩ = some (.bool false) := H2.out.x5.cell 1
    have p2 : W1.cell? ⟨w.heap.size + 2, 2, none⟩ = some (.slice none 0 0) := H2.out.x5.cell 2
    have p3 : W1.cell? ⟨w.heap.size + 2, 3, none⟩ = some (.slice none 0 0) := H2.out.x5.cell 3
    have q0 : W1.cell? ⟨w.heap.size + 1, 0, none⟩ = some (.int .i64 0) := H2.out.x4.cell 0
    have r0 : W1.frozen? ⟨w.heap.size + 1, 0, none⟩ = false := H2.out.x4.free 0
    have q1 : W1.cell? ⟨w.heap.size + 1, 1, none⟩ = some (.bool false) := H2.out.x4.cell 1
    have r1 : W1.frozen? ⟨w.heap.size + 1, 1, none⟩ = false := H2.out.x4.free 1
    have q2 : W1.cell? ⟨w.heap.size + 1, 2, none⟩ = some (.slice none 0 0) := H2.out.x4.cell 2
    have r2 : W1.frozen? ⟨w.heap.size + 1, 2, none⟩ = false := H2.out.x4.free 2
    have q3 : W1.cell? ⟨w.heap.size + 1, 3, none⟩ = some (.slice none 0 0) := H2.out.x4.cell 3
    have r3 : W1.frozen? ⟨w.heap.size + 1, 3, none⟩ = false := H2.out.x4.free 3
    have HR : Hid (HeapIn base R tb (HeapPure.stepT (rankOf tb) xs 0 key) W1 ∧ Fr (Zh base R w) w W1 ∧ tellT xs 0 = (0, false)) := hid ⟨by rw [HT.out.2]; exact H2.out.heap, H2.out.fr, HT.out.1⟩
    have HE : Hid (w.heap.size + 1 < W1.heap.size ∧ R < w.heap.size ∧ base ≤ R ∧ Blk W1 (w.heap.size + 1) (F4 0 false) 34) := hid ⟨by have := H2.out.sz; omega, H2.out.lt, (let ⟨_, _, h⟩ := H2.out.heap; h.ge), H2.out.x4⟩
    clear HT H2
    go_wp2_with fail
    refine bodyPost_ret (v := .agg #[.int .i64 0, .bool false, .slice none 0 0, .slice none 0 0]) (by simp [results, Try.results43, go_sem, q0, q1, q2, q3]) rfl ?_
    have hF4 : Fr (· = w.heap.size + 1) W1 ((((W1.setCell ⟨w.heap.size + 1, 0, none⟩ (.int .i64 0)).setCell ⟨w.heap.size + 1, 1, none⟩ (.bool false)).setCell ⟨w.heap.size + 1, 2, none⟩ (.slice none 0 0)).setCell ⟨w.heap.size + 1, 3, none⟩ (.slice none 0 0)) := (((Fr.one).then Fr.one).then Fr.one).then Fr.one
    exact ⟨by rw [HR.out.2.2], heap_off HR.out.1 HE.out.2.2.2 hF4 HE.out.2.1 (Nat.le_of_lt HE.out.1), HR.out.2.1.trans hF4 (fun k hk e => by omega)⟩
  · have hz0 : (d == 0) = false := beq_eq_false_iff_ne.2 h0
    by_cases h1 : d = 1
    · subst h1
      go_enter Try.func43, Try.ntmps43
      go_upto_region 2 with fail
      change Code.wp _ _ _ _ (((w.alloc (.cells #[.int .i64 o, .int .i64 1, .int .i64 key, .int .i64 val] 27)).alloc (.cells (F4 0 false) 34)).alloc (.cells (F4 0 false) 34))
      generalize ((w.alloc (.cells #[.int .i64 o, .int .i64 1, .int .i64 key, .int .i64 val] 27)).alloc (.cells (F4 0 false) 34)).alloc (.cells (F4 0 false) 34) = W at H0 HS ⊢
      have k1 : W.cell? ⟨w.heap.size, 1, none⟩ = some (.int .i64 1) := HS.out.cell 1
      have k2 : W.cell? ⟨w.heap.size, 2, none⟩ = some (.int .i64 key) := HS.out.cell 2
      have e0 : w.heap.size = w.heap.size := rfl
      clear e0
      go_wp2_with fail
      refine (pop_any base R tb xs W H0.out.heap H0.out.big HL.out).mono ?_
      rintro e W1 ⟨rfl, hH, hF⟩
      have H1 := hid (H0.out.step hH hF)
      clear hH hF H0 k1 k2 HS
      have HT : Hid (tellT xs 1 = ((tellT xs 1).1, (tellT xs 1).2) ∧ HeapPure.stepT (rankOf tb) xs 1 key = popT (rankOf tb) xs) := ⟨rfl, rfl⟩
      generalize (tellT xs 1).1 = n at HT ⊢
      generalize (tellT xs 1).2 = ok at HT ⊢
      have p0 : W1.cell? ⟨w.heap.size + 2, 0, none⟩ = some (.int .i64 0) := H1.out.x5.cell 0
      have p1 : W1.cell? ⟨w.heap.size + 2, 1, none⟩ = some (.bool false) := H1.out.x5.cell 1
      have p2 : W1.cell? ⟨w.heap.size + 2, 2, none⟩ = some (.slice none 0 0) := H1.out.x5.cell 2
      have p3 : W1.cell? ⟨w.heap.size + 2, 3, none⟩ = some (.slice none 0 0) := H1.out.x5.cell 3
      have q0 : W1.cell? ⟨w.heap.size + 1, 0, none⟩ = some (.int .i64 0) := H1.out.x4.cell 0
      have r0 : W1.frozen? ⟨w.heap.size + 1, 0, none⟩ = false := H1.out.x4.free 0
      have q1 : W1.cell? ⟨w.heap.size + 1, 1, none⟩ = some (.bool false) := H1.out.x4.cell 1
      have r1 : W1.frozen? ⟨w.heap.size + 1, 1, none⟩ = false := H1.out.x4.free 1
      have q2 : W1.cell? ⟨w.heap.size + 1, 2, none⟩ = some (.slice none 0 0) := H1.out.x4.cell 2
      have r2 : W1.frozen? ⟨w.heap.size + 1, 2, none⟩ = false := H1.out.x4.free 2
      have q3 : W1.cell? ⟨w.heap.size + 1, 3, none⟩ = some (.slice none 0 0) := H1.out.x4.cell 3
      have r3 : W1.frozen? ⟨w.heap.size + 1, 3, none⟩ = false := H1.out.x4.free 3
      have g0 : W1.frozen? ⟨w.heap.size + 2, 0, none⟩ = false := H1.out.x5.free 0
      have g1 : W1.frozen? ⟨w.heap.size + 2, 1, none⟩ = false := H1.out.x5.free 1
      have H2 : Hid (Sd base R w.heap.size tb (popT (rankOf tb) xs) n ok w ((W1.setCell ⟨w.heap.size + 2, 0, none⟩ (.int .i64 n)).setCell ⟨w.heap.size + 2, 1, none⟩ (.bool ok))) := hid ((H1.out.set5 0 (.int .i64 n) (n' := n) (ok' := false) rfl).set5 1 (.bool ok) (n' := n) (ok' := ok) rfl)
      clear H1
      go_upto_region 11 with fail
      clear p0 p1 p2 p3 q0 q1 q2 q3 r0 r1 r2 r3 g0 g1
      generalize (W1.setCell ⟨w.heap.size + 2, 0, none⟩ (.int .i64 n)).setCell ⟨w.heap.size + 2, 1, none⟩ (.bool ok) = W2 at H2 ⊢
      have p0 : W2.cell? ⟨w.heap.size + 2, 0, none⟩ = some (.int .i64 n) := H2.out.x5.cell 0
      have p1 : W2.cell? ⟨w.heap.size + 2, 1, none⟩ = some (.bool ok) := H2.out.x5.cell 1
      have p2 : W2.cell? ⟨w.heap.size + 2, 2, none⟩ = some (.slice none 0 0) := H2.out.x5.cell 2
      have p3 : W2.cell? ⟨w.heap.size + 2, 3, none⟩ = some (.slice none 0 0) := H2.out.x5.cell 3
      have q0 : W2.cell? ⟨w.heap.size + 1, 0, none⟩ = some (.int .i64 0) := H2.out.x4.cell 0
      have r0 : W2.frozen? ⟨w.heap.size + 1, 0, none⟩ = false := H2.out.x4.free 0
      have q1 : W2.cell? ⟨w.heap.size + 1, 1, none⟩ = some (.bool false) := H2.out.x4.cell 1
      have r1 : W2.frozen? ⟨w.heap.size + 1, 1, none⟩ = false := H2.out.x4.free 1
      have q2 : W2.cell? ⟨w.heap.size + 1, 2, none⟩ = some (.slice none 0 0) := H2.out.x4.cell 2
      have r2 : W2.frozen? ⟨w.heap.size + 1, 2, none⟩ = false := H2.out.x4.free 2
      have q3 : W2.cell? ⟨w.heap.size + 1, 3, none⟩ = some (.slice none 0 0) := H2.out.x4.cell 3
      have r3 : W2.frozen? ⟨w.heap.size + 1, 3, none⟩ = false := H2.out.x4.free 3
      have HR : Hid (HeapIn base R tb (HeapPure.stepT (rankOf tb) xs 1 key) W2 ∧ Fr (Zh base R w) w W2 ∧ tellT xs 1 = (n, ok)) := hid ⟨by rw [HT.out.2]; exact H2.out.heap, H2.out.fr, HT.out.1⟩
      have HE : Hid (w.heap.size + 1 < W2.heap.size ∧ R < w.heap.size ∧ base ≤ R ∧ Blk W2 (w.heap.size + 1) (F4 0 false) 34) := hid ⟨by have := H2.out.sz; omega, H2.out.lt, (let ⟨_, _, h⟩ := H2.out.heap; h.ge), H2.out.x4⟩
      clear HT H2
      go_wp2_with fail
      refine bodyPost_ret (v := .agg #[.int .i64 n, .bool ok, .slice none 0 0, .slice none 0 0]) (by simp [results, Try.results43, go_sem, q0, q1, q2, q3]) rfl ?_
      have hF4 : Fr (· = w.heap.size + 1) W2 ((((W2.setCell ⟨w.heap.size + 1, 0, none⟩ (.int .i64 n)).setCell ⟨w.heap.size + 1, 1, none⟩ (.bool ok)).setCell ⟨w.heap.size + 1, 2, none⟩ (.slice none 0 0)).setCell ⟨w.heap.size + 1, 3, none⟩ (.slice none 0 0)) := (((Fr.one).then Fr.one).then Fr.one).then Fr.one
      exact ⟨by rw [HR.out.2.2], heap_off HR.out.1 HE.out.2.2.2 hF4 HE.out.2.1 (Nat.le_of_lt HE.out.1), HR.out.2.1.trans hF4 (fun k hk e => by omega)⟩
    · have hz1 : (d == 1) = false := beq_eq_false_iff_ne.2 h1
      by_cases h2 : d = 2
      · subst h2
        go_enter Try.func43, Try.ntmps43
        go_upto_region 2 with fail
        change Code.wp _ _ _ _ (((w.alloc (.cells #[.int .i64 o, .int .i64 2, .int .i64 key, .int .i64 val] 27)).alloc (.cells (F4 0 false) 34)).alloc (.cells (F4 0 false) 34))
        generalize ((w.alloc (.cells #[.int .i64 o, .int .i64 2, .int .i64 key, .int .i64 val] 27)).alloc (.cells (F4 0 false) 34)).alloc (.cells (F4 0 false) 34) = W at H0 HS ⊢
        have k1 : W.cell? ⟨w.heap.size, 1, none⟩ = some (.int .i64 2) := HS.out.cell 1
        have k2 : W.cell? ⟨w.heap.size, 2, none⟩ = some (.int .i64 key) := HS.out.cell 2
        have e0 : w.heap.size = w.heap.size := rfl
        clear e0
        go_wp2_with fail
        refine (peek_any base R tb xs W H0.out.heap).mono ?_
        rintro e W1 ⟨rfl, rfl⟩
        have H1 := H0
        clear H0 k1 k2 HS
        have HT : Hid (tellT xs 2 = ((tellT xs 2).1, (tellT xs 2).2) ∧ HeapPure.stepT (rankOf tb) xs 2 key = xs) := ⟨rfl, rfl⟩
        generalize (tellT xs 2).1 = n at HT ⊢
        generalize (tellT xs 2).2 = ok at HT ⊢
        have p0 : W1.cell? ⟨w.heap.size + 2, 0, none⟩ = some (.int .i64 0) := H1.out.x5.cell 0
        have p1 : W1.cell? ⟨w.heap.size + 2, 1, none⟩ = some (.bool false) := H1.out.x5.cell 1
        have p2 : W1.cell? ⟨w.heap.size + 2, 2, none⟩ = some (.slice none 0 0) := H1.out.x5.cell 2
        have p3 : W1.cell? ⟨w.heap.size + 2, 3, none⟩ = some (.slice none 0 0) := H1.out.x5.cell 3
        have q0 : W1.cell? ⟨w.heap.size + 1, 0, none⟩ = some (.int .i64 0) := H1.out.x4.cell 0
        have r0 : W1.frozen? ⟨w.heap.size + 1, 0, none⟩ = false := H1.out.x4.free 0
        have q1 : W1.cell? ⟨w.heap.size + 1, 1, none⟩ = some (.bool false) := H1.out.x4.cell 1
        have r1 : W1.frozen? ⟨w.heap.size + 1, 1, none⟩ = false := H1.out.x4.free 1
        have q2 : W1.cell? ⟨w.heap.size + 1, 2, none⟩ = some (.slice none 0 0) := H1.out.x4.cell 2
        have r2 : W1.frozen? ⟨w.heap.size + 1, 2, none⟩ = false := H1.out.x4.free 2
        have q3 : W1.cell? ⟨w.heap.size + 1, 3, none⟩ = some (.slice none 0 0) := H1.out.x4.cell 3
        have r3 : W1.frozen? ⟨w.heap.size + 1, 3, none⟩ = false := H1.out.x4.free 3
        have g0 : W1.frozen? ⟨w.heap.size + 2, 0, none⟩ = false := H1.out.x5.free 0
        have g1 : W1.frozen? ⟨w.heap.size + 2, 1, none⟩ = false := H1.out.x5.free 1
        have H2 : Hid (Sd base R w.heap.size tb xs n ok w ((W1.setCell ⟨w.heap.size + 2, 0, none⟩ (.int .i64 n)).setCell ⟨w.heap.size + 2, 1, none⟩ (.bool ok))) := hid ((H1.out.set5 0 (.int .i64 n) (n' := n) (ok' := false) rfl).set5 1 (.bool ok) (n' := n) (ok' := ok) rfl)
        clear H1
        go_upto_region 11 with fail
        clear p0 p1 p2 p3 q0 q1 q2 q3 r0 r1 r2 r3 g0 g1
        generalize (W1.setCell ⟨w.heap.size + 2, 0, none⟩ (.int .i64 n)).setCell ⟨w.heap.size + 2, 1, none⟩ (.bool ok) = W2 at H2 ⊢
        have p0 : W2.cell? ⟨w.heap.size + 2, 0, none⟩ = some (.int .i64 n) := H2.out.x5.cell 0
        have p1 : W2.cell? ⟨w.heap.size + 2, 1, none⟩ = some (.bool ok) := H2.out.x5.cell 1
        have p2 : W2.cell? ⟨w.heap.size + 2, 2, none⟩ = some (.slice none 0 0) := H2.out.x5.cell 2
        have p3 : W2.cell? ⟨w.heap.size + 2, 3, none⟩ = some (.slice none 0 0) := H2.out.x5.cell 3
        have q0 : W2.cell? ⟨w.heap.size + 1, 0, none⟩ = some (.int .i64 0) := H2.out.x4.cell 0
        have r0 : W2.frozen? ⟨w.heap.size + 1, 0, none⟩ = false := H2.out.x4.free 0
        have q1 : W2.cell? ⟨w.heap.size + 1, 1, none⟩ = some (.bool false) := H2.out.x4.cell 1
        have r1 : W2.frozen? ⟨w.heap.size + 1, 1, none⟩ = false := H2.out.x4.free 1
        have q2 : W2.cell? ⟨w.heap.size + 1, 2, none⟩ = some (.slice none 0 0) := H2.out.x4.cell 2
        have r2 : W2.frozen? ⟨w.heap.size + 1, 2, none⟩ = false := H2.out.x4.free 2
        have q3 : W2.cell? ⟨w.heap.size + 1, 3, none⟩ = some (.slice none 0 0) := H2.out.x4.cell 3
        have r3 : W2.frozen? ⟨w.heap.size + 1, 3, none⟩ = false := H2.out.x4.free 3
        have HR : Hid (HeapIn base R tb (HeapPure.stepT (rankOf tb) xs 2 key) W2 ∧ Fr (Zh base R w) w W2 ∧ tellT xs 2 = (n, ok)) := hid ⟨by rw [HT.out.2]; exact H2.out.heap, H2.out.fr, HT.out.1⟩
        have HE : Hid (w.heap.size + 1 < W2.heap.size ∧ R < w.heap.size ∧ base ≤ R ∧ Blk W2 (w.heap.size + 1) (F4 0 false) 34) := hid ⟨by have := H2.out.sz; omega, H2.out.lt, (let ⟨_, _, h⟩ := H2.out.heap; h.ge), H2.out.x4⟩
        clear HT H2
        go_wp2_with fail
        refine bodyPost_ret (v := .agg #[.int .i64 n, .bool ok, .slice none 0 0, .slice none 0 0]) (by simp [results, Try.results43, go_sem, q0, q1, q2, q3]) rfl ?_
        have hF4 : Fr (· = w.heap.size + 1) W2 ((((W2.setCell ⟨w.heap.size + 1, 0, none⟩ (.int .i64 n)).setCell ⟨w.heap.size + 1, 1, none⟩ (.bool ok)).setCell ⟨w.heap.size + 1, 2, none⟩ (.slice none 0 0)).setCell ⟨w.heap.size + 1, 3, none⟩ (.slice none 0 0)) := (((Fr.one).then Fr.one).then Fr.one).then Fr.one
        exact ⟨by rw [HR.out.2.2], heap_off HR.out.1 HE.out.2.2.2 hF4 HE.out.2.1 (Nat.le_of_lt HE.out.1), HR.out.2.1.trans hF4 (fun k hk e => by omega)⟩
      · have hz2 : (d == 2) = false := beq_eq_false_iff_ne.2 h2
        by_cases h3 : d = 3
        · subst h3
          go_enter Try.func43, Try.ntmps43
          go_upto_region 2 with fail
          change Code.wp _ _ _ _ (((w.alloc (.cells #[.int .i64 o, .int .i64 3, .int .i64 key, .int .i64 val] 27)).alloc (.cells (F4 0 false) 34)).alloc (.cells (F4 0 false) 34))
          generalize ((w.alloc (.cells #[.int .i64 o, .int .i64 3, .int .i64 key, .int .i64 val] 27)).alloc (.cells (F4 0 false) 34)).alloc (.cells (F4 0 false) 34) = W at H0 HS ⊢
          have k1 : W.cell? ⟨w.heap.size, 1, none⟩ = some (.int .i64 3) := HS.out.cell 1
          have k2 : W.cell? ⟨w.heap.size, 2, none⟩ = some (.int .i64 key) := HS.out.cell 2
          go_wp2_with fail
          refine (size_any base R tb xs W H0.out.heap).mono ?_
          rintro e W1 ⟨rfl, rfl⟩
          have H1 := H0
          clear H0 k1 k2 HS
          have HT : Hid (tellT xs 3 = ((xs.length : Int), false) ∧ HeapPure.stepT (rankOf tb) xs 3 key = xs) := ⟨rfl, rfl⟩
          generalize (xs.length : Int) = n at HT ⊢
          have p0 : W1.cell? ⟨w.heap.size + 2, 0, none⟩ = some (.int .i64 0) := H1.out.x5.cell 0
          have p1 : W1.cell? ⟨w.heap.size + 2, 1, none⟩ = some (.bool false) := H1.out.x5.cell 1
          have p2 : W1.cell? ⟨w.heap.size + 2, 2, none⟩ = some (.slice none 0 0) := H1.out.x5.cell 2
          have p3 : W1.cell? ⟨w.heap.size + 2, 3, none⟩ = some (.slice none 0 0) := H1.out.x5.cell 3
          have q0 : W1.cell? ⟨w.heap.size + 1, 0, none⟩ = some (.int .i64 0) := H1.out.x4.cell 0
          have r0 : W1.frozen? ⟨w.heap.size + 1, 0, none⟩ = false := H1.out.x4.free 0
          have q1 : W1.cell? ⟨w.heap.size + 1, 1, none⟩ = some (.bool false) := H1.out.x4.cell 1
          have r1 : W1.frozen? ⟨w.heap.size + 1, 1, none⟩ = false := H1.out.x4.free 1
          have q2 : W1.cell? ⟨w.heap.size + 1, 2, none⟩ = some (.slice none 0 0) := H1.out.x4.cell 2
          have r2 : W1.frozen? ⟨w.heap.size + 1, 2, none⟩ = false := H1.out.x4.free 2
          have q3 : W1.cell? ⟨w.heap.size + 1, 3, none⟩ = some (.slice none 0 0) := H1.out.x4.cell 3
          have r3 : W1.frozen? ⟨w.heap.size + 1, 3, none⟩ = false := H1.out.x4.free 3
          have g0 : W1.frozen? ⟨w.heap.size + 2, 0, none⟩ = false := H1.out.x5.free 0
          have H2 : Hid (Sd base R w.heap.size tb xs n false w (W1.setCell ⟨w.heap.size + 2, 0, none⟩ (.int .i64 n))) := hid (H1.out.set5 0 (.int .i64 n) (n' := n) (ok' := false) rfl)
          clear H1
          go_upto_region 11 with fail
          clear p0 p1 p2 p3 q0 q1 q2 q3 r0 r1 r2 r3 g0
          generalize W1.setCell ⟨w.heap.size + 2, 0, none⟩ (.int .i64 n) = W2 at H2 ⊢
          have p0 : W2.cell? ⟨w.heap.size + 2, 0, none⟩ = some (.int .i64 n) := H2.out.x5.cell 0
          have p1 : W2.cell? ⟨w.heap.size + 2, 1, none⟩ = some (.bool false) := H2.out.x5.cell 1
          have p2 : W2.cell? ⟨w.heap.size + 2, 2, none⟩ = some (.slice none 0 0) := H2.out.x5.cell 2
          have p3 : W2.cell? ⟨w.heap.size + 2, 3, none⟩ = some (.slice none 0 0) := H2.out.x5.cell 3
          have q0 : W2.cell? ⟨w.heap.size + 1, 0, none⟩ = some (.int .i64 0) := H2.out.x4.cell 0
          have r0 : W2.frozen? ⟨w.heap.size + 1, 0, none⟩ = false := H2.out.x4.free 0
          have q1 : W2.cell? ⟨w.heap.size + 1, 1, none⟩ = some (.bool false) := H2.out.x4.cell 1
          have r1 : W2.frozen? ⟨w.heap.size + 1, 1, none⟩ = false := H2.out.x4.free 1
          have q2 : W2.cell? ⟨w.heap.size + 1, 2, none⟩ = some (.slice none 0 0) := H2.out.x4.cell 2
          have r2 : W2.frozen? ⟨w.heap.size + 1, 2, none⟩ = false := H2.out.x4.free 2
          have q3 : W2.cell? ⟨w.heap.size + 1, 3, none⟩ = some (.slice none 0 0) := H2.out.x4.cell 3
          have r3 : W2.frozen? ⟨w.heap.size + 1, 3, none⟩ = false := H2.out.x4.free 3
          have HR : Hid (HeapIn base R tb (HeapPure.stepT (rankOf tb) xs 3 key) W2 ∧ Fr (Zh base R w) w W2 ∧ tellT xs 3 = (n, false)) := hid ⟨by rw [HT.out.2]; exact H2.out.heap, H2.out.fr, HT.out.1⟩
          have HE : Hid (w.heap.size + 1 < W2.heap.size ∧ R < w.heap.size ∧ base ≤ R ∧ Blk W2 (w.heap.size + 1) (F4 0 false) 34) := hid ⟨by have := H2.out.sz; omega, H2.out.lt, (let ⟨_, _, h⟩ := H2.out.heap; h.ge), H2.out.x4⟩
          clear HT H2
          go_wp2_with fail
          refine bodyPost_ret (v := .agg #[.int .i64 n, .bool false, .slice none 0 0, .slice none 0 0]) (by simp [results, Try.results43, go_sem, q0, q1, q2, q3]) rfl ?_
          have hF4 : Fr (· = w.heap.size + 1) W2 ((((W2.setCell ⟨w.heap.size + 1, 0, none⟩ (.int .i64 n)).setCell ⟨w.heap.size + 1, 1, none⟩ (.bool false)).setCell ⟨w.heap.size + 1, 2, none⟩ (.slice none 0 0)).setCell ⟨w.heap.size + 1, 3, none⟩ (.slice none 0 0)) := (((Fr.one).then Fr.one).then Fr.one).then Fr.one
          exact ⟨by rw [HR.out.2.2], heap_off HR.out.1 HE.out.2.2.2 hF4 HE.out.2.1 (Nat.le_of_lt HE.out.1), HR.out.2.1.trans hF4 (fun k hk e => by omega)⟩
        · have hz3 : (d == 3) = false := beq_eq_false_iff_ne.2 h3
          go_enter Try.func43, Try.ntmps43
          go_upto_region 2 with fail
          change Code.wp _ _ _ _ (((w.alloc (.cells #[.int .i64 o, .int .i64 d, .int .i64 key, .int .i64 val] 27)).alloc (.cells (F4 0 false) 34)).alloc (.cells (F4 0 false) 34))
          generalize ((w.alloc (.cells #[.int .i64 o, .int .i64 d, .int .i64 key, .int .i64 val] 27)).alloc (.cells (F4 0 false) 34)).alloc (.cells (F4 0 false) 34) = W at H0 HS ⊢
          have k1 : W.cell? ⟨w.heap.size, 1, none⟩ = some (.int .i64 d) := HS.out.cell 1
          have k2 : W.cell? ⟨w.heap.size, 2, none⟩ = some (.int .i64 key) := HS.out.cell 2
          have HT : Hid (tellT xs d = (0, false) ∧ HeapPure.stepT (rankOf tb) xs d key = xs) := hid ⟨by simp [tellT, h1, h2, h3], by simp [HeapPure.stepT, h0, h1]⟩
          go_upto_region 11 with fail
          clear k1 k2 HS
          have p0 : W.cell? ⟨w.heap.size + 2, 0, none⟩ = some (.int .i64 0) := H0.out.x5.cell 0
          have p1 : W.cell? ⟨w.heap.size + 2, 1, none⟩ = some (.bool false) := H0.out.x5.cell 1
          have p2 : W.cell? ⟨w.heap.size + 2, 2, none⟩ = some (.slice none 0 0) := H0.out.x5.cell 2
          have p3 : W.cell? ⟨w.heap.size + 2, 3, none⟩ = some (.slice none 0 0) := H0.out.x5.cell 3
          have q0 : W.cell? ⟨w.heap.size + 1, 0, none⟩ = some (.int .i64 0) := H0.out.x4.cell 0
          have r0 : W.frozen? ⟨w.heap.size + 1, 0, none⟩ = false := H0.out.x4.free 0
          have q1 : W.cell? ⟨w.heap.size + 1, 1, none⟩ = some (.bool false) := H0.out.x4.cell 1
          have r1 : W.frozen? ⟨w.heap.size + 1, 1, none⟩ = false := H0.out.x4.free 1
          have q2 : W.cell? ⟨w.heap.size + 1, 2, none⟩ = some (.slice none 0 0) := H0.out.x4.cell 2
          have r2 : W.frozen? ⟨w.heap.size + 1, 2, none⟩ = false := H0.out.x4.free 2
          have q3 : W.cell? ⟨w.heap.size + 1, 3, none⟩ = some (.slice none 0 0) := H0.out.x4.cell 3
          have r3 : W.frozen? ⟨w.heap.size + 1, 3, none⟩ = false := H0.out.x4.free 3
          have HR : Hid (HeapIn base R tb (HeapPure.stepT (rankOf tb) xs d key) W ∧ Fr (Zh base R w) w W ∧ tellT xs d = (0, false)) := hid ⟨by rw [HT.out.2]; exact H0.out.heap, H0.out.fr, HT.out.1⟩
          have HE : Hid (w.heap.size + 1 < W.heap.size ∧ R < w.heap.size ∧ base ≤ R ∧ Blk W (w.heap.size + 1) (F4 0 false) 34) := hid ⟨by have := H0.out.sz; omega, H0.out.lt, (let ⟨_, _, h⟩ := H0.out.heap; h.ge), H0.out.x4⟩
          clear HT H0
          go_wp2_with fail
          refine bodyPost_ret (v := .agg #[.int .i64 0, .bool false, .slice none 0 0, .slice none 0 0]) (by simp [results, Try.results43, go_sem, q0, q1, q2, q3]) rfl ?_
          have hF4 : Fr (· = w.heap.size + 1) W ((((W.setCell ⟨w.heap.size + 1, 0, none⟩ (.int .i64 0)).setCell ⟨w.heap.size + 1, 1, none⟩ (.bool false)).setCell ⟨w.heap.size + 1, 2, none⟩ (.slice none 0 0)).setCell ⟨w.heap.size + 1, 3, none⟩ (.slice none 0 0)) := (((Fr.one).then Fr.one).then Fr.one).then Fr.one
          exact ⟨by rw [HR.out.2.2], heap_off HR.out.1 HE.out.2.2.2 hF4 HE.out.2.1 (Nat.le_of_lt HE.out.1), HR.out.2.1.trans hF4 (fun k hk e => by omega)⟩
end Go.Proofs.Ytmhnhfmkcipcpaa.Heap
