/- Ropes in memory: what lies where, and which cells are whose. For every rope. -/
import Derived.Test.YtdlnpmbnedmmnaaProg
import Derived.Test.YtdlnpmbnedmmnaaWMore
import Derived.Test.YtdlnpmbnedmmnaaHk2
import Derived.Test.YtdlnpmbnedmmnaaRopePure
import Derived.Laws.IdiomCopy
namespace Go.Proofs.Ytdlnpmbnedmmnaa.Rope
open Go Go.RowKit Go.Proofs.Ytdlnpmbnedmmnaa.Hk Go.Proofs.Ytdlnpmbnedmmnaa.RopePure

/-- Cells: a block, and a place in it. -/
abbrev Zone := Nat → Nat → Prop
/-- Outside of the cells Z all that was there is as it was. -/
structure Fz (Z : Zone) (w w' : World) : Prop where
  os : w'.os = w.os
  tape : w'.tape = w.tape
  output : w'.output = w.output
  size : w.heap.size ≤ w'.heap.size
  cell : ∀ k o, k < w.heap.size → ¬ Z k o → w'.cell? ⟨k, o, none⟩ = w.cell? ⟨k, o, none⟩
  froz : ∀ k o, k < w.heap.size → w'.frozen? ⟨k, o, none⟩ = w.frozen? ⟨k, o, none⟩
  block : ∀ k, k < w.heap.size → (∀ o, ¬ Z k o) → w'.heap[k]? = w.heap[k]?
section
variable {Z Z' : Zone} {a b c w w' : World}
theorem Fz.refl (Z : Zone) (w : World) : Fz Z w w := ⟨rfl, rfl, rfl, Nat.le_refl _, fun _ _ _ _ => rfl, fun _ _ _ => rfl, fun _ _ _ => rfl⟩
theorem Fz.trans (h : Fz Z a b) (k : Fz Z' b c) (hs : ∀ n o, n < a.heap.size → Z' n o → Z n o) : Fz Z a c :=
  ⟨k.os.trans h.os, k.tape.trans h.tape, k.output.trans h.output, Nat.le_trans h.size k.size,
    fun i o hi hn => (k.cell i o (Nat.lt_of_lt_of_le hi h.size) (fun hk => hn (hs i o hi hk))).trans (h.cell i o hi hn),
    fun i o hi => (k.froz i o (Nat.lt_of_lt_of_le hi h.size)).trans (h.froz i o hi),
    fun i hi hn => (k.block i (Nat.lt_of_lt_of_le hi h.size) (fun o hk => hn o (hs i o hi hk))).trans (h.block i hi hn)⟩
theorem Fz.mono (h : Fz Z w w') (hs : ∀ n o, n < w.heap.size → Z n o → Z' n o) : Fz Z' w w' :=
  ⟨h.os, h.tape, h.output, h.size, fun k o hk hn => h.cell k o hk (fun hz => hn (hs k o hk hz)), h.froz, fun k hk hn => h.block k hk (fun o hz => hn o (hs k o hk hz))⟩
theorem cell_of_block {k o : Nat} (h : w'.heap[k]? = w.heap[k]?) : w'.cell? ⟨k, o, none⟩ = w.cell? ⟨k, o, none⟩ := by unfold World.cell?; rw [h]
theorem froz_of_block {k o : Nat} (h : w'.heap[k]? = w.heap[k]?) : w'.frozen? ⟨k, o, none⟩ = w.frozen? ⟨k, o, none⟩ := by unfold World.frozen?; rw [h]
theorem Fz.new (h : Below w.heap.size w w') : Fz Z w w' :=
  ⟨h.os, h.tape, h.output, h.size, fun k _ hk _ => cell_of_block (h.block k hk), fun k _ hk => froz_of_block (h.block k hk), fun k hk _ => h.block k hk⟩
theorem Fz.then_new (h : Fz Z a b) (k : Below b.heap.size b c) : Fz Z a c := h.trans (Z' := fun _ _ => False) (Fz.new k) (fun _ _ _ e => e.elim)
theorem Fz.drew (h : Fz Z a w) : Fz Z a w.drew := ⟨h.os, h.tape, h.output, h.size, h.cell, h.froz, h.block⟩
theorem Fz.drewN (h : Fz Z a w) (n : Nat) : Fz Z a (w.drewN n) := ⟨h.os, h.tape, h.output, h.size, h.cell, h.froz, h.block⟩
theorem Fz.alloc (h : Fz Z a w) (o : Obj) : Fz Z a (w.alloc o) := h.then_new ⟨rfl, rfl, rfl, by simp, fun k hk => Below.heap_alloc _ _ _ hk⟩
theorem froz_set (w : World) (p : Addr) (v : Value) (k o : Nat) : (w.setCell p v).frozen? ⟨k, o, none⟩ = w.frozen? ⟨k, o, none⟩ := by
  unfold World.frozen? World.setCell
  by_cases e : p.block = k
  · subst e
    simp only [Array.getElem?_modify, if_true]
    cases w.heap[p.block]? with
    | none => rfl
    | some x => cases x <;> rfl
  · simp only [Array.getElem?_modify, if_neg e]
theorem Fz.one {b i : Nat} {v : Value} : Fz (fun k o => k = b ∧ o = i) w (w.setCell ⟨b, i, none⟩ v) :=
  ⟨rfl, rfl, rfl, by simp [World.setCell], fun k o _ hn => World.cell?_setCell_other _ _ _ _ (fun e => hn (by injection e with e1 e2; exact ⟨e1.symm, e2.symm⟩)), fun k o _ => froz_set _ _ _ _ _,
    fun k _ hn => Below.heap_setCell _ _ _ _ (fun e => hn i ⟨e, rfl⟩)⟩
theorem Fz.cells {b : Nat} : ∀ (vs : List Value) (i : Nat) (w : World), Fz (fun k o => k = b ∧ i ≤ o ∧ o < i + vs.length) w (w.setCells b i vs)
  | [], _, w => Fz.refl _ w
  | v :: vs, i, w => by
    have h1 : Fz (fun k o => k = b ∧ o = i) w (w.setCell ⟨b, i, none⟩ v) := Fz.one
    have h2 := Fz.cells (b := b) vs (i + 1) (w.setCell ⟨b, i, none⟩ v)
    refine (h1.mono (fun n o _ e => ⟨e.1, by omega, by simp; omega⟩)).trans h2 (fun n o _ e => ⟨e.1, by omega, by have := e.2.2; simp only [List.length_cons]; omega⟩)
theorem Fz.fr {S : Nat → Prop} (h : Fr S w w') (hf : ∀ k o, k < w.heap.size → S k → w'.frozen? ⟨k, o, none⟩ = w.frozen? ⟨k, o, none⟩) : Fz (fun k _ => S k) w w' :=
  ⟨h.os, h.tape, h.output, h.size, fun k o hk hn => cell_of_block (h.block k hk hn), fun k o hk => by
    by_cases e : S k
    · exact hf k o hk e
    · exact froz_of_block (h.block k hk e), fun k hk hn => h.block k hk (hn 0)⟩
/-- A frame whose cells are all in blocks from 'base' on. -/
theorem Fz.below (h : Fz Z w w') {base : Nat} (hb : base ≤ w.heap.size) (hZ : ∀ k o, Z k o → base ≤ k) : Below base w w' :=
  ⟨h.os, h.tape, h.output, h.size, fun k hk => h.block k (by omega) (fun o hz => by have := hZ k o hz; omega)⟩
end

/-- The cells of a row, up to its capacity. -/
def dz (A : Option Addr) (c : Nat) : Zone := fun k o => ∃ q, A = some ⟨k, q, none⟩ ∧ q ≤ o ∧ o < q + c
/-- A row of numbers that may be written: its cells up to the capacity are there, none of them frozen. -/
structure Seg (w : World) (A : Option Addr) (c : Nat) (xs : List Int) : Prop where
  le : xs.length ≤ c
  spot : ∀ ad, A = some ad → ∃ b q, ad = ⟨b, q, none⟩
  at_ : 0 < c → ∃ b q, A = some ⟨b, q, none⟩ ∧ ∀ i, i < c → w.frozen? ⟨b, q + i, none⟩ = false ∧ ∃ v : Value, w.cell? ⟨b, q + i, none⟩ = some v ∧ (∀ x, xs[i]? = some x → v = .int .i64 x)
section
variable {w w' : World} {A : Option Addr} {c : Nat} {xs : List Int} {Z : Zone}
theorem Seg.lt (h : Seg w A c xs) {k o : Nat} (hz : dz A c k o) : k < w.heap.size := by
  obtain ⟨q, e, h1, h2⟩ := hz
  obtain ⟨b, q', e', hc⟩ := h.at_ (by omega)
  rw [e] at e'
  injection e' with e'; injection e' with e1 e2
  subst e1 e2
  obtain ⟨_, v, hv, _⟩ := hc (o - q) (by omega)
  exact World.block_lt_of_cell? _ _ hv
theorem Seg.fz (h : Seg w A c xs) (hf : Fz Z w w') (hd : ∀ k o, dz A c k o → ¬ Z k o) : Seg w' A c xs :=
  ⟨h.le, h.spot, fun hc => by
    obtain ⟨b, q, e, hi⟩ := h.at_ hc
    refine ⟨b, q, e, fun i hi' => ?_⟩
    obtain ⟨f, v, hv, hx⟩ := hi i hi'
    have hz : dz A c b (q + i) := ⟨q, e, by omega, by omega⟩
    have hlt := World.block_lt_of_cell? _ _ hv
    exact ⟨(hf.froz b (q + i) hlt).trans f, v, (hf.cell b (q + i) hlt (hd _ _ hz)).trans hv, hx⟩⟩
theorem Seg.below (h : Seg w A c xs) (hB : Below w.heap.size w w') : Seg w' A c xs := h.fz (Fz.new (Z := fun _ _ => False) hB) (fun _ _ _ e => e)
theorem Seg.empty (w : World) (A : Option Addr) (hA : ∀ ad, A = some ad → ∃ b q, ad = ⟨b, q, none⟩) : Seg w A 0 [] := ⟨Nat.le_refl _, hA, fun h => absurd h (by omega)⟩
/-- Less room, or fewer elements. -/
theorem Seg.cut (h : Seg w A c xs) {n : Nat} (hn : n ≤ c) (hx : xs.length ≤ n) : Seg w A n xs :=
  ⟨hx, h.spot, fun h0 => by
    obtain ⟨b, q, e, hi⟩ := h.at_ (by omega)
    exact ⟨b, q, e, fun i hi' => hi i (by omega)⟩⟩
theorem Seg.take (h : Seg w A c xs) (n : Nat) : Seg w A c (xs.take n) :=
  ⟨by rw [List.length_take]; have := h.le; omega, h.spot, fun h0 => by
    obtain ⟨b, q, e, hi⟩ := h.at_ h0
    refine ⟨b, q, e, fun i hi' => ?_⟩
    obtain ⟨f, v, hv, hx⟩ := hi i hi'
    refine ⟨f, v, hv, fun x e => hx x ?_⟩
    rw [List.getElem?_take] at e
    split at e
    · exact e
    · cases e⟩
theorem Seg.drop (h : Seg w A c xs) {b q n : Nat} (e : A = some ⟨b, q, none⟩) (hn : n ≤ xs.length) : Seg w (some ⟨b, q + n, none⟩) (c - n) (xs.drop n) :=
  ⟨by rw [List.length_drop]; have := h.le; omega, fun ad e => ⟨b, q + n, (Option.some.inj e).symm⟩, fun h0 => by
    obtain ⟨b', q', e', hi⟩ := h.at_ (by omega)
    rw [e] at e'
    injection e' with e'; injection e' with e1 e2
    subst e1 e2
    refine ⟨b, q + n, rfl, fun i hi' => ?_⟩
    obtain ⟨f, v, hv, hx⟩ := hi (n + i) (by omega)
    rw [← Nat.add_assoc] at hv f
    exact ⟨f, v, hv, fun x e => hx x (by rw [List.getElem?_drop] at e; exact e)⟩⟩
theorem Seg.reads (h : Seg w A c xs) : 0 < xs.length → ∃ b q, A = some ⟨b, q, none⟩ ∧ ∀ (i : Nat) (x : Int), xs[i]? = some x → w.cell? ⟨b, q + i, none⟩ = some (.int .i64 x) := fun h0 => by
  have hle := h.le
  obtain ⟨b, q, e, hi⟩ := h.at_ (by omega)
  refine ⟨b, q, e, fun i x hx => ?_⟩
  have hlt : i < xs.length := (List.getElem?_eq_some_iff.1 hx).1
  obtain ⟨_, v, hv, hvx⟩ := hi i (by omega)
  rw [hv, hvx x hx]
end

/-- A rope with the blocks in which its nodes, and its elements, lie. -/
inductive N where
  | leaf (b : Nat) (A : Option Addr) (c : Nat) (xs : List Int)
  | node (b : Nat) (l r : N)
def N.blk : N → Nat
  | .leaf b _ _ _ => b
  | .node b _ _ => b
def N.ptr (t : N) : Value := .pointer (some ⟨t.blk, 0, none⟩)
def N.raw : N → T
  | .leaf _ _ _ xs => .leaf xs
  | .node _ l r => .node l.raw r.raw
abbrev N.len (t : N) : Nat := t.raw.len
def N.own : N → Zone
  | .leaf b A c _ => fun k o => k = b ∨ dz A c k o
  | .node b l r => fun k o => k = b ∨ l.own k o ∨ r.own k o
abbrev leafC (A : Option Addr) (c n : Nat) : Array Value := #[.int .u8 0, .slice A n c, .int .i64 (n : Int), .pointer none, .pointer none]
abbrev nodeC (n : Nat) (l r : Value) : Array Value := #[.int .u8 1, .slice none 0 0, .int .i64 (n : Int), l, r]
def N.In (w : World) : N → Prop
  | .leaf b A c xs => Blk w b (leafC A c xs.length) 60 ∧ Seg w A c xs ∧ (∀ o, ¬ dz A c b o)
  | .node b l r => Blk w b (nodeC (l.len + r.len) l.ptr r.ptr) 60 ∧ l.In w ∧ r.In w ∧ (∀ o, ¬ l.own b o) ∧ (∀ o, ¬ r.own b o) ∧ (∀ k o, l.own k o → ¬ r.own k o)
section
variable {w w' : World} {Z : Zone}
theorem N.own_blk (t : N) (o : Nat) : t.own t.blk o := by cases t <;> exact .inl rfl
theorem N.In.lt : ∀ {t : N}, t.In w → ∀ k o, t.own k o → k < w.heap.size
  | .leaf _ _ _ _, ⟨h1, h2, _⟩, k, o, h => by
    rcases h with e | h
    · rw [e]; exact h1.lt
    · exact h2.lt h
  | .node _ _ _, ⟨h1, h2, h3, _⟩, k, o, h => by
    rcases h with e | h | h
    · rw [e]; exact h1.lt
    · exact N.In.lt h2 k o h
    · exact N.In.lt h3 k o h
theorem blk_fz {b : Nat} {cs : Array Value} {t : TypeId} (h : Blk w b cs t) (hf : Fz Z w w') (hn : ∀ o, ¬ Z b o) : Blk w' b cs t := (hf.block b h.lt hn).trans h
theorem N.In.fz (hf : Fz Z w w') : ∀ {t : N}, t.In w → (∀ k o, t.own k o → ¬ Z k o) → t.In w'
  | .leaf _ _ _ _, ⟨h1, h2, h3⟩, hn => ⟨blk_fz h1 hf (fun o => hn _ o (.inl rfl)), h2.fz hf (fun k o hz => hn k o (.inr hz)), h3⟩
  | .node _ _ _, ⟨h1, h2, h3, h4⟩, hn => ⟨blk_fz h1 hf (fun o => hn _ o (.inl rfl)), N.In.fz hf h2 (fun k o hz => hn k o (.inr (.inl hz))), N.In.fz hf h3 (fun k o hz => hn k o (.inr (.inr hz))), h4⟩
theorem N.In.below {t : N} (h : t.In w) (hB : Below w.heap.size w w') : t.In w' := h.fz (Fz.new (Z := fun _ _ => False) hB) (fun _ _ _ e => e)
theorem N.In.far {t : N} (h : t.In w) {k o : Nat} (hk : w.heap.size ≤ k) : ¬ t.own k o := fun e => by have := h.lt k o e; omega
end
/-- A row that the call itself has made. -/
theorem Seg.owned {w : World} {base n : Nat} {v : Value} {xs : List Int} (h : w.ownsRow base 3 1 v n (xs.map (Value.int .i64))) : ∃ A c, v = .slice A n c ∧ Seg w A c xs ∧ (∀ k o, dz A c k o → base ≤ k ∧ v.ownBlock = some k) ∧ n = xs.length := by
  have hl : n = xs.length := by have := h.1; rw [List.length_map] at this; omega
  rcases h.2 with ⟨e1, e2⟩ | ⟨g, cap, cur, e, h1, h2, h3, _, h4, h5⟩
  · refine ⟨none, 0, by rw [e1, e2], ?_, fun k o hz => ?_, hl⟩
    · have : xs = [] := List.eq_nil_of_length_eq_zero (by omega)
      rw [this]
      exact Seg.empty _ _ (fun ad e => by cases e)
    · obtain ⟨q, e, _⟩ := hz
      cases e
  · refine ⟨some ⟨g, 0, none⟩, cap, e, ⟨by omega, fun ad e => ⟨g, 0, (Option.some.inj e).symm⟩, fun _ => ⟨g, 0, rfl, fun i hi => ?_⟩⟩, fun k o hz => ?_, hl⟩
    · have hb : Blk w g cur 3 := h2
      refine ⟨hb.free _, cur[0 + i]'(by omega), ?_, fun x hx => ?_⟩
      · rw [hb.cell, Array.getElem?_eq_getElem]
      · have hi2 : i < xs.length := (List.getElem?_eq_some_iff.1 hx).1
        have h6 : (cur.toList.take (n * 1))[i]? = some (Value.int .i64 x) := by rw [h5, List.getElem?_map, hx]; rfl
        rw [List.getElem?_take_of_lt (by omega), Array.getElem?_toList, Array.getElem?_eq_getElem (by omega)] at h6
        have := Option.some.inj h6
        rw [← this]
        congr 1
        omega
    · obtain ⟨q, e', _⟩ := hz
      injection e' with e'; injection e' with e1 e2
      subst e1
      exact ⟨h1, by rw [e]; rfl⟩
end Go.Proofs.Ytdlnpmbnedmmnaa.Rope
