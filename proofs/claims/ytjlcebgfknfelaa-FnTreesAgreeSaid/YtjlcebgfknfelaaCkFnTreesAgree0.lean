/- What the law's row stands on, part 0: contracts of functions, for the arguments and worlds that each one names. -/
import Derived.Below
import Derived.Deep.Draws
import Derived.Deep.AppendLies
import Derived.Maps.AppendAt
import Derived.OwnWalk
import Derived.Laws.BytesArg
import Derived.Laws.MakeOwn
import Derived.Laws.OwnMore
import Derived.Deep.OwnRows
import Derived.Tactics
import Derived.Lib.ConvBytes
import Derived.Laws.Slices
import Derived.WalkKit
import Derived.KernelRfl
import Derived.RowKit3
import Derived.Deep.LoopGhost
import Derived.Deep.QuietTactic
import Derived.BigQuiet
import Derived.WideLaws
import Derived.Deep.DeepCutAuto
import Derived.Deep.CutBlock
import Derived.Deep.RegionHeld3
import Derived.Laws.Rows
import Derived.Lib.AppendStr
import Derived.ArgAppend
import Derived.Laws.IdiomCopy
import Derived.RowKit
import Derived.OrdersHeld
import Derived.Laws.BitsLemmas
import Derived.Laws.StructEq
import Derived.Test.YtjlcebgfknfelaaProg
import Derived.Laws.Cover1
import Derived.OneCell
import Derived.Laws.World
import Derived.StillTailTactics
-- PRINTED BY print.sh 35421559b90ae4d0a3588c463048766b98c2df88dd9212a6774a882060cdf62d: not written by this session
-- PRINTED WORDS (module Derived/Print/Words.lean): go-wishes' parts 1 to 38 and go-gate-2's additions: AI agents of Go's test side, Mon Nov 16 2026; no person has read them. Plain theorems and definitions: no macro, no elab, no axiom.
set_option linter.unusedVariables false
set_option linter.unusedSimpArgs false
namespace Go.Proofs.YtjlcebgfknfelaaW.PrintWords
open Go.RowKit
/-- A fact that the walk's simp doesn't look into. -/
structure Aside0 (p : Prop) : Prop where mk :: (out : p)
/-- The world is the old one, some orders having been drawn. -/
structure Drawn0 (w w' : World) : Prop where mk :: (out : ∃ n, w' = w.drewN n)
theorem Drawn0.refl (w : World) : Drawn0 w w := ⟨⟨0, rfl⟩⟩
theorem Drawn0.step {w w' : World} (h : Drawn0 w w') (n : Nat) : Drawn0 w (w'.drewN n) := by
  obtain ⟨m, rfl⟩ := h
  exact ⟨⟨m + n, World.drewN_drewN ..⟩⟩
theorem Drawn0.grown {w w' : World} (h : Drawn0 w w') : Grown w w' := by
  obtain ⟨n, rfl⟩ := h
  induction n with
  | zero => exact Grown.refl _
  | succ n ih => rw [← World.drew_drewN]; exact Grown.drew ih
theorem Drawn0.below {w w' : World} (h : Drawn0 w w') : Below w.heap.size w w' := by
  obtain ⟨n, rfl⟩ := h
  induction n with
  | zero => exact Below.refl _ _
  | succ n ih => rw [← World.drew_drewN]; exact ih.drew
def rd (xs : List Int) (i : Int) : Int := xs.getD i.toNat 0
theorem below_alloc {w W : World} (h : Below w.heap.size w W) (o : Obj) : Below w.heap.size w (W.alloc o) := h.alloc h.size o
theorem below_drew {B : Nat} {w W : World} (h : Below B w W) : Below B w W.drew := ⟨h.os, h.tape, h.output, h.size, h.block⟩
theorem pw_below_drewN {B : Nat} {w W : World} (h : Below B w W) (n : Nat) : Below B w (W.drewN n) := ⟨h.os, h.tape, h.output, h.size, h.block⟩
theorem below_then {B : Nat} {w w1 w2 : World} (h : Below B w w1) (hB : B ≤ w1.heap.size) (k : Below w1.heap.size w1 w2) : Below B w w2 :=
  h.trans ⟨k.os, k.tape, k.output, k.size, fun i hi => k.block i (Nat.lt_of_lt_of_le hi hB)⟩
theorem grown_of_below {w w1 : World} (h : Below w.heap.size w w1) (row : Option Nat) : w.grownBy w1 row := ⟨h.os, h.tape, h.output, h.size, fun i hi _ => h.block i hi⟩
theorem pw_cell_below {w w1 : World} (h : Below w.heap.size w w1) {a : Addr} {v : Value} (hc : w.cell? a = some v) : w1.cell? a = some v := (h.cell (World.block_lt_of_cell? w a hc)).trans hc
def ReadsInt (w : World) (k : IntKind) (A : Option Addr) (n : Nat) (xs : List Int) : Prop :=
  xs.length = n ∧ n ≤ 9223372036854775807 ∧ (0 < n → ∃ ad, A = some ad ∧ ∀ j, j < n → w.cell? (ad.add j) = some (.int k (xs.getD j 0)))
theorem ReadsInt.at_ {w : World} {k : IntKind} {A : Option Addr} {n : Nat} {xs : List Int} (h : ReadsInt w k A n xs) (i : Int) (h0 : 0 ≤ i) (h1 : i < n) : ∃ ad, A = some ad ∧ w.cell? (ad.add i.toNat) = some (.int k (rd xs i)) := by
  obtain ⟨ad, e, hc⟩ := h.2.2 (by omega)
  exact ⟨ad, e, hc _ (by omega)⟩
theorem ReadsInt.below {w w1 : World} {k : IntKind} {A : Option Addr} {n : Nat} {xs : List Int} (h : ReadsInt w k A n xs) (hb : Below w.heap.size w w1) : ReadsInt w1 k A n xs :=
  ⟨h.1, h.2.1, fun hn => by
    obtain ⟨ad, e, hc⟩ := h.2.2 hn
    exact ⟨ad, e, fun j hj => pw_cell_below hb (hc j hj)⟩⟩
theorem own_nil (W : World) (base : Nat) (e : TypeId) (size : Nat) : W.ownsRow base e size (.slice none 0 0) 0 [] := ⟨by simp, .inl ⟨rfl, rfl⟩⟩
theorem own_base {w : World} {base : Nat} {e : TypeId} {size n : Nat} {v : Value} {xs : List Value} (h : w.ownsRow base e size v n xs) (k : Nat) (hk : v.ownBlock = some k) : base ≤ k := by
  rcases h.2 with ⟨rfl, _⟩ | ⟨g, cap, cur, rfl, hb, _⟩
  · simp [Value.ownBlock] at hk
  · have : g = k := by simpa [Value.ownBlock] using hk
    omega
theorem own_lt {w : World} {base : Nat} {e : TypeId} {size n : Nat} {v : Value} {xs : List Value} (h : w.ownsRow base e size v n xs) (k : Nat) (hk : v.ownBlock = some k) : k < w.heap.size := by
  rcases h.2 with ⟨rfl, _⟩ | ⟨g, cap, cur, rfl, hb, hh, _⟩
  · simp [Value.ownBlock] at hk
  · have : g = k := by simpa [Value.ownBlock] using hk
    subst this
    exact (Array.getElem?_eq_some_iff.1 hh).1
theorem pw_own_below {w w1 : World} {base : Nat} {e : TypeId} {size n : Nat} {v : Value} {xs : List Value} (h : w.ownsRow base e size v n xs) (hb : Below w.heap.size w w1) : w1.ownsRow base e size v n xs :=
  h.kept (grown_of_below hb none) (by cases v.ownBlock <;> simp)
/-- What is written is another row: this one lives on. -/
theorem own_other {w w1 : World} {base : Nat} {e : TypeId} {size n : Nat} {v : Value} {xs : List Value} (h : w.ownsRow base e size v n xs) {row : Option Nat} (hg : w.grownBy w1 row) (hne : v.ownBlock = none ∨ v.ownBlock ≠ row) : w1.ownsRow base e size v n xs := h.kept hg hne
section
variable {P : Program} {ops : Array Oper} {rest : List Oper} {o : Oper} {a : Act} {Q : Exit → Act → World → Prop}
end
section
variable {P : Program}
end
section
variable {P : Program} {ops : Array Oper} {rest : List Oper} {o : Oper} {a : Act} {Q : Exit → Act → World → Prop}
end
/-- 'xs[:k]' and 'xs[k:]' of a slice that is read; the address of the second as_ the walk has it. -/
theorem ReadsInt.take_ {w : World} {k : IntKind} {A : Option Addr} {n : Nat} {xs : List Int} (h : ReadsInt w k A n xs) (i : Nat) (hi : i ≤ n) : ReadsInt w k A i (xs.take i) := by
  refine ⟨by rw [List.length_take, h.1]; omega, by have := h.2.1; omega, fun hp => ?_⟩
  obtain ⟨ad, e, hc⟩ := h.2.2 (by omega)
  refine ⟨ad, e, fun j hj => ?_⟩
  rw [hc j (by omega)]
  simp [List.getD_eq_getElem?_getD, hj]
/-- Where the first answers, the second answers the same. -/
def LeO {α : Type} (a b : Option α) : Prop := ∀ r, a = some r → b = some r
theorem LeO.refl {α : Type} (a : Option α) : LeO a a := fun _ h => h
theorem LeO.none {α : Type} (b : Option α) : LeO Option.none b := fun _ h => by cases h
theorem LeO.trans {α : Type} {a b c : Option α} (h : LeO a b) (k : LeO b c) : LeO a c := fun r hr => k r (h r hr)
theorem LeO.bind {α β : Type} {a a' : Option α} {f f' : α → Option β} (h : LeO a a') (k : ∀ x, LeO (f x) (f' x)) : LeO (a.bind f) (a'.bind f') := by
  intro r hr
  obtain ⟨x, hx, hf⟩ := Option.bind_eq_some_iff.1 hr
  exact Option.bind_eq_some_iff.2 ⟨x, h x hx, k x r hf⟩
theorem LeO.map {α β : Type} {a a' : Option α} (f : α → β) (h : LeO a a') : LeO (a.map f) (a'.map f) := by
  intro r hr
  obtain ⟨x, hx, hf⟩ := Option.map_eq_some_iff.1 hr
  exact Option.map_eq_some_iff.2 ⟨x, h x hx, hf⟩
theorem more_rounds {α : Type} {g : Nat → Option α} (h : ∀ k, LeO (g k) (g (k + 1))) (k : Nat) : ∀ j, LeO (g k) (g (k + j))
  | 0 => LeO.refl _
  | j + 1 => (more_rounds h k j).trans (h (k + j))
theorem at_rounds {α : Type} {g : Nat → Option α} (h : ∀ k, LeO (g k) (g (k + 1))) {k k' : Nat} (hk : k ≤ k') {r : α} (hr : g k = some r) : g k' = some r := by
  have := more_rounds h k (k' - k) r hr
  rwa [Nat.add_sub_cancel' hk] at this
def Reps {α : Type} (R : α → List Value → Prop) (size : Nat) (ps : List α) (cs : List Value) : Prop :=
  cs.length = ps.length * size ∧ ∀ j p, ps[j]? = some p → R p ((cs.drop (j * size)).take size)
theorem Reps.none {α : Type} (R : α → List Value → Prop) (size : Nat) : Reps R size [] [] := ⟨by simp, fun j p h => by simp at h⟩
theorem Reps.snoc {α : Type} {R : α → List Value → Prop} {size : Nat} {ps : List α} {cs c : List Value} {p : α} (h : Reps R size ps cs) (hp : R p c) (hc : c.length = size) : Reps R size (ps ++ [p]) (cs ++ c) := by
  refine ⟨by rw [List.length_append, h.1, hc, List.length_append, List.length_singleton, Nat.add_mul, Nat.one_mul], fun j q hq => ?_⟩
  rcases Nat.lt_or_ge j ps.length with hj | hj
  · rw [List.getElem?_append_left hj] at hq
    have h1 : j * size + size ≤ cs.length := by rw [h.1, ← Nat.succ_mul]; exact Nat.mul_le_mul_right _ hj
    have h2 := h.2 j q hq
    rw [List.drop_append_of_le_length (by omega), List.take_append_of_le_length (by rw [List.length_drop]; omega)]
    exact h2
  · have hj' : j = ps.length := by
      have := (List.getElem?_eq_some_iff.1 hq).1
      rw [List.length_append, List.length_singleton] at this
      omega
    subst hj'
    have hq' : p = q := by simpa using hq
    subst hq'
    rw [← h.1, List.drop_left, ← hc, List.take_length]
    exact hp
theorem Reps.imp_ {α : Type} {R R' : α → List Value → Prop} {size : Nat} {ps : List α} {cs : List Value} (h : Reps R size ps cs) (hR : ∀ p c, R p c → R' p c) : Reps R' size ps cs := ⟨h.1, fun j p hj => hR _ _ (h.2 j p hj)⟩
def ReadsRow {α : Type} (R : α → List Value → Prop) (size : Nat) (w : World) (A : Option Addr) (n : Nat) (ps : List α) : Prop :=
  ps.length = n ∧ n ≤ 9223372036854775807 ∧ (0 < n → ∃ ad, A = some ad ∧ ∀ j p, ps[j]? = some p → ∃ c, c.length = size ∧ R p c ∧ ∀ i u, c[i]? = some u → w.cell? (ad.add (j * size + i)) = some u)
theorem ReadsRow.get_ {α : Type} {R : α → List Value → Prop} {size : Nat} {w : World} {A : Option Addr} {n : Nat} {ps : List α} (h : ReadsRow R size w A n ps) (d : α) (i : Int) (h0 : 0 ≤ i) (h1 : i < n) :
    ∃ ad c, A = some ad ∧ c.length = size ∧ R (ps.getD i.toNat d) c ∧ ∀ j u, c[j]? = some u → w.cell? (ad.add (i.toNat * size + j)) = some u := by
  obtain ⟨ad, e, hc⟩ := h.2.2 (by omega)
  have hl : i.toNat < ps.length := by have := h.1; omega
  obtain ⟨c, hs, hr, hcell⟩ := hc i.toNat _ (List.getElem?_eq_getElem hl)
  refine ⟨ad, c, e, hs, ?_, hcell⟩
  rw [List.getD_eq_getElem?_getD, List.getElem?_eq_getElem hl]
  exact hr
theorem ReadsRow.imp_ {α : Type} {R R' : α → List Value → Prop} {size : Nat} {w w1 : World} {A : Option Addr} {n : Nat} {ps : List α} (h : ReadsRow R size w A n ps) (hb : Below w.heap.size w w1) (hR : ∀ p c, R p c → R' p c) : ReadsRow R' size w1 A n ps :=
  ⟨h.1, h.2.1, fun hn => by
    obtain ⟨ad, e, hc⟩ := h.2.2 hn
    refine ⟨ad, e, fun j p hj => ?_⟩
    obtain ⟨c, hs, hr, hcell⟩ := hc j p hj
    exact ⟨c, hs, hR _ _ hr, fun i u hu => pw_cell_below hb (hcell i u hu)⟩⟩
theorem own_reads_row {α : Type} {R : α → List Value → Prop} {w : World} {base n size : Nat} {e : TypeId} {v : Value} {ps : List α} {cs : List Value} (h : w.ownsRow base e size v n cs) (hR : Reps R size ps cs) (hn : ps.length = n) :
    ∃ A c, v = .slice A n c ∧ ReadsRow R size w A n ps := by
  rcases Nat.eq_zero_or_pos n with h0 | h0
  · rcases h.2 with ⟨rfl, rfl⟩ | ⟨g, cap, cur, rfl, _⟩
    · exact ⟨none, 0, rfl, hn, by omega, fun hp => absurd hp (by omega)⟩
    · exact ⟨_, cap, rfl, hn, by omega, fun hp => absurd hp (by omega)⟩
  · obtain ⟨g, cap, rfl, _, _⟩ := h.form h0
    have hm : n ≤ 9223372036854775807 := by
      rcases h.2 with ⟨_, h1⟩ | ⟨g', cap', cur, he, _, _, h1, h2, _⟩
      · omega
      · simp only [maxLen] at h2
        omega
    refine ⟨_, cap, rfl, hn, hm, fun _ => ⟨_, rfl, fun j p hj => ⟨(cs.drop (j * size)).take size, ?_, hR.2 j p hj, fun i u hu => ?_⟩⟩⟩
    · have hjl := (List.getElem?_eq_some_iff.1 hj).1
      have h1 : j * size + size ≤ cs.length := by rw [hR.1, ← Nat.succ_mul]; exact Nat.mul_le_mul_right _ hjl
      rw [List.length_take, List.length_drop]
      omega
    · refine h.cells (g := g) rfl _ u ?_
      rw [List.getElem?_take] at hu
      split at hu
      · rw [List.getElem?_drop] at hu
        exact hu
      · cases hu
/-- A field's address as_ the walk spells it. -/
theorem add_field (ad : Addr) (m j : Nat) (hj : 0 < j) : ad.add (m + j) = ⟨(ad.add m).block, (ad.add m).off + j, none⟩ := by
  unfold Addr.add
  by_cases hm : m = 0
  · subst hm
    simp [Nat.ne_of_gt hj]
  · simp [hm, Nat.add_assoc]
section
variable {P : Program} {ops : Array Oper} {rest : List Oper} {o : Oper} {a : Act} {Q : Exit → Act → World → Prop}
/-- append(v, x), x of several cells; behind 'at_builtin'; the goal's world is 'W.alloc' of the variadic's box. -/
theorem print_append_cells {w0 W : World} (base : Nat) (hgd : o.guard = none) (s x : Operand) (t e : TypeId) (z : Value) (size bytes : Nat)
    (ho : o.op = .call { callee := .builtin .append, args := #[s, x], argTypes := #[t, t] })
    (ht : P.underlying t = some (.slice e)) (hinfo : (P.info? e).map (fun i => (i.zero, i.size, i.bytes)) = some (some z, size, bytes)) (hz : z.cells.size = size) (hs0 : 0 < size) (hb0 : 0 < bytes)
    (v : Value) (n : Nat) (xs ys : List Value) (hs : a.eval s = v) (hx : a.eval x = .slice (some ⟨W.heap.size, 0, none⟩) 1 1) (hys : ys.length = size) (h1 : ∀ u ∈ ys, u.oneCell' = true)
    (HO : W.ownsRow base e size v n xs) (HB : Below base w0 W) (hbase : base ≤ W.heap.size) (hl : (n + 1) * bytes ≤ 140737488355328)
    (h : ∀ v1 w1, w1.ownsRow base e size v1 (n + 1) (xs ++ ys) → Below base w0 w1 → W.grownBy w1 v.ownBlock → (v1.ownBlock = v.ownBlock ∨ ∃ b, v1.ownBlock = some b ∧ W.heap.size ≤ b) → wpList P ops Q rest (a.put o.dst v1) w1) :
    wpList P ops Q (o :: rest) a (W.alloc (.cells ys.toArray e)) := by
  obtain ⟨i0, hi, hzz⟩ := Option.map_eq_some_iff.1 hinfo
  simp only [Prod.mk.injEq] at hzz
  obtain ⟨hz0, hz1, hz2⟩ := hzz
  have hlen : n + 1 ≤ 140737488355328 := Nat.le_trans (Nat.le_mul_of_pos_right _ hb0) hl
  refine wpList_append_own_at (W.alloc (.cells ys.toArray e)) hgd s x t ho base e i0 z size bytes ht hi hz0 hz1 hz2 hz hs0 v n xs hs (HO.alloc _) ⟨W.heap.size, 0, none⟩ 1 1 ys hx (by rw [hys]; simp)
    (by simpa using World.news_of_block (cs := ys.toArray) (t := e) (fr := (0, 0)) (heap_alloc_new W (.cells ys.toArray e))) h1 (by simp only [maxLen]; omega) hl (by simp; omega) ?_
  intro v1 w1 hown hg _ hat
  refine h v1 w1 hown ((HB.alloc hbase _).grown hg (by simp; omega) (own_base HO)) (World.grownBy.trans (World.grownBy_alloc W _ _) hg) ?_
  rcases hat with hat | hat
  · exact .inl hat
  · exact .inr ⟨_, hat, by simp⟩
end
theorem blk_set {w : World} {g : Nat} {t : TypeId} {cs : Array Value} (h : w.heap[g]? = some (.cells cs t (0, 0))) (i : Nat) (u : Value) : (w.setCell ⟨g, i, none⟩ u).heap[g]? = some (.cells (cs.setIfInBounds i u) t (0, 0)) := by
  simp [World.setCell, Array.getElem?_modify, h]
theorem blk_lt {w : World} {g : Nat} {o : Obj} (h : w.heap[g]? = some o) : g < w.heap.size := (Array.getElem?_eq_some_iff.1 h).1
theorem blk_cell {w : World} {g : Nat} {t : TypeId} {cs : Array Value} (h : w.heap[g]? = some (.cells cs t (0, 0))) (i : Nat) : w.cell? ⟨g, i, none⟩ = cs[i]? := cell_of_row w g i cs t (0, 0) h
theorem blk_frozen {w : World} {g : Nat} {t : TypeId} {cs : Array Value} (h : w.heap[g]? = some (.cells cs t (0, 0))) (i : Nat) : w.frozen? ⟨g, i, none⟩ = false := by simp [World.frozen?, h]
theorem blk_ne {w : World} {g g' : Nat} {t t' : TypeId} {cs cs' : Array Value} (h : w.heap[g]? = some (.cells cs t (0, 0))) (h' : w.heap[g']? = some (.cells cs' t' (0, 0))) (hne : t ≠ t') : g ≠ g' := by
  rintro rfl
  rw [h] at h'
  injection h' with h'
  injection h' with _ ht
  exact hne ht
def KeepBut (w w' : World) (g : Nat) (row : Option Nat) : Prop := w.heap.size ≤ w'.heap.size ∧ ∀ i, i < w.heap.size → i ≠ g → some i ≠ row → w'.heap[i]? = w.heap[i]?
theorem KeepBut.refl (w : World) (g : Nat) (row : Option Nat) : KeepBut w w g row := ⟨Nat.le_refl _, fun _ _ _ _ => rfl⟩
theorem KeepBut.of_grown {w w1 : World} {row : Option Nat} (h : w.grownBy w1 row) (g : Nat) : KeepBut w w1 g row := ⟨h.size, fun i hi _ hr => h.block i hi hr⟩
theorem KeepBut.of_below {w w1 : World} (h : Below w.heap.size w w1) (g : Nat) (row : Option Nat) : KeepBut w w1 g row := ⟨h.size, fun i hi _ _ => h.block i hi⟩
theorem KeepBut.trans {w w1 w2 : World} {g : Nat} {row row1 : Option Nat} (h : KeepBut w w1 g row) (k : KeepBut w1 w2 g row1) (hr : row1 = row ∨ ∃ b, row1 = some b ∧ w.heap.size ≤ b) : KeepBut w w2 g row :=
  ⟨Nat.le_trans h.1 k.1, fun i hi hg hn => by
    refine (k.2 i (Nat.lt_of_lt_of_le hi h.1) hg ?_).trans (h.2 i hi hg hn)
    rcases hr with rfl | ⟨b, rfl, hb⟩
    · exact hn
    · intro e
      injection e with e
      omega⟩
/-- Another block, another row: they live on. -/
theorem KeepBut.blk {w w1 : World} {g g' : Nat} {row : Option Nat} {o : Obj} (h : KeepBut w w1 g row) (hb : w.heap[g']? = some o) (hg : g' ≠ g) (hr : some g' ≠ row) : w1.heap[g']? = some o := (h.2 g' (blk_lt hb) hg hr).trans hb
theorem KeepBut.own {w w1 : World} {g : Nat} {row : Option Nat} {base : Nat} {e : TypeId} {size n : Nat} {v : Value} {xs : List Value} (h : KeepBut w w1 g row) (ho : w.ownsRow base e size v n xs) (hg : v.ownBlock ≠ some g) (hr : v.ownBlock = none ∨ v.ownBlock ≠ row) : w1.ownsRow base e size v n xs := by
  obtain ⟨h1, h2⟩ := ho
  refine ⟨h1, ?_⟩
  rcases h2 with h2 | ⟨b, cap, cur, rfl, hb, hh, r⟩
  · exact .inl h2
  · refine .inr ⟨b, cap, cur, rfl, hb, h.blk hh ?_ ?_, r⟩
    · intro e
      exact hg (by rw [← e]; rfl)
    · rcases hr with hr | hr
      · simp [Value.ownBlock] at hr
      · exact hr
def Ev {α : Type} (g : Nat → Option α) (r : α) : Prop := ∃ K, ∀ k, K ≤ k → g k = some r
theorem Ev.of {α : Type} {g : Nat → Option α} {r : α} (hg : ∀ k, LeO (g k) (g (k + 1))) {k : Nat} (h : g k = some r) : Ev g r := ⟨k, fun _ hk => at_rounds hg hk h⟩
theorem Ev.now {α : Type} (r : α) : Ev (fun _ => some r) r := ⟨0, fun _ _ => rfl⟩
theorem Ev.rounds {α : Type} {g : Nat → Option α} {r : α} (h : Ev g r) : ∃ k, g k = some r := by
  obtain ⟨K, h⟩ := h
  exact ⟨K, h K (Nat.le_refl _)⟩
theorem Ev.bind {α β : Type} {g : Nat → Option α} {f : Nat → α → Option β} {a : α} {r : β} (h : Ev g a) (k : Ev (fun n => f n a) r) : Ev (fun n => (g n).bind (f n)) r := by
  obtain ⟨K, h⟩ := h
  obtain ⟨K', k⟩ := k
  refine ⟨max K K', fun n hn => ?_⟩
  have h1 := h n (by omega)
  have h2 := k n (by omega)
  simp only [h1, Option.bind_some]
  exact h2
/-- One round of a loop. -/
theorem Ev.step {α : Type} {g f : Nat → Option α} {r : α} (h : ∀ k, g (k + 1) = f k) (k : Ev f r) : Ev g r := by
  obtain ⟨K, k⟩ := k
  refine ⟨K + 1, fun n hn => ?_⟩
  obtain ⟨m, rfl⟩ : ∃ m, n = m + 1 := ⟨n - 1, by omega⟩
  rw [h]
  exact k m (by omega)
theorem Ev.congr {α : Type} {g f : Nat → Option α} {r : α} (h : ∀ k, g k = f k) (k : Ev f r) : Ev g r := by
  obtain ⟨K, k⟩ := k
  exact ⟨K, fun n hn => (h n).trans (k n hn)⟩
section
variable {P : Program} {ops : Array Oper} {o : Oper} {a : Act} {Q : Exit → Act → World → Prop} {K : Act → World → Prop}
theorem step_append_cells {w0 W : World} (base : Nat) (hw : Region.wanted o (yielded ops a.tmps) = true) (s x : Operand) (t e : TypeId) (z : Value) (size bytes : Nat)
    (ho : o.op = .call { callee := .builtin .append, args := #[s, x], argTypes := #[t, t] })
    (ht : P.underlying t = some (.slice e)) (hinfo : (P.info? e).map (fun i => (i.zero, i.size, i.bytes)) = some (some z, size, bytes)) (hz : z.cells.size = size) (hs0 : 0 < size) (hb0 : 0 < bytes)
    (v : Value) (n : Nat) (xs ys : List Value) (hs : a.eval s = v) (hx : a.eval x = .slice (some ⟨W.heap.size, 0, none⟩) 1 1) (hys : ys.length = size) (h1 : ∀ u ∈ ys, u.oneCell' = true)
    (HO : W.ownsRow base e size v n xs) (HB : Below base w0 W) (hbase : base ≤ W.heap.size) (hl : (n + 1) * bytes ≤ 140737488355328)
    (h : ∀ v1 w1, w1.ownsRow base e size v1 (n + 1) (xs ++ ys) → Below base w0 w1 → W.grownBy w1 v.ownBlock → (v1.ownBlock = v.ownBlock ∨ ∃ b, v1.ownBlock = some b ∧ W.heap.size ≤ b) → K (a.put o.dst v1) w1) :
    if Region.wanted o (yielded ops a.tmps) = true then Oper.wp P o a (W.alloc (.cells ys.toArray e)) K Q else K (a.put o.dst undef) (W.alloc (.cells ys.toArray e)) := by
  obtain ⟨i0, hi, hzz⟩ := Option.map_eq_some_iff.1 hinfo
  simp only [Prod.mk.injEq] at hzz
  obtain ⟨hz0, hz1, hz2⟩ := hzz
  have hlen : n + 1 ≤ 140737488355328 := Nat.le_trans (Nat.le_mul_of_pos_right _ hb0) hl
  rw [if_pos hw]
  obtain ⟨v1, w1, hr, hown, hg, _, hat⟩ := run_append_own_at (P := P) (W.alloc (.cells ys.toArray e)) base t o.type e i0 z size bytes ht hi hz0 hz1 hz2 hz hs0 v n xs (HO.alloc _) ⟨W.heap.size, 0, none⟩ 1 1 ys (by rw [hys]; simp)
    (by simpa using World.news_of_block (cs := ys.toArray) (t := e) (fr := (0, 0)) (heap_alloc_new W (.cells ys.toArray e))) h1 (by simp only [maxLen]; omega) hl (by simp; omega)
  unfold Oper.wp execOp
  simp only [ho, resolve, invoke, builtin, Sem.run_bind, Sem.run_pure, Result.andThen_ok, List.map_toArray, List.map_cons, List.map_nil, hs, hx, hr]
  refine h v1 w1 hown ((HB.alloc hbase _).grown hg (by simp; omega) (own_base HO)) (World.grownBy.trans (World.grownBy_alloc W _ _) hg) ?_
  rcases hat with hat | hat
  · exact .inl hat
  · exact .inr ⟨_, hat, by simp⟩
end
theorem own_weaken {w : World} {base base' : Nat} {e : TypeId} {size n : Nat} {v : Value} {xs : List Value} (h : w.ownsRow base e size v n xs) (hb : base' ≤ base) : w.ownsRow base' e size v n xs := by
  obtain ⟨h1, h2⟩ := h
  refine ⟨h1, ?_⟩
  rcases h2 with h2 | ⟨g, cap, cur, rfl, hg, r⟩
  · exact .inl h2
  · exact .inr ⟨g, cap, cur, rfl, Nat.le_trans hb hg, r⟩
section
variable {α : Type} {enc : α → Value} {d : α}
def encs (enc : α → Value) (xs : List α) : List Value := xs.map enc
def rdOf (d : α) (xs : List α) (i : Int) : α := xs.getD i.toNat d
theorem encs_length (xs : List α) : (encs enc xs).length = xs.length := by simp [encs]
def ReadsOf (enc : α → Value) (d : α) (w : World) (A : Option Addr) (n : Nat) (xs : List α) : Prop :=
  xs.length = n ∧ n ≤ 9223372036854775807 ∧ (0 < n → ∃ ad, A = some ad ∧ ∀ j, j < n → w.cell? (ad.add j) = some (enc (xs.getD j d)))
theorem ReadsOf.at_ {w : World} {A : Option Addr} {n : Nat} {xs : List α} (h : ReadsOf enc d w A n xs) (i : Int) (h0 : 0 ≤ i) (h1 : i < n) : ∃ ad, A = some ad ∧ w.cell? (ad.add i.toNat) = some (enc (rdOf d xs i)) := by
  obtain ⟨ad, e, hc⟩ := h.2.2 (by omega)
  exact ⟨ad, e, hc _ (by omega)⟩
theorem ReadsOf.below {w w1 : World} {A : Option Addr} {n : Nat} {xs : List α} (h : ReadsOf enc d w A n xs) (hb : Below w.heap.size w w1) : ReadsOf enc d w1 A n xs :=
  ⟨h.1, h.2.1, fun hn => by
    obtain ⟨ad, e, hc⟩ := h.2.2 hn
    exact ⟨ad, e, fun j hj => pw_cell_below hb (hc j hj)⟩⟩
theorem ReadsOf.take_ {w : World} {A : Option Addr} {n : Nat} {xs : List α} (h : ReadsOf enc d w A n xs) (i : Nat) (hi : i ≤ n) : ReadsOf enc d w A i (xs.take i) := by
  refine ⟨by rw [List.length_take, h.1]; omega, by have := h.2.1; omega, fun hp => ?_⟩
  obtain ⟨ad, e, hc⟩ := h.2.2 (by omega)
  refine ⟨ad, e, fun j hj => ?_⟩
  rw [hc j (by omega)]
  simp [List.getD_eq_getElem?_getD, hj]
end
section
variable {α : Type} {P : Program} {ops : Array Oper} {rest : List Oper} {o : Oper} {a : Act} {Q : Exit → Act → World → Prop}
end
theorem blk_alloc {w : World} {g : Nat} {o : Obj} (h : w.heap[g]? = some o) (o' : Obj) : (w.alloc o').heap[g]? = some o := (Below.heap_alloc w o' g (blk_lt h)).trans h
theorem blk_drew {w : World} {g : Nat} {o : Obj} (h : w.heap[g]? = some o) : w.drew.heap[g]? = some o := h
theorem blk_drewN {w : World} {g : Nat} {o : Obj} (h : w.heap[g]? = some o) (n : Nat) : (w.drewN n).heap[g]? = some o := h
theorem blk_below {w w1 : World} {g : Nat} {o : Obj} (h : w.heap[g]? = some o) (hb : Below w.heap.size w w1) : w1.heap[g]? = some o := (hb.block g (blk_lt h)).trans h
theorem blk_new (w : World) (o : Obj) : (w.alloc o).heap[w.heap.size]? = some o := heap_alloc_new w o
section
variable {P : Program}
theorem results_ct {fn : Func} {p u : Tmp} {ty : TypeId} (h : fn.results = #[.cell p ty, .tmp u]) (tmps : Array Value) (w : World) (g : Nat) (t : TypeId) (cs : Array Value) (fr : Nat × Nat) (d : TypeDesc)
    (hp : tmps.getD p undef = .pointer (some ⟨g, 0, none⟩)) (hg : w.heap[g]? = some (.cells cs t fr))
    (hu : P.underlying ty = some d) (hd : (match d with | .struct _ | .array _ _ => true | _ => false) = true) (hi : (P.info? ty).map (·.size) = some cs.size) :
    (results fn tmps).run P w = .ok (.tuple #[.agg cs, tmps.getD u undef]) w := by
  have hp' : tmps[p]?.getD undef = .pointer (some ⟨g, 0, none⟩) := by simpa using hp
  simp [results, h, hp', asAddr, run_loadVar_row w g t ty cs fr d hg hu hd hi]
end
theorem own_le {w : World} {base n m c size : Nat} {e : TypeId} {A : Option Addr} {xs : List Value} (h : w.ownsRow base e size (.slice A m c) n xs) : m ≤ c := by
  rcases h.2 with ⟨he, _⟩ | ⟨g, cap, cur, he, _, _, hnc, _⟩
  · injection he with _ h2 h3
    omega
  · injection he with _ h2 h3
    omega
def OwnRow {α : Type} (R : α → List Value → Prop) (e : TypeId) (size : Nat) (w : World) (base : Nat) (v : Value) (ps : List α) : Prop :=
  ∃ inner, w.ownsRow base e size v ps.length inner ∧ Reps R size ps inner
section
variable {α : Type} {R R' : α → List Value → Prop} {e : TypeId} {size : Nat} {w w1 : World} {base : Nat} {v : Value} {ps : List α}
theorem OwnRow.none_ (R : α → List Value → Prop) (e : TypeId) (size : Nat) (w : World) (base : Nat) : OwnRow R e size w base (.slice none 0 0) [] := ⟨[], own_nil _ _ _ _, Reps.none _ _⟩
theorem OwnRow.imp_ (h : OwnRow R e size w base v ps) (hR : ∀ p c, R p c → R' p c) : OwnRow R' e size w base v ps := by
  obtain ⟨inner, ho, hr⟩ := h
  exact ⟨inner, ho, hr.imp_ hR⟩
theorem OwnRow.below (h : OwnRow R e size w base v ps) (hb : Below w.heap.size w w1) : OwnRow R e size w1 base v ps := by
  obtain ⟨inner, ho, hr⟩ := h
  exact ⟨inner, pw_own_below ho hb, hr⟩
theorem OwnRow.other (h : OwnRow R e size w base v ps) {row : Option Nat} (hg : w.grownBy w1 row) (hne : v.ownBlock = none ∨ v.ownBlock ≠ row) : OwnRow R e size w1 base v ps := by
  obtain ⟨inner, ho, hr⟩ := h
  exact ⟨inner, own_other ho hg hne, hr⟩
theorem OwnRow.lower (h : OwnRow R e size w base v ps) {base' : Nat} (hb : base' ≤ base) : OwnRow R e size w base' v ps := by
  obtain ⟨inner, ho, hr⟩ := h
  exact ⟨inner, own_weaken ho hb, hr⟩
theorem OwnRow.reads (h : OwnRow R e size w base v ps) : ∃ A c, v = .slice A ps.length c ∧ ps.length ≤ c ∧ ReadsRow R size w A ps.length ps := by
  obtain ⟨inner, ho, hr⟩ := h
  obtain ⟨A, c, rfl, hrow⟩ := own_reads_row ho hr rfl
  exact ⟨A, c, rfl, own_le ho, hrow⟩
end
section
variable {P : Program} {ops : Array Oper} {rest : List Oper} {o : Oper} {a : Act} {Q : Exit → Act → World → Prop} {α : Type} {R : α → List Value → Prop}
/-- append(v, x): x's cells are cs. R is that of the world AHEAD; move it over hg ('OwnRow.imp_'). -/
theorem OwnRow.append {w0 W : World} (base : Nat) (hgd : o.guard = none) (s x : Operand) (t e : TypeId) (z : Value) (size bytes : Nat)
    (ho : o.op = .call { callee := .builtin .append, args := #[s, x], argTypes := #[t, t] })
    (ht : P.underlying t = some (.slice e)) (hinfo : (P.info? e).map (fun i => (i.zero, i.size, i.bytes)) = some (some z, size, bytes)) (hz : z.cells.size = size) (hs0 : 0 < size) (hb0 : 0 < bytes)
    (v : Value) (ps : List α) (p : α) (cs : List Value) (hs : a.eval s = v) (hx : a.eval x = .slice (some ⟨W.heap.size, 0, none⟩) 1 1) (hp : R p cs) (hcs : cs.length = size) (h1 : ∀ u ∈ cs, u.oneCell' = true)
    (HO : OwnRow R e size W base v ps) (HB : Below base w0 W) (hbase : base ≤ W.heap.size) (hl : (ps.length + 1) * bytes ≤ 140737488355328)
    (h : ∀ v1 w1, OwnRow R e size w1 base v1 (ps ++ [p]) → Below base w0 w1 → W.grownBy w1 v.ownBlock → (v1.ownBlock = v.ownBlock ∨ ∃ b, v1.ownBlock = some b ∧ W.heap.size ≤ b) → wpList P ops Q rest (a.put o.dst v1) w1) :
    wpList P ops Q (o :: rest) a (W.alloc (.cells cs.toArray e)) := by
  obtain ⟨inner, hown, hr⟩ := HO
  refine print_append_cells base hgd s x t e z size bytes ho ht hinfo hz hs0 hb0 v ps.length inner cs hs hx hcs h1 hown HB hbase hl ?_
  intro v1 w1 hown1 hb1 hg1 hat1
  exact h v1 w1 ⟨inner ++ cs, by rw [List.length_append, List.length_singleton]; exact hown1, hr.snoc hp hcs⟩ hb1 hg1 hat1
end
section
variable {P : Program} {ops : Array Oper} {o : Oper} {a : Act} {Q : Exit → Act → World → Prop} {K : Act → World → Prop} {α : Type} {R : α → List Value → Prop}
/-- The same as_ a step of a region that draws. -/
theorem OwnRow.append_step {w0 W : World} (base : Nat) (hw : Region.wanted o (yielded ops a.tmps) = true) (s x : Operand) (t e : TypeId) (z : Value) (size bytes : Nat)
    (ho : o.op = .call { callee := .builtin .append, args := #[s, x], argTypes := #[t, t] })
    (ht : P.underlying t = some (.slice e)) (hinfo : (P.info? e).map (fun i => (i.zero, i.size, i.bytes)) = some (some z, size, bytes)) (hz : z.cells.size = size) (hs0 : 0 < size) (hb0 : 0 < bytes)
    (v : Value) (ps : List α) (p : α) (cs : List Value) (hs : a.eval s = v) (hx : a.eval x = .slice (some ⟨W.heap.size, 0, none⟩) 1 1) (hp : R p cs) (hcs : cs.length = size) (h1 : ∀ u ∈ cs, u.oneCell' = true)
    (HO : OwnRow R e size W base v ps) (HB : Below base w0 W) (hbase : base ≤ W.heap.size) (hl : (ps.length + 1) * bytes ≤ 140737488355328)
    (h : ∀ v1 w1, OwnRow R e size w1 base v1 (ps ++ [p]) → Below base w0 w1 → W.grownBy w1 v.ownBlock → (v1.ownBlock = v.ownBlock ∨ ∃ b, v1.ownBlock = some b ∧ W.heap.size ≤ b) → K (a.put o.dst v1) w1) :
    if Region.wanted o (yielded ops a.tmps) = true then Oper.wp P o a (W.alloc (.cells cs.toArray e)) K Q else K (a.put o.dst undef) (W.alloc (.cells cs.toArray e)) := by
  obtain ⟨inner, hown, hr⟩ := HO
  refine step_append_cells base hw s x t e z size bytes ho ht hinfo hz hs0 hb0 v ps.length inner cs hs hx hcs h1 hown HB hbase hl ?_
  intro v1 w1 hown1 hb1 hg1 hat1
  exact h v1 w1 ⟨inner ++ cs, by rw [List.length_append, List.length_singleton]; exact hown1, hr.snoc hp hcs⟩ hb1 hg1 hat1
end
section
variable {α : Type} {P : Program}
end
section
variable {P : Program} {ops : Array Oper} {rest : List Oper} {o : Oper} {a : Act} {Q : Exit → Act → World → Prop}
end
/-- ok: which blocks the rows inside may be ('not the row that is being written'). -/
structure Kd (α : Type) where
  sz : Nat
  E : List Nat
  K : World → α → List Value → Prop
  M : World → Nat → (Nat → Prop) → α → List Value → Prop
  K_len : ∀ {w x cs}, K w x cs → cs.length = sz
  K_one : ∀ {w x cs}, K w x cs → ∀ u ∈ cs, u.oneCell' = true
  K_below : ∀ {w w1 : World} {x cs}, Below w.heap.size w w1 → K w x cs → K w1 x cs
  K_of_M : ∀ {w base ok x cs}, M w base ok x cs → K w x cs
  M_mono : ∀ {w base ok ok' x cs}, (∀ k, ok k → ok' k) → M w base ok x cs → M w base ok' x cs
  M_bound : ∀ {w : World} {base ok x cs}, M w base ok x cs → M w base (fun k => ok k ∧ base ≤ k ∧ k < w.heap.size ∧ ∃ q, q ∈ E ∧ ∃ cells, w.heap[k]? = some (.cells cells q (0, 0))) x cs
  M_move : ∀ {w w1 : World} {base ok x cs}, (∀ k, ok k → w1.heap[k]? = w.heap[k]?) → M w base ok x cs → M w1 base ok x cs
  M_lower : ∀ {w base base' ok x cs}, base' ≤ base → M w base ok x cs → M w base' ok x cs
theorem own_move {w w1 : World} {base : Nat} {e : TypeId} {size n : Nat} {v : Value} {xs : List Value} (h : w.ownsRow base e size v n xs) (hm : ∀ k, v.ownBlock = some k → w1.heap[k]? = w.heap[k]?) : w1.ownsRow base e size v n xs := by
  obtain ⟨h1, h2⟩ := h
  refine ⟨h1, ?_⟩
  rcases h2 with h2 | ⟨g, cap, cur, rfl, hg, hh, r⟩
  · exact .inl h2
  · exact .inr ⟨g, cap, cur, rfl, hg, (hm g (by simp [Value.ownBlock])).trans hh, r⟩
theorem own_typed {w : World} {base : Nat} {e : TypeId} {size n : Nat} {v : Value} {xs : List Value} (h : w.ownsRow base e size v n xs) (k : Nat) (hk : v.ownBlock = some k) : ∃ cells, w.heap[k]? = some (.cells cells e (0, 0)) := by
  rcases h.2 with ⟨rfl, _⟩ | ⟨g, cap, cur, rfl, hg, hh, r⟩
  · simp [Value.ownBlock] at hk
  · have : g = k := by simpa [Value.ownBlock] using hk
    subst this
    exact ⟨cur, hh⟩
namespace Kd
/-- A row of elements that is read. -/
def C {α : Type} (d : Kd α) (w : World) (A : Option Addr) (n : Nat) (xs : List α) : Prop := ReadsRow (d.K w) d.sz w A n xs
/-- A row of elements (type e) of the call's own; the elements' rows are not this one. -/
def R {α : Type} (d : Kd α) (e : Nat) (w : World) (base : Nat) (ok : Nat → Prop) (v : Value) (xs : List α) : Prop :=
  (∀ k, v.ownBlock = some k → ok k) ∧ OwnRow (d.M w base (fun k => ok k ∧ some k ≠ v.ownBlock)) e d.sz w base v xs
section
variable {α : Type} {d : Kd α} {e : Nat} {w w1 : World} {base : Nat} {ok ok' : Nat → Prop} {v : Value} {xs : List α}
theorem C_below {A : Option Addr} {n : Nat} (h : d.C w A n xs) (hb : Below w.heap.size w w1) : d.C w1 A n xs := ReadsRow.imp_ h hb (fun _ _ hp => d.K_below hb hp)
theorem R_nil (d : Kd α) (e : Nat) (w : World) (base : Nat) (ok : Nat → Prop) : d.R e w base ok (.slice none 0 0) [] := ⟨fun k hk => by simp [Value.ownBlock] at hk, OwnRow.none_ _ _ _ _ _⟩
theorem R_mono (h : d.R e w base ok v xs) (hok : ∀ k, ok k → ok' k) : d.R e w base ok' v xs := ⟨fun k hk => hok k (h.1 k hk), h.2.imp_ (fun _ _ hp => d.M_mono (fun k hk => ⟨hok k hk.1, hk.2⟩) hp)⟩
theorem R_bound (h : d.R e w base ok v xs) : d.R e w base (fun k => ok k ∧ base ≤ k ∧ k < w.heap.size ∧ ∃ q, q ∈ e :: d.E ∧ ∃ cells, w.heap[k]? = some (.cells cells q (0, 0))) v xs := by
  obtain ⟨h0, inner, ho, hr⟩ := h
  refine ⟨fun k hk => ?_, inner, ho, hr.imp_ (fun _ _ hp => d.M_mono (fun k hk => ?_) (d.M_bound hp))⟩
  · obtain ⟨cells, hc⟩ := own_typed ho k hk
    exact ⟨h0 k hk, own_base ho k hk, own_lt ho k hk, e, List.mem_cons_self, cells, hc⟩
  · obtain ⟨⟨h1, h2⟩, h3, h4, q, hq, hc⟩ := hk
    exact ⟨⟨h1, h3, h4, q, List.mem_cons_of_mem _ hq, hc⟩, h2⟩
theorem R_move (h : d.R e w base ok v xs) (hm : ∀ k, ok k → w1.heap[k]? = w.heap[k]?) : d.R e w1 base ok v xs := by
  obtain ⟨h0, inner, ho, hr⟩ := h
  exact ⟨h0, inner, own_move ho (fun k hk => hm k (h0 k hk)), hr.imp_ (fun _ _ hp => d.M_move (fun k hk => hm k hk.1) hp)⟩
theorem R_lower {base' : Nat} (h : d.R e w base ok v xs) (hb : base' ≤ base) : d.R e w base' ok v xs := by
  obtain ⟨h0, inner, ho, hr⟩ := h
  exact ⟨h0, inner, own_weaken ho hb, hr.imp_ (fun _ _ hp => d.M_lower hb hp)⟩
/-- Any mover: what is ok, and a block of w's, stays. -/
theorem R_step (h : d.R e w base ok v xs) (hm : ∀ k, ok k → k < w.heap.size → w1.heap[k]? = w.heap[k]?) : d.R e w1 base ok v xs :=
  R_mono (R_move (R_bound h) (fun k hk => hm k hk.1 hk.2.2.1)) (fun _ hk => hk.1)
theorem M_step {x : α} {cs : List Value} (h : d.M w base ok x cs) (hm : ∀ k, ok k → k < w.heap.size → w1.heap[k]? = w.heap[k]?) : d.M w1 base ok x cs :=
  d.M_mono (fun _ hk => hk.1) (d.M_move (fun k hk => hm k hk.1 hk.2.2.1) (d.M_bound h))
theorem R_below (h : d.R e w base ok v xs) (hb : Below w.heap.size w w1) : d.R e w1 base ok v xs := R_step h (fun k _ hk => hb.block k hk)
theorem M_below {x : α} {cs : List Value} (h : d.M w base ok x cs) (hb : Below w.heap.size w w1) : d.M w1 base ok x cs := M_step h (fun k _ hk => hb.block k hk)
/-- Another row (a block, or none) has been written. -/
theorem R_grown (h : d.R e w base ok v xs) {row : Option Nat} (hg : w.grownBy w1 row) (hok : ∀ k, ok k → some k ≠ row) : d.R e w1 base ok v xs := R_step h (fun k ho hk => hg.block k hk (hok k ho))
/-- A store into another block. -/
theorem R_far (h : d.R e w base ok v xs) {p : Addr} (hok : ∀ k, ok k → k ≠ p.block) (u : Value) : d.R e (w.setCell p u) base ok v xs := R_step h (fun k ho _ => Below.heap_setCell w p u k (hok k ho))
/-- By types alone: the rows inside are none of a block of type t. -/
theorem R_types (h : d.R e w base ok v xs) {g t : Nat} {cells : Array Value} (hb : w.heap[g]? = some (.cells cells t (0, 0))) (ht : ∀ q, q ∈ e :: d.E → q ≠ t) : d.R e w base (fun k => ok k ∧ k ≠ g) v xs :=
  R_mono (R_bound h) (fun k hk => ⟨hk.1, by
    obtain ⟨_, _, _, q, hq, cells', hc⟩ := hk
    rintro rfl
    rw [hc] at hb
    injection hb with hb
    injection hb with _ hb
    exact ht q hq hb⟩)
theorem R_reads (h : d.R e w base ok v xs) : ∃ A c, v = .slice A xs.length c ∧ xs.length ≤ c ∧ d.C w A xs.length xs := by
  obtain ⟨A, c, he, hl, hr⟩ := OwnRow.reads h.2
  exact ⟨A, c, he, hl, hr.imp_ (Below.refl _ _) (fun _ _ hp => d.K_of_M hp)⟩
theorem R_slice (h : d.R e w base ok v xs) : ∃ A c, v = .slice A xs.length c := by
  obtain ⟨A, c, he, _⟩ := R_reads h
  exact ⟨A, c, he⟩
theorem R_own (h : d.R e w base ok v xs) : ∃ inner, w.ownsRow base e d.sz v xs.length inner := by
  obtain ⟨_, inner, ho, _⟩ := h
  exact ⟨inner, ho⟩
end
def scalar {α : Type} (enc : α → Value) (h1 : ∀ x, (enc x).oneCell' = true) : Kd α where
  sz := 1
  E := []
  K := fun _ x cs => cs = [enc x]
  M := fun _ _ _ x cs => cs = [enc x]
  K_len := fun h => by rw [h]; rfl
  K_one := fun h u hu => by
    rw [h] at hu
    rw [List.mem_singleton.1 hu]
    exact h1 _
  K_below := fun _ h => h
  K_of_M := fun h => h
  M_mono := fun _ h => h
  M_bound := fun h => h
  M_move := fun _ h => h
  M_lower := fun _ h => h
def int (k : IntKind) : Kd Int := scalar (Value.int k) (fun _ => rfl)
def bool : Kd Bool := scalar Value.bool (fun _ => rfl)
def slice {α : Type} (e : Nat) (d : Kd α) : Kd (List α) where
  sz := 1
  E := e :: d.E
  K := fun w xs cs => ∃ A c, cs = [.slice A xs.length c] ∧ xs.length ≤ c ∧ d.C w A xs.length xs
  M := fun w base ok xs cs => ∃ v, cs = [v] ∧ d.R e w base ok v xs
  K_len := by
    rintro w x cs ⟨A, c, rfl, _⟩
    rfl
  K_one := by
    rintro w x cs ⟨A, c, rfl, _⟩ u hu
    rw [List.mem_singleton.1 hu]
    rfl
  K_below := by
    rintro w w1 x cs hb ⟨A, c, rfl, hl, hr⟩
    exact ⟨A, c, rfl, hl, C_below hr hb⟩
  K_of_M := by
    rintro w base ok x cs ⟨v, rfl, h⟩
    obtain ⟨A, c, rfl, hl, hr⟩ := R_reads h
    exact ⟨A, c, rfl, hl, hr⟩
  M_mono := by
    rintro w base ok ok' x cs hok ⟨v, rfl, h⟩
    exact ⟨v, rfl, R_mono h hok⟩
  M_bound := by
    rintro w base ok x cs ⟨v, rfl, h⟩
    exact ⟨v, rfl, R_bound h⟩
  M_move := by
    rintro w w1 base ok x cs hm ⟨v, rfl, h⟩
    exact ⟨v, rfl, R_move h hm⟩
  M_lower := by
    rintro w base base' ok x cs hb ⟨v, rfl, h⟩
    exact ⟨v, rfl, R_lower h hb⟩
/-- Two in line. -/
def pair {α β : Type} (a : Kd α) (b : Kd β) : Kd (α × β) where
  sz := a.sz + b.sz
  E := a.E ++ b.E
  K := fun w x cs => ∃ c0 c1, cs = c0 ++ c1 ∧ a.K w x.1 c0 ∧ b.K w x.2 c1
  M := fun w base ok x cs => ∃ c0 c1, cs = c0 ++ c1 ∧ a.M w base ok x.1 c0 ∧ b.M w base ok x.2 c1
  K_len := by
    rintro w x cs ⟨c0, c1, rfl, h0, h1⟩
    rw [List.length_append, a.K_len h0, b.K_len h1]
  K_one := by
    rintro w x cs ⟨c0, c1, rfl, h0, h1⟩ u hu
    rcases List.mem_append.1 hu with hu | hu
    · exact a.K_one h0 u hu
    · exact b.K_one h1 u hu
  K_below := by
    rintro w w1 x cs hb ⟨c0, c1, rfl, h0, h1⟩
    exact ⟨c0, c1, rfl, a.K_below hb h0, b.K_below hb h1⟩
  K_of_M := by
    rintro w base ok x cs ⟨c0, c1, rfl, h0, h1⟩
    exact ⟨c0, c1, rfl, a.K_of_M h0, b.K_of_M h1⟩
  M_mono := by
    rintro w base ok ok' x cs hok ⟨c0, c1, rfl, h0, h1⟩
    exact ⟨c0, c1, rfl, a.M_mono hok h0, b.M_mono hok h1⟩
  M_bound := by
    rintro w base ok x cs ⟨c0, c1, rfl, h0, h1⟩
    refine ⟨c0, c1, rfl, a.M_mono ?_ (a.M_bound h0), b.M_mono ?_ (b.M_bound h1)⟩
    · rintro k ⟨h2, h3, h4, q, hq, hc⟩
      exact ⟨h2, h3, h4, q, List.mem_append_left _ hq, hc⟩
    · rintro k ⟨h2, h3, h4, q, hq, hc⟩
      exact ⟨h2, h3, h4, q, List.mem_append_right _ hq, hc⟩
  M_move := by
    rintro w w1 base ok x cs hm ⟨c0, c1, rfl, h0, h1⟩
    exact ⟨c0, c1, rfl, a.M_move hm h0, b.M_move hm h1⟩
  M_lower := by
    rintro w base base' ok x cs hb ⟨c0, c1, rfl, h0, h1⟩
    exact ⟨c0, c1, rfl, a.M_lower hb h0, b.M_lower hb h1⟩
/-- A Lean structure by its fields. -/
def iso {α β : Type} (d : Kd α) (f : β → α) : Kd β where
  sz := d.sz
  E := d.E
  K := fun w x cs => d.K w (f x) cs
  M := fun w base ok x cs => d.M w base ok (f x) cs
  K_len := d.K_len
  K_one := d.K_one
  K_below := d.K_below
  K_of_M := d.K_of_M
  M_mono := d.M_mono
  M_bound := d.M_bound
  M_move := d.M_move
  M_lower := d.M_lower
/-- Nothing is of this kind: where the nesting's depth is used up. -/
def bot {α : Type} (sz : Nat) (E : List Nat) : Kd α where
  sz := sz
  E := E
  K := fun _ _ _ => False
  M := fun _ _ _ _ _ => False
  K_len := fun h => h.elim
  K_one := fun h => h.elim
  K_below := fun _ h => h
  K_of_M := fun h => h
  M_mono := fun _ h => h
  M_bound := fun h => h
  M_move := fun _ h => h
  M_lower := fun _ h => h
/-- A type nested in itself: nested at most n deep .. -/
def upto {α : Type} (F : Kd α → Kd α) (sz : Nat) (E : List Nat) : Nat → Kd α
  | 0 => bot sz E
  | n + 1 => F (upto F sz E n)
theorem C_get {α : Type} {d : Kd α} {w : World} {A : Option Addr} {n : Nat} {xs : List α} (h : d.C w A n xs) (z : α) (i : Int) (h0 : 0 ≤ i) (h1 : i < n) :
    ∃ ad c, A = some ad ∧ c.length = d.sz ∧ d.K w (xs.getD i.toNat z) c ∧ ∀ j u, c[j]? = some u → w.cell? (ad.add (i.toNat * d.sz + j)) = some u := ReadsRow.get_ h z i h0 h1
/-- What an append leaves: the old elements' rows and the new one's are not the new row's block. -/
theorem R_appended {α : Type} {d : Kd α} {e base : Nat} {ok okp : Nat → Prop} {W w1 : World} {v v1 : Value} {xs : List α} {p : α} {inner cs : List Value} (h0 : ∀ k, v.ownBlock = some k → ok k) (hr : Reps (d.M W base (fun k => ok k ∧ some k ≠ v.ownBlock)) d.sz xs inner) (hp : d.M W base okp p cs) (hokp : ∀ k, okp k → ok k ∧ some k ≠ v.ownBlock) (hfresh : ∀ k, W.heap.size ≤ k → ok k)
    (hown : w1.ownsRow base e d.sz v1 (xs.length + 1) (inner ++ cs)) (hg : W.grownBy w1 v.ownBlock) (hat : v1.ownBlock = v.ownBlock ∨ ∃ b, v1.ownBlock = some b ∧ W.heap.size ≤ b) : d.R e w1 base ok v1 (xs ++ [p]) := by
  have hne : ∀ k, some k ≠ v.ownBlock → k < W.heap.size → some k ≠ v1.ownBlock := by
    intro k hk hlt
    rcases hat with hat | ⟨b, hb, hle⟩
    · rw [hat]; exact hk
    · rw [hb]
      intro he
      injection he with he
      omega
  have step : ∀ {q : α} {c : List Value} {o : Nat → Prop}, d.M W base o q c → (∀ k, o k → ok k ∧ some k ≠ v.ownBlock) → d.M w1 base (fun k => ok k ∧ some k ≠ v1.ownBlock) q c := by
    intro q c o hq ho
    have h1 := d.M_move (w1 := w1) (fun k hk => hg.block k hk.2.2.1 (ho k hk.1).2) (d.M_bound hq)
    exact d.M_mono (fun k hk => ⟨(ho k hk.1).1, hne k (ho k hk.1).2 hk.2.2.1⟩) h1
  refine ⟨fun k hk => ?_, inner ++ cs, by rw [List.length_append, List.length_singleton]; exact hown, ?_⟩
  · rcases hat with hat | ⟨b, hb, hle⟩
    · exact h0 k (hat ▸ hk)
    · rw [hb] at hk
      injection hk with hk
      exact hfresh k (by omega)
  · exact (hr.imp_ (fun _ _ hq => step hq (fun _ hk => hk))).snoc (step hp hokp) (d.K_len (d.K_of_M hp))
section
variable {P : Program} {ops : Array Oper} {rest : List Oper} {o : Oper} {a : Act} {Q : Exit → Act → World → Prop} {α : Type}
/-- append(v, x), behind 'at_builtin'; the goal's world is 'W.alloc' of the variadic's box; x's cells are cs, made (its rows satisfy okp). hfresh: a block that is new at W is ok. -/
theorem R_append (d : Kd α) {w0 W : World} (base : Nat) (hgd : o.guard = none) (s x : Operand) (t e : TypeId) (z : Value) (bytes : Nat)
    (ho : o.op = .call { callee := .builtin .append, args := #[s, x], argTypes := #[t, t] })
    (ht : P.underlying t = some (.slice e)) (hinfo : (P.info? e).map (fun i => (i.zero, i.size, i.bytes)) = some (some z, d.sz, bytes)) (hz : z.cells.size = d.sz) (hs0 : 0 < d.sz) (hb0 : 0 < bytes)
    (v : Value) (xs : List α) (p : α) (cs : List Value) (ok okp : Nat → Prop) (hs : a.eval s = v) (hx : a.eval x = .slice (some ⟨W.heap.size, 0, none⟩) 1 1) (hp : d.M W base okp p cs) (hokp : ∀ k, okp k → ok k ∧ some k ≠ v.ownBlock) (hfresh : ∀ k, W.heap.size ≤ k → ok k)
    (HO : d.R e W base ok v xs) (HB : Below base w0 W) (hbase : base ≤ W.heap.size) (hl : (xs.length + 1) * bytes ≤ 140737488355328)
    (h : ∀ v1 w1, d.R e w1 base ok v1 (xs ++ [p]) → Below base w0 w1 → W.grownBy w1 v.ownBlock → (v1.ownBlock = v.ownBlock ∨ ∃ b, v1.ownBlock = some b ∧ W.heap.size ≤ b) → wpList P ops Q rest (a.put o.dst v1) w1) :
    wpList P ops Q (o :: rest) a (W.alloc (.cells cs.toArray e)) := by
  obtain ⟨h0, inner, hown, hr⟩ := HO
  refine print_append_cells base hgd s x t e z d.sz bytes ho ht hinfo hz hs0 hb0 v xs.length inner cs hs hx (d.K_len (d.K_of_M hp)) (d.K_one (d.K_of_M hp)) hown HB hbase hl ?_
  intro v1 w1 hown1 hb1 hg1 hat1
  exact h v1 w1 (R_appended h0 hr hp hokp hfresh hown1 hg1 hat1) hb1 hg1 hat1
end
section
variable {P : Program} {ops : Array Oper} {o : Oper} {a : Act} {Q : Exit → Act → World → Prop} {Kc : Act → World → Prop} {α : Type}
end
theorem reads_of_C {α : Type} {enc : α → Value} {d : α} {h1 : ∀ x, (enc x).oneCell' = true} {w : World} {A : Option Addr} {n : Nat} {xs : List α} (h : (scalar enc h1).C w A n xs) : ReadsOf enc d w A n xs := by
  refine ⟨h.1, h.2.1, fun hn => ?_⟩
  obtain ⟨ad, e, hc⟩ := h.2.2 hn
  refine ⟨ad, e, fun j hj => ?_⟩
  have hl : j < xs.length := by have := h.1; omega
  obtain ⟨c, _, hK, hcell⟩ := hc j _ (List.getElem?_eq_getElem hl)
  have hK' : c = [enc xs[j]] := hK
  subst hK'
  have := hcell 0 _ rfl
  simpa [scalar, List.getD_eq_getElem?_getD, List.getElem?_eq_getElem hl] using this
end Kd
namespace Kd
section
variable {α : Type} {F : Kd α → Kd α} {sz : Nat} {E : List Nat} {hs : ∀ n, (upto F sz E n).sz = sz} {hE : ∀ n q, q ∈ (upto F sz E n).E → q ∈ E}
end
end Kd
namespace Kd
end Kd
namespace Kd
section
variable {α β : Type} {d : Kd α} {d' : Kd β} {e e' : Nat} {w w1 W : World} {base b b' : Nat} {ok ok' okv oku : Nat → Prop} {v u : Value} {xs : List α} {ys : List β}
theorem R_alloc (h : d.R e w base ok v xs) (o : Obj) : d.R e (w.alloc o) base ok v xs := R_below h (below_alloc (Below.refl _ _) o)
theorem R_drew (h : d.R e w base ok v xs) : d.R e w.drew base ok v xs := R_below h (below_drew (Below.refl _ _))
theorem R_drewN (h : d.R e w base ok v xs) (m : Nat) : d.R e (w.drewN m) base ok v xs := R_below h (pw_below_drewN (Below.refl _ _) m)
theorem C_alloc {A : Option Addr} {n : Nat} (h : d.C w A n xs) (o : Obj) : d.C (w.alloc o) A n xs := C_below h (below_alloc (Below.refl _ _) o)
theorem C_drew {A : Option Addr} {n : Nat} (h : d.C w A n xs) : d.C w.drew A n xs := C_below h (below_drew (Below.refl _ _))
theorem C_drewN {A : Option Addr} {n : Nat} (h : d.C w A n xs) (m : Nat) : d.C (w.drewN m) A n xs := C_below h (pw_below_drewN (Below.refl _ _) m)
theorem C_nil (d : Kd α) (w : World) : d.C w none ([] : List α).length [] := ⟨rfl, by simp, fun h => absurd h (Nat.lt_irrefl 0)⟩
theorem R_reads' {A : Option Addr} {n c : Nat} (h : d.R e w base ok (.slice A n c) xs) : n = xs.length ∧ n ≤ c ∧ d.C w A xs.length xs := by
  obtain ⟨A', c', he, hl, hr⟩ := R_reads h
  injection he with h1 h2 h3
  subst h1
  exact ⟨h2, by omega, hr⟩
theorem R_lt (h : d.R e w base ok v xs) : ∀ k, v.ownBlock = some k → k < w.heap.size := by
  obtain ⟨inner, ho⟩ := R_own h
  exact own_lt ho
theorem R_base (h : d.R e w base ok v xs) : ∀ k, v.ownBlock = some k → base ≤ k := by
  obtain ⟨inner, ho⟩ := R_own h
  exact own_base ho
end
section
variable {w W : World} {A : Option Addr} {n : Nat}
theorem at_int {k : IntKind} {xs : List Int} (h : (Kd.int k).C w A n xs) (i : Int) (h0 : 0 ≤ i) (h1 : i < n) : ∃ ad, A = some ad ∧ w.cell? (ad.add i.toNat) = some (.int k (rd xs i)) :=
  ReadsOf.at_ (reads_of_C (enc := Value.int k) (d := (0 : Int)) (h1 := fun _ => rfl) h) i h0 h1
variable {α : Type} {enc : α → Value} {h1 : ∀ x, (enc x).oneCell' = true} {e base g cap : Nat} {ok : Nat → Prop} {xs : List α}
end
section
variable {P : Program} {ops : Array Oper} {rest : List Oper} {o : Oper} {a : Act} {Q : Exit → Act → World → Prop}
theorem event_run {W w1 : World} {v : Value} (hgd : o.guard = none) (hrun : (execOp a.eval o).run P W = .ok (.value v) w1) (h : wpList P ops Q rest (a.put o.dst v) w1) : wpList P ops Q (o :: rest) a W := by
  refine wpList_plain hgd fun K hK => ?_
  unfold Oper.wp
  rw [hrun]
  exact hK _ _ h
variable {α : Type}
/-- A literal '[]T{..}': inner its cells. 'hd' picks the operation; 'hrun' by '(by go_simp; rfl)'. -/
theorem R_lit (d : Kd α) {w0 W : World} (base e : Nat) (hgd : o.guard = none) {N : Tmp} (_hd : o.dst = some N) {xs : List α} {inner : List Value} {ok okp : Nat → Prop}
    (hrun : (execOp a.eval o).run P W = .ok (.value (.slice (some ⟨W.heap.size, 0, none⟩) xs.length xs.length)) (W.alloc (.cells inner.toArray e)))
    (hrep : Reps (d.M W base okp) d.sz xs inner) (hok : ∀ k, okp k → ok k) (hfresh : ok W.heap.size) (HB : Below base w0 W) (hbase : base ≤ W.heap.size) (hm : xs.length ≤ 9223372036854775807)
    (h : ∀ v1 w1, d.R e w1 base ok v1 xs → Below base w0 w1 → W.grownBy w1 none → (∃ b, v1.ownBlock = some b ∧ W.heap.size ≤ b) → wpList P ops Q rest (a.put o.dst v1) w1) : wpList P ops Q (o :: rest) a W := by
  refine event_run hgd hrun (h _ _ ⟨fun k hk => ?_, inner, ?_, ?_⟩ (HB.alloc hbase _) (World.grownBy_alloc W _ none) ⟨W.heap.size, by simp [Value.ownBlock], Nat.le_refl _⟩)
  · have : W.heap.size = k := by simpa [Value.ownBlock] using hk
    subst this
    exact hfresh
  · have h2 := World.ownsRow_lit (base := base) (e := e) (size := d.sz) W inner.toArray xs.length hbase (by simpa [maxLen] using hm) (by simpa using hrep.1)
    simpa using h2
  · refine hrep.imp_ (fun p c hp => d.M_mono (fun k hk => ⟨hok k hk.1, fun he => ?_⟩) (M_below (d.M_bound hp) (below_alloc (Below.refl _ _) _)))
    have h3 : k = W.heap.size := by simpa [Value.ownBlock] using he
    have := hk.2.2.1
    omega
end
end Kd
section
variable {P : Program}
end
/-- A row of one's own that may begin inside its block. -/
def QRow (w : World) (base : Nat) (e : TypeId) (size : Nat) (v : Value) (n : Nat) (xs : List Value) : Prop :=
  xs.length = n * size ∧
  ((n = 0 ∧ ∃ A, v = .slice A 0 0 ∧ ∀ a, A = some a → base ≤ a.block ∧ ∃ cur, w.heap[a.block]? = some (.cells cur e (0, 0))) ∨
   ∃ g off cap cur, v = .slice (some ⟨g, off * size, none⟩) n cap ∧ base ≤ g ∧ w.heap[g]? = some (.cells cur e (0, 0)) ∧ n ≤ cap ∧ off + cap ≤ maxLen ∧ cur.size = (off + cap) * size ∧ (cur.toList.drop (off * size)).take (n * size) = xs)
section
variable {w w1 : World} {base n size : Nat} {e : TypeId} {v : Value} {xs : List Value}
end
section
variable {P : Program}
end
namespace Kd
def Q {α : Type} (d : Kd α) (e : Nat) (w : World) (base : Nat) (ok : Nat → Prop) (v : Value) (xs : List α) : Prop :=
  (∀ k, v.ownBlock = some k → ok k) ∧ ∃ inner, QRow w base e d.sz v xs.length inner ∧ Reps (d.M w base (fun k => ok k ∧ some k ≠ v.ownBlock)) d.sz xs inner
section
variable {α : Type} {d : Kd α} {e : Nat} {w w1 W : World} {base : Nat} {ok ok' : Nat → Prop} {v : Value} {xs : List α}
end
section
variable {P : Program} {ops : Array Oper} {rest : List Oper} {o : Oper} {a : Act} {Q' : Exit → Act → World → Prop} {Kc : Act → World → Prop} {α : Type}
end
end Kd
namespace Kd
section
variable {α : Type} {d : Kd α} {e e' : Nat} {w w1 W : World} {base : Nat} {ok : Nat → Prop} {u v : Value} {xs : List α}
theorem R_typed (h : d.R e w base ok v xs) : ∀ k, v.ownBlock = some k → ∃ cells, w.heap[k]? = some (.cells cells e (0, 0)) := by
  obtain ⟨inner, ho⟩ := R_own h
  exact fun k hk => own_typed ho k hk
theorem R_apart' (h : d.R e W base ok u xs) (hty : ∀ k, v.ownBlock = some k → ∃ cells, W.heap[k]? = some (.cells cells e' (0, 0))) (ht : ∀ q, q ∈ e :: d.E → q ≠ e') : d.R e W base (fun k => ok k ∧ some k ≠ v.ownBlock) u xs := by
  refine R_mono (R_bound h) (fun k hk => ⟨hk.1, fun he => ?_⟩)
  obtain ⟨_, _, _, q, hq, cells, hc⟩ := hk
  obtain ⟨cells', hc'⟩ := hty k he.symm
  rw [hc] at hc'
  injection hc' with hc'
  injection hc' with _ hc'
  exact ht q hq hc'
theorem R_elder' (hu : d.R e W base ok u xs) (hbase : ∀ k, v.ownBlock = some k → W.heap.size ≤ k) (hb : Below W.heap.size W w1) : d.R e w1 base (fun k => ok k ∧ some k ≠ v.ownBlock) u xs :=
  R_mono (R_move (R_bound hu) (fun k hk => hb.block k hk.2.2.1)) (fun k hk => ⟨hk.1, fun he => by have := hbase k he.symm; have := hk.2.2.1; omega⟩)
theorem R_new' (h : d.R e w1 W.heap.size ok v xs) (hlt : ∀ k, u.ownBlock = some k → k < W.heap.size) : d.R e w1 W.heap.size (fun k => ok k ∧ some k ≠ u.ownBlock) v xs :=
  R_mono (R_bound h) (fun k hk => ⟨hk.1, fun he => by have := hlt k he.symm; have := hk.2.1; omega⟩)
theorem fresh' (hlt : ∀ k, u.ownBlock = some k → k < W.heap.size) : ∀ k, W.heap.size ≤ k → some k ≠ u.ownBlock := fun k hk he => by have := hlt k he.symm; omega
end
end Kd
namespace Kd
section
variable {α : Type} {d : Kd α} {e base g n cap : Nat} {ok okp : Nat → Prop} {W : World} {xs : List α}
end
end Kd
namespace Kd
section
variable {α : Type} {F : Kd α → Kd α} {sz : Nat} {E : List Nat} {hs : ∀ n, (upto F sz E n).sz = sz} {hE : ∀ n q, q ∈ (upto F sz E n).E → q ∈ E}
end
end Kd
namespace Kd
section
variable {P : Program} {ops : Array Oper} {rest : List Oper} {o : Oper} {a : Act} {Q : Exit → Act → World → Prop} {α : Type}
end
end Kd
namespace Kd
section
variable {P : Program} {ops : Array Oper} {rest : List Oper} {o : Oper} {a : Act} {Q : Exit → Act → World → Prop} {α : Type}
end
end Kd
theorem add_add (a : Addr) (i j : Nat) : (a.add i).add j = a.add (i + j) := by
  unfold Addr.add
  by_cases h1 : i = 0 <;> by_cases h2 : j = 0 <;> simp [h1, h2, Nat.add_assoc]
namespace Kd
section
variable {α : Type} {k : Kd α} {w : World} {A : Option Addr} {xs : List α} {m c : Nat}
end
end Kd
section
variable {P : Program}
end
theorem below_size {w W : World} (h : Below w.heap.size w W) : w.heap.size ≤ W.heap.size := h.size
theorem below_step {w W w2 : World} (h : Below w.heap.size w W) (k : Below W.heap.size W w2) : Below w.heap.size w w2 := below_then h h.size k
theorem ReadsInt.nil (W : World) (k : IntKind) : ReadsInt W k none ([] : List Int).length [] := ⟨rfl, by simp, fun h => absurd h (Nat.lt_irrefl 0)⟩
theorem ReadsInt.drewN {W : World} {k : IntKind} {A : Option Addr} {n : Nat} {xs : List Int} (h : ReadsInt W k A n xs) (m : Nat) : ReadsInt (W.drewN m) k A n xs := h
theorem below_set {w W : World} {g j : Nat} {v : Value} (h : Below w.heap.size w W) (hg : w.heap.size ≤ g) : Below w.heap.size w (W.setCell ⟨g, j, none⟩ v) := h.setCell hg _
theorem add_block (a : Addr) (i : Nat) : (a.add i).block = a.block := by unfold Addr.add; split <;> rfl
theorem ReadsOf.nil {α : Type} (enc : α → Value) (d : α) (W : World) : ReadsOf enc d W none ([] : List α).length [] := ⟨rfl, by simp, fun h => absurd h (Nat.lt_irrefl 0)⟩
theorem ReadsOf.drewN {α : Type} {enc : α → Value} {d : α} {W : World} {A : Option Addr} {n : Nat} {xs : List α} (h : ReadsOf enc d W A n xs) (m : Nat) : ReadsOf enc d (W.drewN m) A n xs := h
theorem blk_put {w : World} {g : Nat} {t : TypeId} {cs cs' : Array Value} (h : w.heap[g]? = some (.cells cs t (0, 0))) (i : Nat) (u : Value) (e : cs.setIfInBounds i u = cs') : (w.setCell ⟨g, i, none⟩ u).heap[g]? = some (.cells cs' t (0, 0)) := e ▸ blk_set h i u
theorem below_drew1 {base : Nat} {w W : World} (h : Below base w W) : Below base w W.drew := h.drew
namespace Kd
section
variable {α β : Type} {d : Kd α} {d' : Kd β} {e e' base base' n : Nat} {ok ok' : Nat → Prop} {w W w1 W1 : World} {v u : Value} {xs : List α} {ys : List β} {A : Option Addr} {c : Nat}
end
section
variable {α : Type} {enc : α → Value} {h1 : ∀ x, (enc x).oneCell' = true} {w W : World} {A : Option Addr} {n g : Nat} {xs : List α}
end
end Kd
namespace Kd
section
variable {α : Type} {d : Kd α} {e base g : Nat} {ok : Nat → Prop} {w w1 : World} {v : Value} {xs : List α} {o : Obj}
theorem freshB (hb : w.heap[g]? = some o) : ∀ k, w.heap.size ≤ k → k ≠ g := fun k hk => by have := blk_lt hb; omega
end
end Kd
section
variable {P : Program} {ops : Array Oper} {rest : List Oper} {o : Oper} {a : Act} {Q : Exit → Act → World → Prop}
theorem box_event {W : World} (hgd : o.guard = none) {N : Tmp} (_hd : o.dst = some N) {cs : Array Value} {t : TypeId}
    (hrun : (execOp a.eval o).run P W = .ok (.value (.pointer (some ⟨W.heap.size, 0, none⟩))) (W.alloc (.cells cs t (0, 0))))
    (h : ∀ g, g = W.heap.size → ∀ w1, w1.heap[g]? = some (.cells cs t (0, 0)) → Below W.heap.size W w1 → wpList P ops Q rest (a.put o.dst (.pointer (some ⟨g, 0, none⟩))) w1) : wpList P ops Q (o :: rest) a W :=
  Kd.event_run hgd hrun (h _ rfl _ (blk_new W _) (below_alloc (Below.refl _ _) _))
end
namespace Kd
section
variable {α : Type} {enc : α → Value} {h1 : ∀ x, (enc x).oneCell' = true} {e base g n cap : Nat} {ok : Nat → Prop} {W : World} {xs : List α}
end
end Kd
section
variable {P : Program} {ops : Array Oper} {rest : List Oper} {o : Oper} {a : Act} {Q : Exit → Act → World → Prop}
end
namespace Kd
section
variable {α : Type} {enc : α → Value} {h1 : ∀ x, (enc x).oneCell' = true} {e base g n cap : Nat} {ok : Nat → Prop} {W : World} {xs : List α}
end
end Kd
section
variable {P : Program} {ops : Array Oper} {rest : List Oper} {o : Oper} {a : Act} {Q : Exit → Act → World → Prop} {W : World}
theorem gate_dst {N : Tmp} (_hN : o.dst = some N) (h : wpList P ops Q (o :: rest) a W) : wpList P ops Q (o :: rest) a W := h
end
section
variable {P : Program} {ops : Array Oper} {o : Oper} {a : Act} {Q : Exit → Act → World → Prop} {Kc : Act → World → Prop}
namespace Kd
variable {α : Type}
end Kd
end
section
variable {P : Program} {tmps : Array Value} {w : World}
end
namespace Kd
section
variable {P : Program} {α : Type}
end
section
variable {P : Program} {ops : Array Oper} {rest : List Oper} {o : Oper} {a : Act} {Q : Exit → Act → World → Prop} {Kc : Act → World → Prop} {α : Type}
end
end Kd
end Go.Proofs.YtjlcebgfknfelaaW.PrintWords

-- PRINTED BY print.sh 35421559b90ae4d0a3588c463048766b98c2df88dd9212a6774a882060cdf62d: not written by this session
namespace Go.Proofs.YtjlcebgfknfelaaW.PrintLast
section
variable {P : Program} {ops : Array Oper} {Q : Exit → Act → World → Prop} {md : Region.Mode} {S : World → Prop} {ds : List Nat}
/-- Operation d waits for operation i, by a chain of at most 'fuel' edges. -/
def Region.reachB (md : Region.Mode) (ops : Array Oper) (i : Nat) : Nat → Nat → Bool
  | 0, _ => false
  | fuel + 1, d => match ops[d]? with
    | some o => o.after.any fun e => Region.binds md e && (e.on == i || Region.reachB md ops i fuel e.on)
    | none => false
/-- What is listed is closed under the edges. -/
def Region.closedB (md : Region.Mode) (ops : Array Oper) (listed : Array Bool) : Bool :=
  (List.range ops.size).all fun j => !listed.getD j false || match ops[j]? with
    | some o => o.after.all fun e => !Region.binds md e || listed.getD e.on false
    | none => true
/-- Each of ds that has not come up yet waits for number i. -/
def Region.lastB (md : Region.Mode) (ops : Array Oper) (listed : Array Bool) (ds : List Nat) (i : Nat) : Bool :=
  ds.all fun d => listed.getD d true || Region.reachB md ops i ops.size d
def ListedClosed (md : Region.Mode) (ops : Array Oper) (listed : Array Bool) : Prop :=
  ∀ j oj, ops[j]? = some oj → listed.getD j false = true → ∀ e ∈ oj.after, Region.binds md e = true → listed.getD e.on false = true
theorem Region.closedB_spec {listed : Array Bool} (h : Region.closedB md ops listed = true) : ListedClosed md ops listed := by
  intro j oj hj hl e he hb
  have hlt : j < ops.size := (Array.getElem?_eq_some_iff.1 hj).1
  have h1 := List.all_eq_true.1 h j (List.mem_range.2 hlt)
  simp only [hl, hj, Bool.not_true, Bool.false_or] at h1
  have h2 := Array.all_eq_true_iff_forall_mem.1 h1 e he
  simpa [hb] using h2
theorem ListedClosed.set {listed : Array Bool} {i : Nat} (h : ListedClosed md ops listed) (hi : i ∈ Region.ready md ops listed) : ListedClosed md ops (listed.setIfInBounds i true) := by
  obtain ⟨_, oi, hoi, hall⟩ := mem_ready.1 hi
  intro j oj hj hl e he hb
  by_cases hij : i = j
  · subst hij
    have : oj = oi := Option.some.inj (hj.symm.trans hoi)
    subst this
    exact getD_set_true (hall e he hb)
  · rw [getD_set_ne false hij] at hl
    exact getD_set_true (h j oj hj hl e he hb)
theorem Region.reach_listed {listed : Array Bool} {i : Nat} (hc : ListedClosed md ops listed) : ∀ (fuel d : Nat), Region.reachB md ops i fuel d = true → listed.getD d false = true → listed.getD i false = true
  | 0, _, h, _ => by simp [Region.reachB] at h
  | fuel + 1, d, h, hl => by
    unfold Region.reachB at h
    cases ho : ops[d]? with
    | none => rw [ho] at h; simp at h
    | some o =>
      rw [ho] at h
      obtain ⟨e, he, h1⟩ := Array.any_eq_true'.1 h
      simp only [Bool.and_eq_true, Bool.or_eq_true, beq_iff_eq] at h1
      have hle := hc d o ho hl e he h1.1
      rcases h1.2 with h2 | h2
      · rw [← h2]; exact hle
      · exact Region.reach_listed hc fuel e.on h2 hle
/-- What waits for i cannot come up before i is listed. -/
theorem Region.reach_not_ready {listed : Array Bool} {i d fuel : Nat} (hc : ListedClosed md ops listed) (hr : Region.reachB md ops i fuel d = true) (hun : listed.getD i true = false) : d ∉ Region.ready md ops listed := by
  intro hd
  obtain ⟨_, o, ho, hall⟩ := mem_ready.1 hd
  have hi : listed.getD i false = true := by
    cases fuel with
    | zero => simp [Region.reachB] at hr
    | succ n =>
      unfold Region.reachB at hr
      rw [ho] at hr
      obtain ⟨e, he, h1⟩ := Array.any_eq_true'.1 hr
      simp only [Bool.and_eq_true, Bool.or_eq_true, beq_iff_eq] at h1
      have hle := hall e he h1.1
      rcases h1.2 with h2 | h2
      · rw [← h2]; exact hle
      · exact Region.reach_listed hc n e.on h2 hle
  rcases Nat.lt_or_ge i listed.size with h' | h'
  · simp [h'] at hun hi
    rw [hun] at hi
    cases hi
  · simp [Array.getElem?_eq_none h'] at hun
/-- Whatever order is picked from here on, AND 'S' HOLDS BEHIND EVERY OPERATION THAT IS CARRIED OUT, those of ds apart. -/
def wpAnyLast (P : Program) (md : Region.Mode) (ops : Array Oper) (Q : Exit → Act → World → Prop) (S : World → Prop) (ds : List Nat) : Nat → Array Bool → Act → World → Prop
  | 0, listed, a, w => Region.ready md ops listed = [] ∧ Q .normal a w
  | fuel + 1, listed, a, w =>
    (Region.ready md ops listed = [] → Q .normal a w) ∧
    ∀ i ∈ Region.ready md ops listed, wpOp P ops Q i (fun a' w' => (i ∉ ds → S w → S w') ∧ wpAnyLast P md ops Q S ds fuel (listed.setIfInBounds i true) a' w') a w
theorem wpAny_of_last : ∀ (fuel : Nat) (listed : Array Bool) (a : Act) (w : World), wpAnyLast P md ops Q S ds fuel listed a w → wpAny P md ops Q fuel listed a w
  | 0, _, _, _, h => h
  | fuel + 1, _, _, _, h => ⟨h.1, fun i hi => wpOp_mono (fun a' w' h' => wpAny_of_last fuel _ a' w' h'.2) (h.2 i hi)⟩
theorem wpAnyLast_first {i : Nat} {oi : Oper} {v : Value} (hi : ops[i]? = some oi) (hsel : ∀ (j : Nat) (o : Oper) cs b, ops[j]? = some o → o.op ≠ .select cs b)
    (hQ : ∀ c a w, Q (.panic c) (a.put oi.dst v) w → Q (.panic c) a w) (n : Nat) :
    ∀ (fuel : Nat) (listed : Array Bool) (a : Act) (w : World),
      (∀ j oj, ops[j]? = some oj → j ≠ i → listed.getD j true = false → (∀ e ∈ oj.after, Region.binds md e = true → e.on ≠ i) → oi.apart ops oj = true) →
      ListedClosed md ops listed → (∀ d ∈ ds, listed.getD d true = false → Region.reachB md ops i n d = true) →
      i ∈ Region.ready md ops listed → YieldsIf P ops S oi v a → S w →
      wpAnyLast P md ops Q S ds fuel (listed.setIfInBounds i true) (a.put oi.dst v) w → wpAnyLast P md ops Q S ds (fuel + 1) listed a w := by
  intro fuel
  induction fuel with
  | zero =>
    intro listed a w _ _ _ hr hy hS H
    refine ⟨fun h => (by rw [h] at hr; cases hr), fun j hj => ?_⟩
    by_cases hji : j = i
    · subst hji; exact hy.wpOp hi hS ⟨fun _ h => h, H⟩
    · have := ready_mono hj hji
      rw [H.1] at this
      cases this
  | succ fuel ih =>
    intro listed a w hfree hc hd hr hy hS H
    refine ⟨fun h => (by rw [h] at hr; cases hr), fun j hj => ?_⟩
    by_cases hji : j = i
    · subst hji; exact hy.wpOp hi hS ⟨fun _ h => h, H⟩
    · have h1 := H.2 j (ready_mono hj hji)
      obtain ⟨hjun, oj, hoj, hall⟩ := mem_ready.1 hj
      have hiun := (mem_ready.1 hr).1
      have hnot : ∀ e ∈ oj.after, Region.binds md e = true → e.on ≠ i := fun e he hb heq => by
        have h1 := hall e he hb
        rw [heq] at h1
        rcases Nat.lt_or_ge i listed.size with h' | h'
        · simp [h'] at hiun h1; rw [hiun] at h1; cases h1
        · simp [Array.getElem?_eq_none h'] at h1
      have hjd : j ∉ ds := fun hm => Region.reach_not_ready hc (hd j hm hjun) hiun hj
      have h2 := wpOp_putIf hoj (hfree j oj hoj hji hjun hnot) (fun cs b => hsel i oi cs b hi) (fun cs b => hsel j oj cs b hoj) hQ hy h1
      have hfree' : ∀ k ok, ops[k]? = some ok → k ≠ i → (listed.setIfInBounds j true).getD k true = false →
          (∀ e ∈ ok.after, Region.binds md e = true → e.on ≠ i) → oi.apart ops ok = true := fun k ok hk hki hun hno => by
        refine hfree k ok hk hki ?_ hno
        by_cases hjk : j = k
        · subst hjk; exact hjun
        · rw [getD_set_ne true hjk] at hun; exact hun
      have hd' : ∀ d ∈ ds, (listed.setIfInBounds j true).getD d true = false → Region.reachB md ops i n d = true := fun d hm hun => by
        refine hd d hm ?_
        by_cases hjk : j = d
        · subst hjk; exact hjun
        · rw [getD_set_ne true hjk] at hun; exact hun
      refine wpOp_mono (fun a' w' h3 => ⟨h3.2.1, ih (listed.setIfInBounds j true) a' w' hfree' (hc.set hj) hd' (ready_mono hr (Ne.symm hji)) h3.1 (h3.2.1 hjd hS) ?_⟩) h2
      rw [Array.setIfInBounds_comm _ _ hji]
      exact h3.2.2
/-- Take number 'i' first, which yields whatever the world: no S is asked for, nor that anything waits for it. -/
theorem wpAnyLast_any {i : Nat} {oi : Oper} {v : Value} (hi : ops[i]? = some oi) (hsel : ∀ (j : Nat) (o : Oper) cs b, ops[j]? = some o → o.op ≠ .select cs b)
    (hQ : ∀ c a w, Q (.panic c) (a.put oi.dst v) w → Q (.panic c) a w) :
    ∀ (fuel : Nat) (listed : Array Bool) (a : Act) (w : World),
      (∀ j oj, ops[j]? = some oj → j ≠ i → listed.getD j true = false → (∀ e ∈ oj.after, Region.binds md e = true → e.on ≠ i) → oi.apart ops oj = true) →
      i ∈ Region.ready md ops listed → Yields P ops oi v a →
      wpAnyLast P md ops Q S ds fuel (listed.setIfInBounds i true) (a.put oi.dst v) w → wpAnyLast P md ops Q S ds (fuel + 1) listed a w := by
  intro fuel
  induction fuel with
  | zero =>
    intro listed a w _ hr hy H
    refine ⟨fun h => (by rw [h] at hr; cases hr), fun j hj => ?_⟩
    by_cases hji : j = i
    · subst hji; exact (hy.yieldsIf (S := fun _ => True)).wpOp hi trivial ⟨fun _ h => h, H⟩
    · have := ready_mono hj hji
      rw [H.1] at this
      cases this
  | succ fuel ih =>
    intro listed a w hfree hr hy H
    refine ⟨fun h => (by rw [h] at hr; cases hr), fun j hj => ?_⟩
    by_cases hji : j = i
    · subst hji; exact (hy.yieldsIf (S := fun _ => True)).wpOp hi trivial ⟨fun _ h => h, H⟩
    · have h1 := H.2 j (ready_mono hj hji)
      obtain ⟨hjun, oj, hoj, hall⟩ := mem_ready.1 hj
      have hiun := (mem_ready.1 hr).1
      have hnot : ∀ e ∈ oj.after, Region.binds md e = true → e.on ≠ i := fun e he hb heq => by
        have h1 := hall e he hb
        rw [heq] at h1
        rcases Nat.lt_or_ge i listed.size with h' | h'
        · simp [h'] at hiun h1; rw [hiun] at h1; cases h1
        · simp [Array.getElem?_eq_none h'] at h1
      have h2 := wpOp_put hoj (hfree j oj hoj hji hjun hnot) (fun cs b => hsel i oi cs b hi) (fun cs b => hsel j oj cs b hoj) hQ hy h1
      have hfree' : ∀ k ok, ops[k]? = some ok → k ≠ i → (listed.setIfInBounds j true).getD k true = false →
          (∀ e ∈ ok.after, Region.binds md e = true → e.on ≠ i) → oi.apart ops ok = true := fun k ok hk hki hun hno => by
        refine hfree k ok hk hki ?_ hno
        by_cases hjk : j = k
        · subst hjk; exact hjun
        · rw [getD_set_ne true hjk] at hun; exact hun
      refine wpOp_mono (fun a' w' h3 => ⟨h3.2.1, ih (listed.setIfInBounds j true) a' w' hfree' (ready_mono hr (Ne.symm hji)) h3.1 ?_⟩) h2
      rw [Array.setIfInBounds_comm _ _ hji]
      exact h3.2.2
/-- Take number 'i' first. -/
theorem wpAnyLast_take {i : Nat} {oi : Oper} {v : Value} {fuel : Nat} {listed : Array Bool} {a : Act} {w : World} (hi : ops[i]? = some oi)
    (hs : Region.noSelect ops = true) (hf : Region.free md ops listed i = true) (hr : (Region.ready md ops listed).contains i = true)
    (hc : Region.closedB md ops listed = true) (hl : Region.lastB md ops listed ds i = true)
    (hQ : ∀ c a w, Q (.panic c) (a.put oi.dst v) w → Q (.panic c) a w) (hy : YieldsIf P ops S oi v a) (hS : S w)
    (h : wpAnyLast P md ops Q S ds fuel (listed.setIfInBounds i true) (a.put oi.dst v) w) : wpAnyLast P md ops Q S ds (fuel + 1) listed a w :=
  wpAnyLast_first hi (Region.noSelect_spec hs) hQ ops.size fuel listed a w (Region.free_spec hi hf) (Region.closedB_spec hc)
    (fun d hm hun => by have := List.all_eq_true.1 hl d hm; rw [hun] at this; simpa using this) (by simpa using hr) hy hS h
theorem wpAnyLast_all {rs : List Nat} {fuel : Nat} {listed : Array Bool} {a : Act} {w : World} (hr : Region.ready md ops listed = rs) (hne : rs ≠ [])
    (h : ∀ i ∈ rs, wpOp P ops Q i (fun a' w' => (i ∉ ds → S w → S w') ∧ wpAnyLast P md ops Q S ds fuel (listed.setIfInBounds i true) a' w') a w) : wpAnyLast P md ops Q S ds (fuel + 1) listed a w :=
  ⟨fun h0 => absurd (hr ▸ h0) hne, hr ▸ h⟩
theorem wpAnyLast_done {listed : Array Bool} {a : Act} {w : World} (hr : Region.ready md ops listed = []) (h : Q .normal a w) :
    ∀ fuel, wpAnyLast P md ops Q S ds fuel listed a w
  | 0 => ⟨hr, h⟩
  | _ + 1 => ⟨fun _ => h, by rw [hr]; simp⟩
theorem wp_region_last {id : Nat} {a : Act} {w : World} (hm : P.follows .mixedOrders = true)
    (h : wpAnyLast P .any ops Q S ds ops.size (Array.replicate ops.size false) a { w with drawn := w.drawn + 1 }) : (Code.region id ops true).wp P Q a w :=
  wp_region_any hm (wpAny_of_last _ _ _ _ h)
end
section
variable {P : Program} {ops : Array Oper} {Q : Exit → Act → World → Prop} {md : Region.Mode} {S : World → Prop} {ds : List Nat}
def AllReadyL (P : Program) (md : Region.Mode) (ops : Array Oper) (Q : Exit → Act → World → Prop) (S : World → Prop) (ds : List Nat) (fuel : Nat) (listed : Array Bool) (a : Act) (w : World) (rs : List Nat) : Prop :=
  ∀ i ∈ rs, wpOp P ops Q i (fun a' w' => (i ∉ ds → S w → S w') ∧ wpAnyLast P md ops Q S ds fuel (listed.setIfInBounds i true) a' w') a w
theorem AllReadyL.nil {fuel : Nat} {listed : Array Bool} {a : Act} {w : World} : AllReadyL P md ops Q S ds fuel listed a w [] := fun _ h => by cases h
theorem AllReadyL.cons {fuel : Nat} {listed : Array Bool} {a : Act} {w : World} {i : Nat} {o : Oper} {rs : List Nat} (ho : ops[i]? = some o) (hd : i ∉ ds)
    (h : ∀ K' : Act → World → Prop, Shut (∀ a w, S w → (S w → wpAnyLast P md ops Q S ds fuel (listed.setIfInBounds i true) a w) → K' a w) → if Region.wanted o (yielded ops a.tmps) = true then Oper.wp P o a w K' Q else K' (a.put o.dst undef) w)
    (hs : AllReadyL P md ops Q S ds fuel listed a w rs) : AllReadyL P md ops Q S ds fuel listed a w (i :: rs) := fun j hj => by
  rcases List.mem_cons.1 hj with rfl | hj
  · exact wpOp_step ho (fun K' hK => h K' (fun a w hS hW => hK a w ⟨fun _ _ => hS, hW hS⟩))
  · exact hs j hj
/-- Behind an operation of ds nothing is shown. -/
theorem AllReadyL.cons_last {fuel : Nat} {listed : Array Bool} {a : Act} {w : World} {i : Nat} {o : Oper} {rs : List Nat} (ho : ops[i]? = some o) (hd : i ∈ ds)
    (h : ∀ K' : Act → World → Prop, Shut (∀ a w, wpAnyLast P md ops Q S ds fuel (listed.setIfInBounds i true) a w → K' a w) → if Region.wanted o (yielded ops a.tmps) = true then Oper.wp P o a w K' Q else K' (a.put o.dst undef) w)
    (hs : AllReadyL P md ops Q S ds fuel listed a w rs) : AllReadyL P md ops Q S ds fuel listed a w (i :: rs) := fun j hj => by
  rcases List.mem_cons.1 hj with rfl | hj
  · exact wpOp_step ho (fun K' hK => h K' (fun a w hW => hK a w ⟨fun hn => absurd hd hn, hW⟩))
  · exact hs j hj
theorem wpAnyLast_ready {rs : List Nat} {fuel : Nat} {listed : Array Bool} {a : Act} {w : World} (hr : Region.ready md ops listed = rs) (hne : rs ≠ [])
    (h : AllReadyL P md ops Q S ds fuel listed a w rs) : wpAnyLast P md ops Q S ds (fuel + 1) listed a w := wpAnyLast_all hr hne h
/-- THE SAME STEPS WITH WHAT HAS COME UP WRITTEN OUT (a literal array of Bools) and one check a step: quicker, and what is printed stays short. -/
theorem start_ {id n : Nat} {a : Act} {w : World} (l : Array Bool) (hm : P.follows .mixedOrders = true) (hn : ops.size = n) (hl : Array.replicate n false = l) (hS : S w.drew)
    (h : S w.drew → wpAnyLast P .any ops Q S ds n l a w.drew) : (Code.region id ops true).wp P Q a w := by
  subst hn
  subst hl
  exact wp_region_last hm (h hS)
def takeB (md : Region.Mode) (ops : Array Oper) (ds : List Nat) (l l' : Array Bool) (i : Nat) : Bool :=
  Region.noSelect ops && Region.free md ops l i && (Region.ready md ops l).contains i && Region.closedB md ops l && Region.lastB md ops l ds i && (l.setIfInBounds i true == l')
theorem take_ {i : Nat} {N : Option Tmp} {oi : Oper} {v : Value} {fuel : Nat} {l : Array Bool} {a : Act} {w : World} (l' : Array Bool) (hi : ops[i]? = some oi) (hN : oi.dst = N) (hc : takeB md ops ds l l' i = true)
    (hQ : ∀ c a w, Q (.panic c) (a.put oi.dst v) w → Q (.panic c) a w) (hy : YieldsIf P ops S oi v a) (hS : S w) {a' : Act} (ha : a.put N v = a')
    (h : wpAnyLast P md ops Q S ds fuel l' a' w) : wpAnyLast P md ops Q S ds (fuel + 1) l a w := by
  subst ha
  subst hN
  simp only [takeB, Bool.and_eq_true, beq_iff_eq] at hc
  obtain ⟨⟨⟨⟨⟨h1, h2⟩, h3⟩, h4⟩, h5⟩, h6⟩ := hc
  subst h6
  exact wpAnyLast_take hi h1 h2 h3 h4 h5 hQ hy hS h
def anyB (md : Region.Mode) (ops : Array Oper) (l l' : Array Bool) (i : Nat) : Bool :=
  Region.noSelect ops && Region.free md ops l i && (Region.ready md ops l).contains i && (l.setIfInBounds i true == l')
/-- An operation that yields in every world (a move, a number, an address): taken first wherever it may come up, behind a store too. -/
theorem pure_ {i : Nat} {N : Option Tmp} {oi : Oper} {v : Value} {fuel : Nat} {l : Array Bool} {a : Act} {w : World} (l' : Array Bool) (hi : ops[i]? = some oi) (hN : oi.dst = N) (hc : anyB md ops l l' i = true)
    (hQ : ∀ c a w, Q (.panic c) (a.put oi.dst v) w → Q (.panic c) a w) (hy : Yields P ops oi v a) {a' : Act} (ha : a.put N v = a')
    (h : wpAnyLast P md ops Q S ds fuel l' a' w) : wpAnyLast P md ops Q S ds (fuel + 1) l a w := by
  subst ha
  subst hN
  simp only [anyB, Bool.and_eq_true, beq_iff_eq] at hc
  obtain ⟨⟨⟨h1, h2⟩, h3⟩, h6⟩ := hc
  subst h6
  exact wpAnyLast_any hi (Region.noSelect_spec h1) hQ fuel l a w (Region.free_spec hi h2) (by simpa using h3) hy h
def readyB (md : Region.Mode) (ops : Array Oper) (l l' : Array Bool) (i : Nat) : Bool := (Region.ready md ops l == [i]) && (l.setIfInBounds i true == l')
/-- One operation alone may come up now (a call, a build, an append ..): it is run, S is shown behind it. -/
theorem one_ {i : Nat} {N : Option Tmp} {oi : Oper} {fuel : Nat} {l : Array Bool} {a : Act} {w : World} (l' : Array Bool) (hi : ops[i]? = some oi) (hN : oi.dst = N) (hc : readyB md ops l l' i = true) (hd : i ∉ ds)
    (h : ∀ K : Act → World → Prop, Shut (∀ a' w', S w' → (S w' → wpAnyLast P md ops Q S ds fuel l' a' w') → K a' w') → if Region.wanted oi (yielded ops a.tmps) = true then Oper.wp P oi a w K Q else K (a.put N undef) w) :
    wpAnyLast P md ops Q S ds (fuel + 1) l a w := by
  subst hN
  simp only [readyB, Bool.and_eq_true, beq_iff_eq] at hc
  obtain ⟨h1, h2⟩ := hc
  subst h2
  exact wpAnyLast_ready h1 (by simp) (AllReadyL.cons hi hd (fun K hK => h K hK) AllReadyL.nil)
/-- The same for one of ds: nothing is shown behind it. -/
theorem last_ {i : Nat} {N : Option Tmp} {oi : Oper} {fuel : Nat} {l : Array Bool} {a : Act} {w : World} (l' : Array Bool) (hi : ops[i]? = some oi) (hN : oi.dst = N) (hc : readyB md ops l l' i = true) (hd : i ∈ ds)
    (h : ∀ K : Act → World → Prop, Shut (∀ a' w', wpAnyLast P md ops Q S ds fuel l' a' w' → K a' w') → if Region.wanted oi (yielded ops a.tmps) = true then Oper.wp P oi a w K Q else K (a.put N undef) w) :
    wpAnyLast P md ops Q S ds (fuel + 1) l a w := by
  subst hN
  simp only [readyB, Bool.and_eq_true, beq_iff_eq] at hc
  obtain ⟨h1, h2⟩ := hc
  subst h2
  exact wpAnyLast_ready h1 (by simp) (AllReadyL.cons_last hi hd (fun K hK => h K hK) AllReadyL.nil)
theorem done_ {l : Array Bool} {a : Act} {w : World} {n : Nat} (hr : (Region.ready md ops l == []) = true) (h : Q .normal a w) : wpAnyLast P md ops Q S ds n l a w := wpAnyLast_done (by simpa using hr) h n
theorem two_ {i j : Nat} {Ni Nj : Option Tmp} {oi oj : Oper} {fuel : Nat} {l : Array Bool} {a : Act} {w : World} (li lj : Array Bool) (hi : ops[i]? = some oi) (hj : ops[j]? = some oj) (hNi : oi.dst = Ni) (hNj : oj.dst = Nj)
    (hc : (Region.ready md ops l == [i, j] && l.setIfInBounds i true == li && l.setIfInBounds j true == lj) = true) (hdi : i ∉ ds) (hdj : j ∉ ds)
    (h1 : ∀ K : Act → World → Prop, Shut (∀ a' w', S w' → (S w' → wpAnyLast P md ops Q S ds fuel li a' w') → K a' w') → if Region.wanted oi (yielded ops a.tmps) = true then Oper.wp P oi a w K Q else K (a.put Ni undef) w)
    (h2 : ∀ K : Act → World → Prop, Shut (∀ a' w', S w' → (S w' → wpAnyLast P md ops Q S ds fuel lj a' w') → K a' w') → if Region.wanted oj (yielded ops a.tmps) = true then Oper.wp P oj a w K Q else K (a.put Nj undef) w) :
    wpAnyLast P md ops Q S ds (fuel + 1) l a w := by
  subst hNi
  subst hNj
  simp only [Bool.and_eq_true, beq_iff_eq] at hc
  obtain ⟨⟨h3, h4⟩, h5⟩ := hc
  subst h4
  subst h5
  exact wpAnyLast_ready h3 (by simp) (AllReadyL.cons hi hdi (fun K hK => h1 K hK) (AllReadyL.cons hj hdj (fun K hK => h2 K hK) AllReadyL.nil))
/-- The act with some destinations filled. -/
def putAll : Act → List (Tmp × Value) → Act
  | a, [] => a
  | a, (n, v) :: r => putAll (a.put (some n) v) r
/-- What follows, once: s the values that the orders leave, F what is known of them and of the world. -/
theorem join_ {σ : Type} {fuel : Nat} {l : Array Bool} {a : Act} {w : World} (fuel' : Nat) (l' : Array Bool) (ns : σ → List (Tmp × Value)) (F : σ → World → Prop)
    (hcont : ∀ s w', F s w' → wpAnyLast P md ops Q S ds fuel' l' (putAll a (ns s)) w')
    (h : (∀ s w', F s w' → wpAnyLast P md ops Q S ds fuel' l' (putAll a (ns s)) w') → wpAnyLast P md ops Q S ds fuel l a w) : wpAnyLast P md ops Q S ds fuel l a w := h hcont
/-- The act written out. -/
theorem norm_ {fuel : Nat} {l : Array Bool} {a a' : Act} {w : World} (ha : a = a') (h : wpAnyLast P md ops Q S ds fuel l a' w) : wpAnyLast P md ops Q S ds fuel l a w := by
  subst ha
  exact h
/-- A call of a Go function, by its contract. -/
theorem call_ {oi : Oper} {N : Option Tmp} {a : Act} {w : World} {K : Act → World → Prop} (f : FuncId) (args : Array Value) (hw : Region.wanted oi (yielded ops a.tmps) = true) (hN : oi.dst = N) (hrun : (execOp a.eval oi).run P w = .ok (.enter f args) w)
    (h : Calls P f args w fun e w' => ∃ v, e = .returned v ∧ K (a.put N v) w') : if Region.wanted oi (yielded ops a.tmps) = true then Oper.wp P oi a w K Q else K (a.put N undef) w := by
  rw [if_pos hw]
  subst hN
  unfold Oper.wp
  rw [hrun, Oper.upon_enter]
  refine h.mono fun e w'' hh => ?_
  obtain ⟨v, rfl, hk⟩ := hh
  exact hk
theorem enters_ {f : FuncId} {fn : Func} (hf : P.funcs[f]? = some fn) (hname : (fn.name == "runtime.NumGoroutine") = false) (hb : fn.body.isSome = true) (args : Array Value) (w : World) : (callFunc f args).run P w = .ok (.enter f args) w := by
  have h1 : fn.name ≠ "runtime.NumGoroutine" := by simpa using hname
  obtain ⟨c, hc⟩ := Option.isSome_iff_exists.1 hb
  simp [callFunc, hf, h1, hc]
/-- The same, the operation's run shown here: 'goes_ A.func3 (by kernel_rfl) rfl #[..] (by rfl) rfl rfl (by rfl) ?_'. -/
theorem goes_ {oi : Oper} {N : Option Tmp} {a : Act} {w : World} {K : Act → World → Prop} {f : FuncId} {fn : Func} {as_ : Array Operand} {ts : Array TypeId} (hf : P.funcs[f]? = some fn) (hname : (fn.name == "runtime.NumGoroutine") = false) (hb : fn.body.isSome = true) (args : Array Value)
    (hw : Region.wanted oi (yielded ops a.tmps) = true) (hN : oi.dst = N) (hop : oi.op = .call { callee := .value (.func f), args := as_, argTypes := ts }) (hargs : as_.map a.eval = args)
    (h : Calls P f args w fun e w' => ∃ v, e = .returned v ∧ K (a.put N v) w') : if Region.wanted oi (yielded ops a.tmps) = true then Oper.wp P oi a w K Q else K (a.put N undef) w := by
  refine call_ f args hw hN ?_ h
  have he := enters_ hf hname hb args w
  unfold execOp
  simp [hop, resolve, Deferred.ofValue, invoke, Act.eval, hargs, he]
/-- A call in a plain region, as_ an arm of go_wp2_with ('hd' first: it fails at once at another operation). -/
theorem goesL_ {rest : List Oper} {oi : Oper} {a : Act} {w : World} (N : Option Tmp) (hd : oi.dst = N) (hg : oi.guard = none) {f : FuncId} {fn : Func} {as_ : Array Operand} {ts : Array TypeId} (hf : P.funcs[f]? = some fn) (hname : (fn.name == "runtime.NumGoroutine") = false) (hb : fn.body.isSome = true) (args : Array Value)
    (hop : oi.op = .call { callee := .value (.func f), args := as_, argTypes := ts }) (hargs : as_.map a.eval = args)
    (h : Calls P f args w fun e w' => ∃ v, e = .returned v ∧ wpList P ops Q rest (a.put N v) w') : wpList P ops Q (oi :: rest) a w := by
  refine wpList_plain hg fun K hK => ?_
  have he := enters_ hf hname hb args w
  have hrun : (execOp a.eval oi).run P w = .ok (.enter f args) w := by
    unfold execOp
    simp [hop, resolve, Deferred.ofValue, invoke, Act.eval, hargs, he]
  unfold Oper.wp
  rw [hrun, Oper.upon_enter]
  refine h.mono fun e w'' hh => ?_
  obtain ⟨v, rfl, hk⟩ := hh
  subst hd
  exact hK _ _ hk
/-- An operation that yields a value (and may make memory). -/
theorem value_ {oi : Oper} {N : Option Tmp} {a : Act} {w w1 : World} {v : Value} {K : Act → World → Prop} (hw : Region.wanted oi (yielded ops a.tmps) = true) (hN : oi.dst = N) (hrun : (execOp a.eval oi).run P w = .ok (.value v) w1)
    (h : K (a.put N v) w1) : if Region.wanted oi (yielded ops a.tmps) = true then Oper.wp P oi a w K Q else K (a.put N undef) w := by
  rw [if_pos hw]
  subst hN
  unfold Oper.wp
  rw [hrun]
  exact h
/-- A store. -/
theorem skip_ {oi : Oper} {a : Act} {w w1 : World} {K : Act → World → Prop} (hw : Region.wanted oi (yielded ops a.tmps) = true) (hN : oi.dst = none) (hrun : (execOp a.eval oi).run P w = .ok .skip w1)
    (h : K a w1) : if Region.wanted oi (yielded ops a.tmps) = true then Oper.wp P oi a w K Q else K (a.put none undef) w := by
  rw [if_pos hw]
  unfold Oper.wp
  rw [hrun]
  show K (a.put oi.dst undef) w1
  rw [hN]
  exact h
theorem i64_w (n : Int) : IntKind.i64.wrap n = Go.RowKit.wrap64 n := by unfold Go.RowKit.wrap64; exact IntKind.wrap_i64 n
theorem i32_w (n : Int) : IntKind.i32.wrap n = Go.RowKit.wrap32 n := by unfold Go.RowKit.wrap32; exact IntKind.wrap_i32 n
end
end Go.Proofs.YtjlcebgfknfelaaW.PrintLast

-- PRINTED BY print.sh 35421559b90ae4d0a3588c463048766b98c2df88dd9212a6774a882060cdf62d: not written by this session
namespace Go.Proofs.YtjlcebgfknfelaaW.PrintLast
open Go.Proofs.YtjlcebgfknfelaaW.PrintWords (Aside0)
def needsOf (md : Region.Mode) (o : Oper) : List Nat := (o.after.toList.filter (fun e => Region.binds md e)).map (fun e => e.on)
def clashOf (md : Region.Mode) (ops : Array Oper) (i : Nat) (oi : Oper) : List Nat := (List.range ops.size).filter fun j => !(j == i) && match ops[j]? with
  | some oj => !(oj.after.any (fun e => Region.binds md e && e.on == i) || oi.apart ops oj)
  | none => false
/-- No select in it; for each operation: what must have come up before it, and what may not come up behind it if it is taken first. -/
def rtab (md : Region.Mode) (ops : Array Oper) : Bool × List (List Nat × List Nat) := (Region.noSelect ops, (List.range ops.size).map fun i => match ops[i]? with
  | some o => (needsOf md o, clashOf md ops i o)
  | none => ([], []))
def readyAt (T : List (List Nat × List Nat)) (l : List Bool) (i : Nat) : Bool := !l.getD i true && match T[i]? with
  | some r => r.1.all (fun j => l.getD j false)
  | none => false
def readyT (T : List (List Nat × List Nat)) (l : List Bool) : List Nat := (List.range T.length).filter (readyAt T l)
def freeT (T : List (List Nat × List Nat)) (l : List Bool) (i : Nat) : Bool := match T[i]? with
  | some r => r.2.all (fun j => l.getD j true)
  | none => false
def closedT (T : List (List Nat × List Nat)) (l : List Bool) : Bool := (List.range T.length).all fun j => !l.getD j false || match T[j]? with
  | some r => r.1.all (fun k => l.getD k false)
  | none => true
def reachT (T : List (List Nat × List Nat)) (i : Nat) : Nat → Nat → Bool
  | 0, _ => false
  | fuel + 1, d => match T[d]? with
    | some r => r.1.any fun j => j == i || reachT T i fuel j
    | none => false
def lastT (T : List (List Nat × List Nat)) (l : List Bool) (ds : List Nat) (i : Nat) : Bool := ds.all fun d => l.getD d true || reachT T i T.length d
section
variable {md : Region.Mode} {ops : Array Oper} {T : Bool × List (List Nat × List Nat)} {l l' li lj lk : Array Bool} {ds : List Nat} {i j k : Nat}
theorem gd (l : Array Bool) (j : Nat) (b : Bool) : l.getD j b = l.toList.getD j b := by simp [Array.getD_eq_getD_getElem?, List.getD_eq_getElem?_getD]
theorem needs_all (o : Oper) (p : Nat → Bool) : o.after.all (fun e => !Region.binds md e || p e.on) = (needsOf md o).all p := by
  unfold needsOf
  rw [← Array.all_toList]
  induction o.after.toList with
  | nil => rfl
  | cons e r ih =>
    rw [List.all_cons, ih, List.filter_cons]
    cases h : Region.binds md e <;> simp
theorem needs_any (o : Oper) (p : Nat → Bool) : o.after.any (fun e => Region.binds md e && p e.on) = (needsOf md o).any p := by
  unfold needsOf
  rw [← Array.any_toList]
  induction o.after.toList with
  | nil => rfl
  | cons e r ih =>
    rw [List.any_cons, ih, List.filter_cons]
    cases h : Region.binds md e <;> simp
theorem rtab_length : (rtab md ops).2.length = ops.size := by simp [rtab]
theorem rtab_some {o : Oper} (h : ops[i]? = some o) : (rtab md ops).2[i]? = some (needsOf md o, clashOf md ops i o) := by
  have hi := (Array.getElem?_eq_some_iff.1 h).1
  unfold rtab
  rw [List.getElem?_map, List.getElem?_range hi, Option.map_some, h]
theorem rtab_none (h : ops[i]? = none) : (rtab md ops).2[i]? = none := by
  have hi : ops.size ≤ i := Array.getElem?_eq_none_iff.1 h
  exact List.getElem?_eq_none (by rw [rtab_length]; exact hi)
theorem readyAt_eq : readyAt (rtab md ops).2 l.toList i = (!l.getD i true && ((ops[i]?).map (·.after.all fun e => !Region.binds md e || l.getD e.on false)).getD false) := by
  unfold readyAt
  rw [gd]
  cases h : ops[i]? with
  | none => rw [rtab_none h]; rfl
  | some o =>
    rw [rtab_some h]
    simp only [Option.map_some, Option.getD_some]
    rw [← needs_all]
    simp only [gd]
theorem ready_eq : Region.ready md ops l = readyT (rtab md ops).2 l.toList := by
  unfold Region.ready readyT
  rw [rtab_length]
  refine List.filter_congr (fun i _ => ?_)
  rw [readyAt_eq]
theorem free_eq : Region.free md ops l i = freeT (rtab md ops).2 l.toList i := by
  unfold Region.free freeT
  cases h : ops[i]? with
  | none => rw [rtab_none h]
  | some oi =>
    rw [rtab_some h]
    simp only [clashOf]
    rw [List.all_filter]
    congr 1
    funext j
    rw [gd]
    cases hj : ops[j]? with
    | none => cases (j == i) <;> cases (l.toList.getD j true) <;> simp
    | some oj =>
      cases (j == i) <;> cases (l.toList.getD j true) <;> cases (oj.after.any (fun e => Region.binds md e && e.on == i) || oi.apart ops oj) <;> simp_all
theorem closed_eq : Region.closedB md ops l = closedT (rtab md ops).2 l.toList := by
  unfold Region.closedB closedT
  rw [rtab_length]
  congr 1
  funext j
  rw [gd]
  cases h : ops[j]? with
  | none => rw [rtab_none h]
  | some o =>
    rw [rtab_some h]
    simp only
    rw [← needs_all]
    simp only [gd]
theorem reach_eq : ∀ (fuel d : Nat), Region.reachB md ops i fuel d = reachT (rtab md ops).2 i fuel d
  | 0, _ => rfl
  | fuel + 1, d => by
    unfold Region.reachB reachT
    cases h : ops[d]? with
    | none => rw [rtab_none h]
    | some o =>
      rw [rtab_some h]
      simp only
      rw [← needs_any]
      congr 1
      funext e
      rw [reach_eq fuel]
theorem last_eq : Region.lastB md ops l ds i = lastT (rtab md ops).2 l.toList ds i := by
  unfold Region.lastB lastT
  rw [rtab_length]
  congr 1
  funext d
  rw [gd, reach_eq]
theorem readyAt_mem (h : readyAt T.2 l.toList i = true) (hT : rtab md ops = T) : (Region.ready md ops l).contains i = true := by
  subst hT
  rw [ready_eq]
  unfold readyT
  rw [List.contains_iff_mem, List.mem_filter, List.mem_range]
  refine ⟨?_, h⟩
  unfold readyAt at h
  rw [Bool.and_eq_true] at h
  cases hq : (rtab md ops).2[i]? with
  | none => rw [hq] at h; simp at h
  | some r => exact (List.getElem?_eq_some_iff.1 hq).1
theorem set_of (h : (l.toList.set i true == l'.toList) = true) : (l.setIfInBounds i true == l') = true := by
  rw [beq_iff_eq] at h ⊢
  apply Array.ext'
  rw [Array.toList_setIfInBounds]
  exact h
def anyT (T : Bool × List (List Nat × List Nat)) (l l' : List Bool) (i : Nat) : Bool := T.1 && freeT T.2 l i && readyAt T.2 l i && (l.set i true == l')
/-- pure_'s condition out of the table. -/
theorem any_of (hT : rtab md ops = T) (h : anyT T l.toList l'.toList i = true) : anyB md ops l l' i = true := by
  simp only [anyT, Bool.and_eq_true] at h
  obtain ⟨⟨⟨h1, h2⟩, h3⟩, h4⟩ := h
  have h5 := readyAt_mem h3 hT
  have h6 := set_of h4
  subst hT
  simp only [anyB, Bool.and_eq_true]
  exact ⟨⟨⟨h1, by rw [free_eq]; exact h2⟩, h5⟩, h6⟩
def takeT (T : Bool × List (List Nat × List Nat)) (ds : List Nat) (l l' : List Bool) (i : Nat) : Bool := T.1 && freeT T.2 l i && readyAt T.2 l i && closedT T.2 l && lastT T.2 l ds i && (l.set i true == l')
/-- take_'s. -/
theorem take_of (hT : rtab md ops = T) (h : takeT T ds l.toList l'.toList i = true) : takeB md ops ds l l' i = true := by
  simp only [takeT, Bool.and_eq_true] at h
  obtain ⟨⟨⟨⟨⟨h1, h2⟩, h3⟩, h4⟩, h5⟩, h6⟩ := h
  have h7 := readyAt_mem h3 hT
  have h8 := set_of h6
  subst hT
  simp only [takeB, Bool.and_eq_true]
  exact ⟨⟨⟨⟨⟨h1, by rw [free_eq]; exact h2⟩, h7⟩, by rw [closed_eq]; exact h4⟩, by rw [last_eq]; exact h5⟩, h8⟩
/-- one_'s and last_'s. -/
theorem one_of (hT : rtab md ops = T) (h : (readyT T.2 l.toList == [i] && l.toList.set i true == l'.toList) = true) : readyB md ops l l' i = true := by
  simp only [Bool.and_eq_true] at h
  obtain ⟨h1, h2⟩ := h
  subst hT
  simp only [readyB, Bool.and_eq_true]
  exact ⟨by rw [ready_eq]; exact h1, set_of h2⟩
theorem two_of (hT : rtab md ops = T) (h : (readyT T.2 l.toList == [i, j] && l.toList.set i true == li.toList && l.toList.set j true == lj.toList) = true) : (Region.ready md ops l == [i, j] && l.setIfInBounds i true == li && l.setIfInBounds j true == lj) = true := by
  simp only [Bool.and_eq_true] at h ⊢
  obtain ⟨⟨h1, h2⟩, h3⟩ := h
  subst hT
  exact ⟨⟨by rw [ready_eq]; exact h1, set_of h2⟩, set_of h3⟩
/-- done_'s. -/
theorem done_of (hT : rtab md ops = T) (h : (readyT T.2 l.toList == []) = true) : (Region.ready md ops l == []) = true := by
  subst hT
  rw [ready_eq]
  exact h
/-- What d waits for, as_ bits: told in the table (B), checked in one pass: each bit is a need of d, or a bit of an earlier need's. -/
def upM (B : List Nat) (d : Nat) : List Nat → Nat
  | [] => 0
  | n :: r => (2 ^ n ||| (if n < d then B.getD n 0 else 0)) ||| upM B d r
def waitsOk (T : List (List Nat × List Nat)) (B : List Nat) : Bool := (List.range T.length).all fun d => match T[d]? with
  | some r => (B.getD d 0 ||| upM B d r.1) == upM B d r.1
  | none => false
theorem upM_bit {B : List Nat} {d i : Nat} : ∀ {ns : List Nat}, (upM B d ns).testBit i = true → ∃ n ∈ ns, n = i ∨ (n < d ∧ (B.getD n 0).testBit i = true)
  | [], h => by simp [upM] at h
  | n :: r, h => by
    unfold upM at h
    rw [Nat.testBit_or, Nat.testBit_or, Bool.or_eq_true, Bool.or_eq_true] at h
    rcases h with (h | h) | h
    · rw [Nat.testBit_two_pow] at h
      exact ⟨n, List.mem_cons_self, .inl (by simpa using h)⟩
    · by_cases hn : n < d
      · rw [if_pos hn] at h
        exact ⟨n, List.mem_cons_self, .inr ⟨hn, h⟩⟩
      · rw [if_neg hn] at h
        simp at h
    · obtain ⟨m, hm, h2⟩ := upM_bit h
      exact ⟨m, List.mem_cons_of_mem _ hm, h2⟩
theorem reach_bit {T : List (List Nat × List Nat)} {B : List Nat} (hB : waitsOk T B = true) : ∀ (fuel d : Nat), d < fuel → d < T.length → (B.getD d 0).testBit i = true → reachT T i fuel d = true
  | 0, d, h, _, _ => by omega
  | fuel + 1, d, h, hd, hb => by
    have h1 := List.all_eq_true.1 hB d (List.mem_range.2 hd)
    cases hr : T[d]? with
    | none => rw [hr] at h1; simp at h1
    | some r =>
      rw [hr] at h1
      simp only [beq_iff_eq] at h1
      have h2 : (upM B d r.1).testBit i = true := by rw [← h1, Nat.testBit_or, hb, Bool.true_or]
      obtain ⟨n, hn, h3⟩ := upM_bit h2
      unfold reachT
      rw [hr]
      simp only
      rw [List.any_eq_true]
      refine ⟨n, hn, ?_⟩
      rcases h3 with rfl | ⟨h4, h5⟩
      · simp
      · rw [reach_bit hB fuel n (by omega) (by omega) h5, Bool.or_true]
def lastW (T : List (List Nat × List Nat)) (B : List Nat) (l : List Bool) (ds : List Nat) (i : Nat) : Bool := ds.all fun d => l.getD d true || (decide (d < T.length) && (B.getD d 0).testBit i)
def takeW (T : Bool × List (List Nat × List Nat)) (B : List Nat) (ds : List Nat) (l l' : List Bool) (i : Nat) : Bool := T.1 && freeT T.2 l i && readyAt T.2 l i && closedT T.2 l && lastW T.2 B l ds i && (l.set i true == l')
/-- take_'s, by the bits. -/
theorem take_ofW {B : List Nat} (hT : rtab md ops = T) (hB : waitsOk T.2 B = true) (h : takeW T B ds l.toList l'.toList i = true) : takeB md ops ds l l' i = true := by
  refine take_of hT ?_
  simp only [takeW, takeT, Bool.and_eq_true] at h ⊢
  obtain ⟨⟨⟨⟨⟨h1, h2⟩, h3⟩, h4⟩, h5⟩, h6⟩ := h
  refine ⟨⟨⟨⟨⟨h1, h2⟩, h3⟩, h4⟩, ?_⟩, h6⟩
  unfold lastW at h5
  unfold lastT
  rw [List.all_eq_true] at h5 ⊢
  intro d hd
  have h7 := h5 d hd
  rw [Bool.or_eq_true, Bool.and_eq_true, decide_eq_true_eq] at h7
  rcases h7 with h7 | ⟨h8, h9⟩
  · rw [h7, Bool.true_or]
  · rw [reach_bit hB _ d h8 h8 h9, Bool.or_true]
theorem with_tabW {P : Program} {Q : Exit → Act → World → Prop} {S : World → Prop} {n : Nat} {a : Act} {w : World} {B : List Nat} (hT : rtab md ops = T) (hB : waitsOk T.2 B = true) (h : Aside0 (rtab md ops = T) → Aside0 (waitsOk T.2 B = true) → wpAnyLast P md ops Q S ds n l a w) : wpAnyLast P md ops Q S ds n l a w := h ⟨hT⟩ ⟨hB⟩
end
/-- The operations of a region, by its number. -/
def opsIn : Code → Nat → Option (Array Oper)
  | .region id ops _, k => if id == k then some ops else none
  | .seq a b, k => match opsIn a k with
    | some o => some o
    | none => opsIn b k
  | .cond _ a b, k => match opsIn a k with
    | some o => some o
    | none => opsIn b k
  | .block _ c, k => opsIn c k
  | .loop c, k => opsIn c k
  | .scope c, k => opsIn c k
  | .rangeFunc _ _ a b, k => match opsIn a k with
    | some o => some o
    | none => opsIn b k
  | _, _ => none
def opsOf (f : Func) (k : Nat) : Array Oper := ((f.body.bind fun c => opsIn c k)).getD #[]
end Go.Proofs.YtjlcebgfknfelaaW.PrintLast

-- PRINTED BY print.sh 35421559b90ae4d0a3588c463048766b98c2df88dd9212a6774a882060cdf62d: not written by this session
namespace Go.Proofs.YtjlcebgfknfelaaW.PrintLast
section
variable {P : Program} {ops : Array Oper} {Q : Exit → Act → World → Prop} {md : Region.Mode} {S : World → Prop} {ds : List Nat} {T : Bool × List (List Nat × List Nat)}
end
end Go.Proofs.YtjlcebgfknfelaaW.PrintLast

-- PRINTED BY print.sh 35421559b90ae4d0a3588c463048766b98c2df88dd9212a6774a882060cdf62d: not written by this session
namespace Go.Proofs.YtjlcebgfknfelaaW.PrintWords
open Go.RowKit
namespace Kd
section
variable {α : Type} {d : Kd α} {e base g o n cap : Nat} {ok okp : Nat → Prop} {w W : World} {v : Value} {xs : List α}
end
section
variable {α : Type} {enc : α → Value} {h1 : ∀ x, (enc x).oneCell' = true} {e base g o n cap : Nat} {ok : Nat → Prop} {W : World} {xs : List α}
end
end Kd
end Go.Proofs.YtjlcebgfknfelaaW.PrintWords

-- PRINTED BY print.sh 35421559b90ae4d0a3588c463048766b98c2df88dd9212a6774a882060cdf62d: not written by this session
namespace Go.Proofs.YtjlcebgfknfelaaW.PrintWords
open Go.RowKit
namespace Kd
/-- An element with its index: its blocks are those that f gives to it. -/
def tag {α : Type} (f : Nat → Nat) (d : Kd α) : Kd (α × Nat) where
  sz := d.sz
  E := d.E
  K := fun w x cs => d.K w x.1 cs
  M := fun w base ok x cs => d.M w base (fun k => ok k ∧ f k = x.2) x.1 cs
  K_len := fun h => d.K_len h
  K_one := fun h => d.K_one h
  K_below := fun hb h => d.K_below hb h
  K_of_M := fun h => d.K_of_M h
  M_mono := fun hok h => d.M_mono (fun k hk => ⟨hok k hk.1, hk.2⟩) h
  M_bound := fun h => d.M_mono (fun _ hk => ⟨⟨hk.1.1, hk.2⟩, hk.1.2⟩) (d.M_bound h)
  M_move := fun hm h => d.M_move (fun k hk => hm k hk.1) h
  M_lower := fun hb h => d.M_lower hb h
/-- The cells themselves. -/
def raw (sz : Nat) : Kd (List Value) where
  sz := sz
  E := []
  K := fun _ x cs => cs = x ∧ cs.length = sz ∧ ∀ u ∈ cs, u.oneCell' = true
  M := fun _ _ _ x cs => cs = x ∧ cs.length = sz ∧ ∀ u ∈ cs, u.oneCell' = true
  K_len := fun h => h.2.1
  K_one := fun h => h.2.2
  K_below := fun _ h => h
  K_of_M := fun h => h
  M_mono := fun _ h => h
  M_bound := fun h => h
  M_move := fun _ h => h
  M_lower := fun _ h => h
/-- A row of elements (type e) of the call's own, no two of which lead to one block. -/
def S {α : Type} (d : Kd α) (e : Nat) (w : World) (base : Nat) (ok : Nat → Prop) (v : Value) (xs : List α) : Prop := ∃ f, (tag f d).R e w base ok v xs.zipIdx
section
variable {α β : Type} {d : Kd α} {d' : Kd β} {e e' : Nat} {w w1 W : World} {base b : Nat} {ok ok' okv oku : Nat → Prop} {u v : Value} {xs : List α} {ys : List β}
theorem zip_at {xs : List α} {j : Nat} {p : α} (h : xs[j]? = some p) : xs.zipIdx[j]? = some (p, j) := by rw [List.getElem?_zipIdx, h, Nat.zero_add]; rfl
theorem S_R (h : S d e w base ok v xs) : d.R e w base ok v xs := by
  obtain ⟨f, h0, inner, ho, hr⟩ := h
  rw [List.length_zipIdx] at ho
  exact ⟨h0, inner, ho, by have := hr.1; rw [List.length_zipIdx] at this; exact this, fun j p hj => d.M_mono (fun _ hk => hk.1) (hr.2 j (p, j) (zip_at hj))⟩
/-- A row whose elements lead to nothing: its blocks are its own one. -/
theorem R_tight (hE : d.E = []) (h : d.R e w base ok v xs) : d.R e w base (fun k => some k = v.ownBlock) v xs := by
  obtain ⟨h0, inner, ho, hr⟩ := h
  refine ⟨fun k hk => hk.symm, inner, ho, hr.imp_ (fun p c hp => d.M_mono (fun k hk => ?_) (d.M_bound hp))⟩
  obtain ⟨_, _, _, q, hq, _⟩ := hk
  rw [hE] at hq
  cases hq
theorem S_nil (d : Kd α) (e : Nat) (w : World) (base : Nat) (ok : Nat → Prop) : S d e w base ok (.slice none 0 0) [] := ⟨fun _ => 0, R_nil _ _ _ _ _⟩
theorem S_mono (h : S d e w base ok v xs) (hok : ∀ k, ok k → ok' k) : S d e w base ok' v xs := by
  obtain ⟨f, h⟩ := h
  exact ⟨f, R_mono h hok⟩
theorem S_bound (h : S d e w base ok v xs) : S d e w base (fun k => ok k ∧ base ≤ k ∧ k < w.heap.size ∧ ∃ q, q ∈ e :: d.E ∧ ∃ cells, w.heap[k]? = some (.cells cells q (0, 0))) v xs := by
  obtain ⟨f, h⟩ := h
  exact ⟨f, R_bound h⟩
theorem S_move (h : S d e w base ok v xs) (hm : ∀ k, ok k → w1.heap[k]? = w.heap[k]?) : S d e w1 base ok v xs := by
  obtain ⟨f, h⟩ := h
  exact ⟨f, R_move h hm⟩
theorem S_lower {base' : Nat} (h : S d e w base ok v xs) (hb : base' ≤ base) : S d e w base' ok v xs := by
  obtain ⟨f, h⟩ := h
  exact ⟨f, R_lower h hb⟩
theorem S_step (h : S d e w base ok v xs) (hm : ∀ k, ok k → k < w.heap.size → w1.heap[k]? = w.heap[k]?) : S d e w1 base ok v xs :=
  S_mono (S_move (S_bound h) (fun k hk => hm k hk.1 hk.2.2.1)) (fun _ hk => hk.1)
theorem S_below (h : S d e w base ok v xs) (hb : Below w.heap.size w w1) : S d e w1 base ok v xs := S_step h (fun k _ hk => hb.block k hk)
theorem S_alloc (h : S d e w base ok v xs) (o : Obj) : S d e (w.alloc o) base ok v xs := S_below h (below_alloc (Below.refl _ _) o)
theorem S_drew (h : S d e w base ok v xs) : S d e w.drew base ok v xs := S_below h (below_drew (Below.refl _ _))
theorem S_drewN (h : S d e w base ok v xs) (m : Nat) : S d e (w.drewN m) base ok v xs := S_below h (pw_below_drewN (Below.refl _ _) m)
theorem S_far (h : S d e w base ok v xs) {p : Addr} (hok : ∀ k, ok k → k ≠ p.block) (u : Value) : S d e (w.setCell p u) base ok v xs := S_step h (fun k ho _ => Below.heap_setCell w p u k (hok k ho))
theorem S_lt (h : S d e w base ok v xs) : ∀ k, v.ownBlock = some k → k < w.heap.size := R_lt (S_R h)
theorem S_base (h : S d e w base ok v xs) : ∀ k, v.ownBlock = some k → base ≤ k := R_base (S_R h)
theorem S_apart' (h : S d e W base ok u xs) (hty : ∀ k, v.ownBlock = some k → ∃ cells, W.heap[k]? = some (.cells cells e' (0, 0))) (ht : ∀ q, q ∈ e :: d.E → q ≠ e') : S d e W base (fun k => ok k ∧ some k ≠ v.ownBlock) u xs := by
  obtain ⟨f, h⟩ := h
  exact ⟨f, R_apart' h hty ht⟩
theorem S_elder' (h : S d e W base ok u xs) (hbase : ∀ k, v.ownBlock = some k → W.heap.size ≤ k) (hb : Below W.heap.size W w1) : S d e w1 base (fun k => ok k ∧ some k ≠ v.ownBlock) u xs := by
  obtain ⟨f, h⟩ := h
  exact ⟨f, R_elder' h hbase hb⟩
theorem S_new' (h : S d e w1 W.heap.size ok v xs) (hlt : ∀ k, u.ownBlock = some k → k < W.heap.size) : S d e w1 W.heap.size (fun k => ok k ∧ some k ≠ u.ownBlock) v xs := by
  obtain ⟨f, h⟩ := h
  exact ⟨f, R_new' h hlt⟩
/-- The owner may be told anew where nothing is said. -/
theorem R_tag {f f' : Nat → Nat} {zs : List (α × Nat)} (h : (tag f d).R e w base ok v zs) (hf : ∀ k, ok k → k < w.heap.size → f' k = f k) : (tag f' d).R e w base ok v zs := by
  obtain ⟨h0, inner, ho, hr⟩ := R_bound h
  exact ⟨fun k hk => (h0 k hk).1, inner, ho, hr.1, fun j p hj => d.M_mono (fun k hk => ⟨⟨hk.1.1.1, hk.1.2⟩, (hf k hk.1.1.1 hk.1.1.2.2.1).trans hk.2⟩) (hr.2 j p hj)⟩
end
section
variable {α β : Type} {d : Kd α} {d' : Kd β} {e e' g : Nat} {w w1 W : World} {base b : Nat} {ok ok' okv oku : Nat → Prop} {u v : Value} {xs : List α} {ys : List β}
theorem S_slice (h : S d e w base ok v xs) : ∃ A c, v = .slice A xs.length c := R_slice (S_R h)
theorem S_reads' {A : Option Addr} {n c : Nat} (h : S d e w base ok (.slice A n c) xs) : n = xs.length ∧ n ≤ c ∧ d.C w A xs.length xs := R_reads' (S_R h)
theorem S_elderB (h : S d e w base ok v xs) (a : Nat) (ha : w.heap.size ≤ a) : S d e w base (fun k => ok k ∧ k ≠ a) v xs := S_mono (S_bound h) (fun k hk => ⟨hk.1, by have := hk.2.2.1; omega⟩)
theorem S_newB {o : Obj} (h : S d e w1 w.heap.size ok v xs) (hb : w.heap[g]? = some o) : S d e w1 w.heap.size (fun k => ok k ∧ k ≠ g) v xs := S_mono (S_bound h) (fun k hk => ⟨hk.1, by have := blk_lt hb; have := hk.2.1; omega⟩)
theorem zip_snoc (xs : List α) (p : α) : (xs ++ [p]).zipIdx = xs.zipIdx ++ [(p, xs.length)] := by rw [List.zipIdx_append]; simp
end
section
open Classical in
/-- The next element's blocks are okp: none is one of v's (okv). -/
theorem S_tag {α : Type} {d : Kd α} {e base : Nat} {okv : Nat → Prop} {w : World} {v : Value} {xs : List α} (h : S d e w base okv v xs) (m : Nat) (okp : Nat → Prop) (hap : ∀ k, okp k → ¬ okv k) : ∃ f, (∀ k, okp k → f k = m) ∧ (tag f d).R e w base okv v xs.zipIdx := by
  obtain ⟨f, h⟩ := h
  exact ⟨fun k => if okp k then m else f k, fun k hk => if_pos hk, R_tag h (fun k hk _ => if_neg (fun h2 => hap k h2 hk))⟩
variable {P : Program} {ops : Array Oper} {rest : List Oper} {o : Oper} {a : Act} {Q : Exit → Act → World → Prop} {Kc : Act → World → Prop} {α : Type}
/-- append(v, x), behind 'at_builtin': x's blocks are okp, none of them v's. -/
theorem S_append (d : Kd α) {w0 W : World} (base : Nat) (hgd : o.guard = none) (s x : Operand) (t e : TypeId) (z : Value) (bytes : Nat)
    (ho : o.op = .call { callee := .builtin .append, args := #[s, x], argTypes := #[t, t] })
    (ht : P.underlying t = some (.slice e)) (hinfo : (P.info? e).map (fun i => (i.zero, i.size, i.bytes)) = some (some z, d.sz, bytes)) (hz : z.cells.size = d.sz) (hs0 : 0 < d.sz) (hb0 : 0 < bytes)
    (v : Value) (xs : List α) (p : α) (cs : List Value) (ok okp : Nat → Prop) (hs : a.eval s = v) (hx : a.eval x = .slice (some ⟨W.heap.size, 0, none⟩) 1 1) (hp : d.M W base okp p cs) (hokp : ∀ k, okp k → ok k ∧ some k ≠ v.ownBlock) (hfresh : ∀ k, W.heap.size ≤ k → ok k)
    (HO : S d e W base (fun k => ok k ∧ ¬ okp k) v xs) (HB : Below base w0 W) (hbase : base ≤ W.heap.size) (hl : (xs.length + 1) * bytes ≤ 140737488355328)
    (h : ∀ v1 w1, S d e w1 base ok v1 (xs ++ [p]) → Below base w0 w1 → W.grownBy w1 v.ownBlock → (v1.ownBlock = v.ownBlock ∨ ∃ b, v1.ownBlock = some b ∧ W.heap.size ≤ b) → wpList P ops Q rest (a.put o.dst v1) w1) :
    wpList P ops Q (o :: rest) a (W.alloc (.cells cs.toArray e)) := by
  obtain ⟨f, hf, hR⟩ := S_tag HO xs.length okp (fun _ hk h2 => h2.2 hk)
  refine R_append (tag f d) base hgd s x t e z bytes ho ht hinfo hz hs0 hb0 v xs.zipIdx (p, xs.length) cs ok okp hs hx (d.M_mono (fun k hk => ⟨hk, hf k hk⟩) hp) hokp hfresh (R_mono hR (fun _ hk => hk.1)) HB hbase (by rw [List.length_zipIdx]; exact hl) ?_
  intro v1 w1 hr
  rw [← zip_snoc] at hr
  exact h v1 w1 ⟨f, hr⟩
end
/-- Element i is these cells; the others are d's. -/
def gap {α : Type} (f : Nat → Nat) (d : Kd α) (i : Nat) (c : List Value) : Kd (α × Nat) where
  sz := d.sz
  E := d.E
  K := fun w x cs => (x.2 = i → cs = c ∧ cs.length = d.sz ∧ ∀ u ∈ cs, u.oneCell' = true) ∧ (x.2 ≠ i → d.K w x.1 cs)
  M := fun w base ok x cs => (x.2 = i → cs = c ∧ cs.length = d.sz ∧ ∀ u ∈ cs, u.oneCell' = true) ∧ (x.2 ≠ i → d.M w base (fun k => ok k ∧ f k = x.2) x.1 cs)
  K_len := fun {w x cs} h => by
    by_cases hx : x.2 = i
    · exact (h.1 hx).2.1
    · exact d.K_len (h.2 hx)
  K_one := fun {w x cs} h => by
    by_cases hx : x.2 = i
    · exact (h.1 hx).2.2
    · exact d.K_one (h.2 hx)
  K_below := fun hb h => ⟨h.1, fun hx => d.K_below hb (h.2 hx)⟩
  K_of_M := fun h => ⟨h.1, fun hx => d.K_of_M (h.2 hx)⟩
  M_mono := fun hok h => ⟨h.1, fun hx => d.M_mono (fun k hk => ⟨hok k hk.1, hk.2⟩) (h.2 hx)⟩
  M_bound := fun h => ⟨h.1, fun hx => d.M_mono (fun _ hk => ⟨⟨hk.1.1, hk.2⟩, hk.1.2⟩) (d.M_bound (h.2 hx))⟩
  M_move := fun hm h => ⟨h.1, fun hx => d.M_move (fun k hk => hm k hk.1) (h.2 hx)⟩
  M_lower := fun hb h => ⟨h.1, fun hx => d.M_lower hb (h.2 hx)⟩
def H {α : Type} (d : Kd α) (e : Nat) (w : World) (base : Nat) (ok : Nat → Prop) (v : Value) (xs : List α) (i : Int) (oki : Nat → Prop) (c : List Value) : Prop :=
  (∀ k, oki k → ok k) ∧ ∃ f, (gap f d i.toNat c).R e w base (fun k => ok k ∧ ¬ oki k) v xs.zipIdx
section
variable {α β : Type} {d : Kd α} {e e' g n cap : Nat} {w w1 W : World} {base : Nat} {ok ok' oki okp : Nat → Prop} {u v : Value} {xs : List α} {i : Int} {c : List Value}
open Classical in
end
section
variable {P : Program} {ops : Array Oper} {rest : List Oper} {o : Oper} {a : Act} {Q : Exit → Act → World → Prop} {α : Type}
end
end Kd
end Go.Proofs.YtjlcebgfknfelaaW.PrintWords

-- PRINTED BY print.sh 35421559b90ae4d0a3588c463048766b98c2df88dd9212a6774a882060cdf62d: not written by this session
namespace Go.Proofs.YtjlcebgfknfelaaW.PrintWords
open Go.RowKit
namespace Kd
theorem reps_one {α : Type} {R : α → List Value → Prop} {size : Nat} {ps : List α} {cs : List Value} (h : Reps R size ps cs) (hs0 : 0 < size) (hR : ∀ p c, R p c → ∀ u ∈ c, u.oneCell' = true) : ∀ u ∈ cs, u.oneCell' = true := by
  intro u hu
  obtain ⟨q, hq, rfl⟩ := List.mem_iff_getElem.1 hu
  have hql : q / size < ps.length := by
    rw [Nat.div_lt_iff_lt_mul hs0, ← h.1]
    exact hq
  refine hR _ _ (h.2 (q / size) _ (List.getElem?_eq_getElem hql)) _ ?_
  rw [List.mem_iff_getElem?]
  refine ⟨q % size, ?_⟩
  rw [List.getElem?_take, if_pos (Nat.mod_lt _ hs0), List.getElem?_drop, Nat.mul_comm, Nat.div_add_mod, List.getElem?_eq_getElem hq]
/-- An array of n elements of kind d. -/
def arr {α : Type} (n : Nat) (d : Kd α) (hs : 0 < d.sz) : Kd (List α) where
  sz := n * d.sz
  E := d.E
  K := fun w xs cs => xs.length = n ∧ Reps (d.K w) d.sz xs cs
  M := fun w base ok xs cs => xs.length = n ∧ Reps (d.M w base ok) d.sz xs cs
  K_len := fun h => by rw [← h.1]; exact h.2.1
  K_one := fun h => reps_one h.2 hs (fun _ _ hk => d.K_one hk)
  K_below := fun hb h => ⟨h.1, h.2.imp_ (fun _ _ hk => d.K_below hb hk)⟩
  K_of_M := fun h => ⟨h.1, h.2.imp_ (fun _ _ hk => d.K_of_M hk)⟩
  M_mono := fun hok h => ⟨h.1, h.2.imp_ (fun _ _ hk => d.M_mono hok hk)⟩
  M_bound := fun h => ⟨h.1, h.2.imp_ (fun _ _ hk => d.M_bound hk)⟩
  M_move := fun hm h => ⟨h.1, h.2.imp_ (fun _ _ hk => d.M_move hm hk)⟩
  M_lower := fun hb h => ⟨h.1, h.2.imp_ (fun _ _ hk => d.M_lower hb hk)⟩
section
variable {α : Type} {n : Nat} {d : Kd α} {hs : 0 < d.sz} {w : World} {base : Nat} {ok : Nat → Prop} {xs : List α} {cs : List Value}
end
section
variable {α : Type} {n : Nat} {enc : α → Value} {h1 : ∀ x, (enc x).oneCell' = true} {hs : 0 < (scalar enc h1).sz} {w : World} {base : Nat} {ok : Nat → Prop} {xs : List α} {cs : List Value}
theorem reps_encs (h : Reps (fun (x : α) (cs : List Value) => cs = [enc x]) 1 xs cs) : cs = encs enc xs := by
  apply List.ext_getElem?
  intro j
  have hl := h.1
  rw [Nat.mul_one] at hl
  rcases Nat.lt_or_ge j xs.length with hj | hj
  · have h2 := h.2 j _ (List.getElem?_eq_getElem hj)
    have hj' : j < cs.length := by omega
    rw [Nat.mul_one, List.drop_eq_getElem_cons hj'] at h2
    have h5 := congrArg List.head? h2
    rw [List.take_succ_cons] at h5
    have h4 : cs[j] = enc xs[j] := Option.some.inj h5
    rw [List.getElem?_eq_getElem hj', h4]
    simp [encs, List.getElem?_eq_getElem hj]
  · rw [List.getElem?_eq_none (by omega), List.getElem?_eq_none (by rw [encs_length]; omega)]
/-- An array of scalars: its cells are the elements'. -/
theorem arr_cells (h : (arr n (scalar enc h1) hs).K w xs cs) : xs.length = n ∧ cs = encs enc xs := ⟨h.1, reps_encs h.2⟩
end
end Kd
end Go.Proofs.YtjlcebgfknfelaaW.PrintWords

-- PRINTED BY print.sh 35421559b90ae4d0a3588c463048766b98c2df88dd9212a6774a882060cdf62d: not written by this session
namespace Go.Proofs.YtjlcebgfknfelaaW.PrintWords
open Go.RowKit
section
variable {P : Program}
end
namespace Kd
section
variable {P : Program} {ops : Array Oper} {rest : List Oper} {o : Oper} {a : Act} {Q : Exit → Act → World → Prop} {Kc : Act → World → Prop} {α : Type}
end
section
variable {α : Type} {d : Kd α} {e : Nat} {w : World} {base : Nat} {ok : Nat → Prop} {v : Value} {xs : List α}
end
section
variable {P : Program} {ops : Array Oper} {rest : List Oper} {o : Oper} {a : Act} {Q : Exit → Act → World → Prop} {Kc : Act → World → Prop} {α : Type}
end
end Kd
end Go.Proofs.YtjlcebgfknfelaaW.PrintWords

-- PRINTED BY print.sh 35421559b90ae4d0a3588c463048766b98c2df88dd9212a6774a882060cdf62d: not written by this session
namespace Go.Proofs.YtjlcebgfknfelaaW.PrintWords
open Go.RowKit
namespace Kd
/-- What a kind reads lies in the blocks: nothing else of the world is looked at. -/
structure Heap {α : Type} (d : Kd α) : Prop where
  K : ∀ {w w1 : World} {x : α} {cs : List Value}, (∀ k, k < w.heap.size → w1.heap[k]? = w.heap[k]?) → d.K w x cs → d.K w1 x cs
theorem cell_heap {w w1 : World} (hb : ∀ k, k < w.heap.size → w1.heap[k]? = w.heap[k]?) {a : Addr} {v : Value} (h : w.cell? a = some v) : w1.cell? a = some v := by
  have := hb a.block (World.block_lt_of_cell? w a h)
  simpa [World.cell?, this] using h
theorem Heap.C {α : Type} {d : Kd α} (hd : Heap d) {w w1 : World} {A : Option Addr} {n : Nat} {xs : List α} (hb : ∀ k, k < w.heap.size → w1.heap[k]? = w.heap[k]?) (h : d.C w A n xs) : d.C w1 A n xs :=
  ⟨h.1, h.2.1, fun hn => by
    obtain ⟨ad, e, hc⟩ := h.2.2 hn
    refine ⟨ad, e, fun j p hj => ?_⟩
    obtain ⟨c, hs, hr, hcell⟩ := hc j p hj
    exact ⟨c, hs, hd.K hb hr, fun i u hu => cell_heap hb (hcell i u hu)⟩⟩
section
variable {α : Type} {d : Kd α} {e base g n c : Nat} {ok : Nat → Prop} {w w0 W : World} {A : Option Addr} {xs : List α}
end
end Kd
end Go.Proofs.YtjlcebgfknfelaaW.PrintWords

-- PRINTED BY print.sh 35421559b90ae4d0a3588c463048766b98c2df88dd9212a6774a882060cdf62d: not written by this session
namespace Go.Proofs.YtjlcebgfknfelaaW.PrintWords
open Go.RowKit
def Kept (w W : World) (S : Nat → Prop) : Prop := w.heap.size ≤ W.heap.size ∧ ∀ i, i < w.heap.size → ¬ S i → W.heap[i]? = w.heap[i]?
section
variable {w W W2 : World} {S S2 S' : Nat → Prop}
theorem Kept.refl (w : World) (S : Nat → Prop) : Kept w w S := ⟨Nat.le_refl _, fun _ _ _ => rfl⟩
theorem Kept.of_below (h : Below w.heap.size w W) (S : Nat → Prop) : Kept w W S := ⟨h.size, fun i hi _ => h.block i hi⟩
theorem Kept.mono (h : Kept w W S) (hs : ∀ k, S k → S' k) : Kept w W S' := ⟨h.1, fun i hi hn => h.2 i hi (fun hk => hn (hs i hk))⟩
theorem Kept.then_ (h : Kept w W S) (k : Kept W W2 S2) (hs : ∀ k, S2 k → S k ∨ w.heap.size ≤ k) : Kept w W2 S :=
  ⟨Nat.le_trans h.1 k.1, fun i hi hn => (k.2 i (Nat.lt_of_lt_of_le hi h.1) (fun h2 => (hs i h2).elim hn (fun h3 => by omega))).trans (h.2 i hi hn)⟩
theorem Kept.of_grown {row : Option Nat} (hg : W.grownBy W2 row) (h : Kept w W S) (hr : ∀ k, row = some k → S k ∨ w.heap.size ≤ k) : Kept w W2 S :=
  h.then_ (S2 := fun k => row = some k) ⟨hg.size, fun i hi hn => hg.block i hi (fun he => hn he.symm)⟩ hr
theorem Kept.below (h : Kept w W S) (hb : Below W.heap.size W W2) : Kept w W2 S := h.then_ (Kept.of_below hb (fun _ => False)) (fun _ hk => hk.elim)
theorem Kept.alloc (h : Kept w W S) (o : Obj) : Kept w (W.alloc o) S := h.below (below_alloc (Below.refl _ _) o)
theorem Kept.drew (h : Kept w W S) : Kept w W.drew S := h
theorem Kept.drewN (h : Kept w W S) (m : Nat) : Kept w (W.drewN m) S := h
theorem Kept.setCell (h : Kept w W S) {p : Addr} (hp : S p.block ∨ w.heap.size ≤ p.block) (u : Value) : Kept w (W.setCell p u) S :=
  h.then_ (S2 := fun k => k = p.block) ⟨by simp [World.setCell], fun i _ hn => Below.heap_setCell W p u i hn⟩ (fun k hk => by rw [hk]; exact hp)
end
namespace Kd
section
variable {α : Type} {d : Kd α} {e base n c : Nat} {ok oki S S2 : Nat → Prop} {w w0 W W1 W2 : World} {v : Value} {A : Option Addr} {xs : List α} {i : Int} {cs : List Value}
end
end Kd
end Go.Proofs.YtjlcebgfknfelaaW.PrintWords

-- PRINTED BY print.sh 35421559b90ae4d0a3588c463048766b98c2df88dd9212a6774a882060cdf62d: not written by this session
namespace Go.Proofs.YtjlcebgfknfelaaW.PrintWords
open Go.RowKit
/-- P holds in W and in every world that has W's blocks of ok. -/
def Foot (P : World → Prop) (W : World) (ok : Nat → Prop) : Prop := ∀ W' : World, (∀ k, ok k → k < W.heap.size → W'.heap[k]? = W.heap[k]?) → P W'
theorem heap_lt {W W1 : World} {k : Nat} (h : W1.heap[k]? = W.heap[k]?) (hlt : k < W.heap.size) : k < W1.heap.size := by
  rw [Array.getElem?_eq_getElem hlt] at h
  exact (Array.getElem?_eq_some_iff.1 h).1
namespace Foot
variable {P Q : World → Prop} {W W1 : World} {ok ok' : Nat → Prop}
theorem now (h : Foot P W ok) : P W := h W (fun _ _ _ => rfl)
theorem mono (h : Foot P W ok) (hok : ∀ k, ok k → ok' k) : Foot P W ok' := fun W' hW => h W' (fun k hk hlt => hW k (hok k hk) hlt)
theorem bound (h : Foot P W ok) : Foot P W (fun k => ok k ∧ k < W.heap.size) := fun W' hW => h W' (fun k hk hlt => hW k ⟨hk, hlt⟩ hlt)
theorem step (h : Foot P W ok) (hm : ∀ k, ok k → k < W.heap.size → W1.heap[k]? = W.heap[k]?) : Foot P W1 ok := fun W' hW => h W' (fun k hk hlt => (hW k hk (heap_lt (hm k hk hlt) hlt)).trans (hm k hk hlt))
theorem imp (h : Foot P W ok) (hi : ∀ W', P W' → Q W') : Foot Q W ok := fun W' hW => hi W' (h W' hW)
/-- Moved, and still elder than what is new since W. -/
theorem old (h : Foot P W ok) (hb : Below W.heap.size W W1) : Foot P W1 (fun k => ok k ∧ k < W.heap.size) := (h.bound).step (fun k _ hlt => hb.block k hlt)
end Foot
namespace Kd
/-- A row that is only read: what it leads to lies in ok. -/
def F {α : Type} (d : Kd α) (W : World) (ok : Nat → Prop) (A : Option Addr) (n : Nat) (xs : List α) : Prop := Foot (fun W => d.C W A n xs) W ok
/-- An element's cells: what they lead to lies in ok. -/
def FK {α : Type} (d : Kd α) (W : World) (ok : Nat → Prop) (x : α) (c : List Value) : Prop := Foot (fun W => d.K W x c) W ok
section
variable {α β : Type} {d : Kd α} {e base n n' cc g N : Nat} {ok ok' okp S : Nat → Prop} {w w0 w1 W W1 : World} {A A' : Option Addr} {u v v1 : Value} {xs : List α} {xs' : List β} {d' : Kd β} {x : α} {c : List Value}
theorem F_now (h : F d W ok A n xs) : d.C W A n xs := Foot.now h
theorem F_mono (h : F d W ok A n xs) (hok : ∀ k, ok k → ok' k) : F d W ok' A n xs := Foot.mono h hok
theorem F_bound (h : F d W ok A n xs) : F d W (fun k => ok k ∧ k < W.heap.size) A n xs := Foot.bound h
theorem F_step (h : F d W ok A n xs) (hm : ∀ k, ok k → k < W.heap.size → W1.heap[k]? = W.heap[k]?) : F d W1 ok A n xs := Foot.step h hm
theorem F_below (h : F d W ok A n xs) (hb : Below W.heap.size W W1) : F d W1 ok A n xs := F_step h (fun k _ hlt => hb.block k hlt)
theorem F_alloc (h : F d W ok A n xs) (o : Obj) : F d (W.alloc o) ok A n xs := F_below h (below_alloc (Below.refl _ _) o)
theorem F_drew (h : F d W ok A n xs) : F d W.drew ok A n xs := F_below h (below_drew (Below.refl _ _))
theorem F_drewN (h : F d W ok A n xs) (m : Nat) : F d (W.drewN m) ok A n xs := F_below h (pw_below_drewN (Below.refl _ _) m)
theorem F_far (h : F d W ok A n xs) {p : Addr} (hok : ∀ k, ok k → k ≠ p.block) (u : Value) : F d (W.setCell p u) ok A n xs := F_step h (fun k hk _ => Below.heap_setCell W p u k (hok k hk))
theorem F_nil (d : Kd α) (W : World) (ok : Nat → Prop) : F d W ok none ([] : List α).length [] := fun W' _ => C_nil d W'
/-- A new row's block is none of an elder one's. -/
theorem F_elder' (h : F d W ok A n xs) (hbase : ∀ k, v.ownBlock = some k → W.heap.size ≤ k) (hb : Below W.heap.size W W1) : F d W1 (fun k => ok k ∧ some k ≠ v.ownBlock) A n xs :=
  F_mono (Foot.old h hb) (fun k hk => ⟨hk.1, fun he => by have := hbase k he.symm; have := hk.2; omega⟩)
theorem F_elderB (h : F d W ok A n xs) (a : Nat) (ha : W.heap.size ≤ a) : F d W (fun k => ok k ∧ k ≠ a) A n xs := F_mono (F_bound h) (fun k hk => ⟨hk.1, by have := hk.2; omega⟩)
theorem R_F (h : d.R e W base ok (.slice A n cc) xs) : F d W ok A n xs := fun W' hW => by
  have h2 := R_reads' (R_step h hW)
  rw [h2.1]
  exact h2.2.2
/-- The same of an element's cells. -/
theorem FK_now (h : FK d W ok x c) : d.K W x c := Foot.now h
/-- A block that is emptied reads no more. -/
theorem emptied (W : World) (g : Nat) : ∃ W' : World, (∀ k, k ≠ g → W'.heap[k]? = W.heap[k]?) ∧ ∀ a : Addr, a.block = g → W'.cell? a = none := by
  refine ⟨{ W with heap := W.heap.setIfInBounds g (.cells #[] 0) }, fun k hk => by simp [Ne.symm hk], fun a ha => ?_⟩
  subst ha
  by_cases hlt : a.block < W.heap.size
  · simp [World.cell?, hlt]
  · simp [World.cell?, hlt]
end
end Kd
end Go.Proofs.YtjlcebgfknfelaaW.PrintWords

-- PRINTED BY print.sh 35421559b90ae4d0a3588c463048766b98c2df88dd9212a6774a882060cdf62d: not written by this session
namespace Go.Proofs.YtjlcebgfknfelaaW.PrintWords
open Go.RowKit
namespace Kd
section
variable {α : Type} {d : Kd α} {e base n cc g : Nat} {ok ok' okp S : Nat → Prop} {w w1 W W1 : World} {A : Option Addr} {u v v1 : Value} {xs : List α} {x : α} {c : List Value}
/-- Element i of a row that is read: its cells, and what they lead to, in ok. -/
theorem F_get (h : F d W ok A n xs) (z : α) (i : Int) (h0 : 0 ≤ i) (h1 : i < n) :
    ∃ ad c, A = some ad ∧ c.length = d.sz ∧ FK d W ok (xs.getD i.toNat z) c ∧ (∀ j u, c[j]? = some u → W.cell? (ad.add (i.toNat * d.sz + j)) = some u) ∧ (0 < d.sz → ok ad.block) := by
  obtain ⟨ad, c, rfl, hcl, hK, hcc⟩ := C_get (F_now h) z i h0 h1
  have hin : 0 < d.sz → ok ad.block := by
    intro hs
    by_cases hk : ok ad.block
    · exact hk
    · obtain ⟨W', h2, h3⟩ := emptied W ad.block
      obtain ⟨ad', c', he, hcl', _, hcc'⟩ := C_get (h W' (fun k hk' _ => h2 k (fun e => hk (e ▸ hk')))) z i h0 h1
      injection he with he
      subst he
      have h4 := hcc' 0 _ (List.getElem?_eq_getElem (by omega))
      rw [h3 _ (add_block _ _)] at h4
      cases h4
  refine ⟨ad, c, rfl, hcl, fun W' hW => ?_, hcc, hin⟩
  obtain ⟨ad', c', he, hcl', hK', hcc'⟩ := C_get (h W' hW) z i h0 h1
  injection he with he
  subst he
  have hc : c = c' := by
    apply List.ext_getElem?
    intro j
    by_cases hj : j < d.sz
    · have hb : W'.heap[ad.block]? = W.heap[ad.block]? := by
        have h5 := hcc j _ (List.getElem?_eq_getElem (by omega))
        have h6 := World.block_lt_of_cell? W _ h5
        rw [add_block] at h6
        exact hW _ (hin (by omega)) h6
      have h5 := hcc j _ (List.getElem?_eq_getElem (by omega))
      have h6 := hcc' j _ (List.getElem?_eq_getElem (by omega))
      have h7 : W'.cell? (ad.add (i.toNat * d.sz + j)) = W.cell? (ad.add (i.toNat * d.sz + j)) := by simp [World.cell?, add_block, hb]
      rw [h7, h5] at h6
      rw [List.getElem?_eq_getElem (by omega), List.getElem?_eq_getElem (by omega)]
      exact h6
    · rw [List.getElem?_eq_none (by omega), List.getElem?_eq_none (by omega)]
  rw [hc]
  exact hK'
/-- A row of elements (type e) of the call's own; what the elements lead to is only read, and is not this row. -/
def N {α : Type} (d : Kd α) (e : Nat) (w : World) (base : Nat) (ok : Nat → Prop) (v : Value) (xs : List α) : Prop :=
  (∀ k, v.ownBlock = some k → ok k) ∧ ∃ rows : List (List Value), rows.length = xs.length ∧ (raw d.sz).R e w base (fun k => some k = v.ownBlock) v rows ∧ ∀ (j : Nat) (x : α) (c : List Value), xs[j]? = some x → rows[j]? = some c → FK d w (fun k => ok k ∧ some k ≠ v.ownBlock) x c
end
end Kd
end Go.Proofs.YtjlcebgfknfelaaW.PrintWords

-- PRINTED BY print.sh 35421559b90ae4d0a3588c463048766b98c2df88dd9212a6774a882060cdf62d: not written by this session
namespace Go.Proofs.YtjlcebgfknfelaaW.PrintWords
open Go.RowKit
namespace Kd
section
variable {α : Type} {d : Kd α} {W : World} {g n : Nat} {S ok : Nat → Prop} {A : Option Addr} {ad : Addr} {xs : List α}
end
end Kd
end Go.Proofs.YtjlcebgfknfelaaW.PrintWords

-- PRINTED BY print.sh 35421559b90ae4d0a3588c463048766b98c2df88dd9212a6774a882060cdf62d: not written by this session
namespace Go.Proofs.YtjlcebgfknfelaaW.PrintWords
open Go.RowKit
section
variable {w w' u : World} {m B g : Nat} {o : Obj} {row : Option Nat} {S : Nat → Prop} {a : Addr} {v : Value}
end
namespace Kd
section
variable {α : Type} {d : Kd α} {e base n m : Nat} {ok : Nat → Prop} {w w' : World} {v : Value} {A : Option Addr} {xs : List α}
end
end Kd
end Go.Proofs.YtjlcebgfknfelaaW.PrintWords

-- PRINTED BY print.sh 35421559b90ae4d0a3588c463048766b98c2df88dd9212a6774a882060cdf62d: not written by this session
namespace Go.Proofs.YtjlcebgfknfelaaW.PrintWords
open Go.RowKit
section
variable {P : Program} {d : Nat} {xs ys : Array Value} {f : Field} {fs : List Field} {a b : Value} {r s : Bool} {w : World}
end
end Go.Proofs.YtjlcebgfknfelaaW.PrintWords

-- PRINTED BY print.sh 35421559b90ae4d0a3588c463048766b98c2df88dd9212a6774a882060cdf62d: not written by this session
namespace Go.Proofs.YtjlcebgfknfelaaW.PrintWords
/-- One cell an element. -/
theorem Reps.one {α : Type} {R : α → List Value → Prop} {ps : List α} {cs : List Value} {p : α} {v : Value} (hp : R p [v]) (h : Reps R 1 ps cs) : Reps R 1 (p :: ps) (v :: cs) := by
  refine ⟨by simp [h.1], fun j q hq => ?_⟩
  cases j with
  | zero =>
    simp only [List.getElem?_cons_zero, Option.some.injEq] at hq
    subst hq
    simpa using hp
  | succ j =>
    simp only [List.getElem?_cons_succ] at hq
    have h1 := h.2 j q hq
    simpa [Nat.mul_one] using h1
/-- More cells an element: told apart by the cells' list. -/
theorem Reps.front {α : Type} {R : α → List Value → Prop} {size : Nat} {ps : List α} {cs c all : List Value} {p : α} (hp : R p c) (hc : c.length = size) (h : Reps R size ps cs) (ha : c ++ cs = all) : Reps R size (p :: ps) all := by
  subst ha
  refine ⟨by rw [List.length_append, hc, h.1, List.length_cons, Nat.succ_mul, Nat.add_comm], fun j q hq => ?_⟩
  cases j with
  | zero =>
    simp only [List.getElem?_cons_zero, Option.some.injEq] at hq
    subst hq
    rw [Nat.zero_mul, List.drop_zero, List.take_append_of_le_length (by omega), List.take_of_length_le (by omega)]
    exact hp
  | succ j =>
    simp only [List.getElem?_cons_succ] at hq
    have h1 := h.2 j q hq
    rw [Nat.succ_mul, List.drop_append, List.drop_of_length_le (by rw [hc]; exact Nat.le_add_left _ _), List.nil_append, hc, Nat.add_sub_cancel]
    exact h1
theorem Reps.c2 {α : Type} {R : α → List Value → Prop} {ps : List α} {cs : List Value} {p : α} {va vb : Value} (hp : R p [va, vb]) (h : Reps R 2 ps cs) : Reps R 2 (p :: ps) (va :: vb :: cs) := Reps.front hp rfl h rfl
theorem Reps.c3 {α : Type} {R : α → List Value → Prop} {ps : List α} {cs : List Value} {p : α} {va vb vc : Value} (hp : R p [va, vb, vc]) (h : Reps R 3 ps cs) : Reps R 3 (p :: ps) (va :: vb :: vc :: cs) := Reps.front hp rfl h rfl
theorem Reps.c4 {α : Type} {R : α → List Value → Prop} {ps : List α} {cs : List Value} {p : α} {va vb vc vd : Value} (hp : R p [va, vb, vc, vd]) (h : Reps R 4 ps cs) : Reps R 4 (p :: ps) (va :: vb :: vc :: vd :: cs) := Reps.front hp rfl h rfl
theorem Reps.c5 {α : Type} {R : α → List Value → Prop} {ps : List α} {cs : List Value} {p : α} {va vb vc vd ve : Value} (hp : R p [va, vb, vc, vd, ve]) (h : Reps R 5 ps cs) : Reps R 5 (p :: ps) (va :: vb :: vc :: vd :: ve :: cs) := Reps.front hp rfl h rfl
theorem Reps.c6 {α : Type} {R : α → List Value → Prop} {ps : List α} {cs : List Value} {p : α} {va vb vc vd ve vf : Value} (hp : R p [va, vb, vc, vd, ve, vf]) (h : Reps R 6 ps cs) : Reps R 6 (p :: ps) (va :: vb :: vc :: vd :: ve :: vf :: cs) := Reps.front hp rfl h rfl
theorem Reps.c7 {α : Type} {R : α → List Value → Prop} {ps : List α} {cs : List Value} {p : α} {va vb vc vd ve vf vg : Value} (hp : R p [va, vb, vc, vd, ve, vf, vg]) (h : Reps R 7 ps cs) : Reps R 7 (p :: ps) (va :: vb :: vc :: vd :: ve :: vf :: vg :: cs) := Reps.front hp rfl h rfl
theorem Reps.c8 {α : Type} {R : α → List Value → Prop} {ps : List α} {cs : List Value} {p : α} {va vb vc vd ve vf vg vh : Value} (hp : R p [va, vb, vc, vd, ve, vf, vg, vh]) (h : Reps R 8 ps cs) : Reps R 8 (p :: ps) (va :: vb :: vc :: vd :: ve :: vf :: vg :: vh :: cs) := Reps.front hp rfl h rfl
theorem Reps.c9 {α : Type} {R : α → List Value → Prop} {ps : List α} {cs : List Value} {p : α} {va vb vc vd ve vf vg vh vi : Value} (hp : R p [va, vb, vc, vd, ve, vf, vg, vh, vi]) (h : Reps R 9 ps cs) : Reps R 9 (p :: ps) (va :: vb :: vc :: vd :: ve :: vf :: vg :: vh :: vi :: cs) := Reps.front hp rfl h rfl
theorem Reps.c10 {α : Type} {R : α → List Value → Prop} {ps : List α} {cs : List Value} {p : α} {va vb vc vd ve vf vg vh vi vj : Value} (hp : R p [va, vb, vc, vd, ve, vf, vg, vh, vi, vj]) (h : Reps R 10 ps cs) : Reps R 10 (p :: ps) (va :: vb :: vc :: vd :: ve :: vf :: vg :: vh :: vi :: vj :: cs) := Reps.front hp rfl h rfl
end Go.Proofs.YtjlcebgfknfelaaW.PrintWords

-- PRINTED BY print.sh 35421559b90ae4d0a3588c463048766b98c2df88dd9212a6774a882060cdf62d: not written by this session
namespace Go.Proofs.YtjlcebgfknfelaaW.PrintLast
section
variable {P : Program} {ops : Array Oper} {Q : Exit → Act → World → Prop} {md : Region.Mode} {T : Bool × List (List Nat × List Nat)} {B : List Nat} {O : List Nat} {b : Nat → Bool} {i j n : Nat}
end
end Go.Proofs.YtjlcebgfknfelaaW.PrintLast

-- PRINTED BY print.sh 35421559b90ae4d0a3588c463048766b98c2df88dd9212a6774a882060cdf62d: not written by this session
namespace Go.Proofs.YtjlcebgfknfelaaW.PrintWords
open Go.RowKit
end Go.Proofs.YtjlcebgfknfelaaW.PrintWords
namespace Go.Proofs.YtjlcebgfknfelaaW.PrintLast
section
variable {ops : Array Oper} {a : Act} {o og : Oper} {g : Nat} {t : Tmp} {u : Bool}
end
end Go.Proofs.YtjlcebgfknfelaaW.PrintLast

-- PRINTED BY print.sh 35421559b90ae4d0a3588c463048766b98c2df88dd9212a6774a882060cdf62d: not written by this session
namespace Go.Proofs.YtjlcebgfknfelaaW.PrintWords
open Go.RowKit
section
variable {P : Program} {ops : Array Oper} {rest : List Oper} {o : Oper} {a : Act} {Q : Exit → Act → World → Prop} {W : World}
/-- The gate takes the guard off (hw: 'by rfl', 'by kernel_rfl': the guard's slot holds what is wanted). -/
theorem gate_guard (hw : Region.wanted o (yielded ops a.tmps) = true) (h : wpList P ops Q ({ o with guard := none } :: rest) a W) : wpList P ops Q (o :: rest) a W := by
  have h1 : Region.wanted { o with guard := none } (yielded ops a.tmps) = true := rfl
  unfold wpList at h ⊢
  rw [if_pos h1] at h
  rw [if_pos hw]
  exact h
end
end Go.Proofs.YtjlcebgfknfelaaW.PrintWords

-- PRINTED BY print.sh 35421559b90ae4d0a3588c463048766b98c2df88dd9212a6774a882060cdf62d: not written by this session
namespace Go.Proofs.YtjlcebgfknfelaaW.PrintWords
open Go.RowKit
namespace Kd
section
variable {α : Type} {d : Kd α} {e base n cap g : Nat} {ok ok' okp : Nat → Prop} {w w1 W : World} {v v1 : Value} {xs ys : List α}
end
section
variable {P : Program} {ops : Array Oper} {rest : List Oper} {o : Oper} {a : Act} {Q : Exit → Act → World → Prop} {Kc : Act → World → Prop} {α : Type}
end
end Kd
end Go.Proofs.YtjlcebgfknfelaaW.PrintWords

-- PRINTED BY print.sh 35421559b90ae4d0a3588c463048766b98c2df88dd9212a6774a882060cdf62d: not written by this session
-- PRINTED WORDS (module Derived/Print/More.lean): go-gate-2's additions: an AI agent of Go's test side, Tue Nov 17 2026; no person has read it. Lean checks it.
namespace Go.Proofs.YtjlcebgfknfelaaW.PrintMore
open Go.RowKit Go.Proofs.YtjlcebgfknfelaaW.PrintWords
namespace Kd
open Go.Proofs.YtjlcebgfknfelaaW.PrintWords.Kd
end Kd
namespace Kd
open Go.Proofs.YtjlcebgfknfelaaW.PrintWords.Kd
section
variable {α : Type} {d : Kd α} {e base g N : Nat} {ok : Nat → Prop} {W w1 : World} {u v : Value} {xs : List α}
end
end Kd
/-- 'max' and 'min' of two whole numbers. -/
theorem max2_int (k k' : IntKind) (x y : Int) : Builtin.max2 (.int k x) (.int k' y) = pure (.int k (if x < y then y else x)) := by simp only [Builtin.max2, gt_iff_lt]
theorem min2_int (k k' : IntKind) (x y : Int) : Builtin.min2 (.int k x) (.int k' y) = pure (.int k (if y < x then y else x)) := by simp only [Builtin.min2]
theorem max_two (ats : Array TypeId) (ty : TypeId) (a b : Value) : Builtin.max_ ats ty #[a, b] = (Builtin.max2 a b >>= fun s => pure s) := by simp only [Builtin.max_, List.foldlM_cons, List.foldlM_nil]
theorem min_two (ats : Array TypeId) (ty : TypeId) (a b : Value) : Builtin.min_ ats ty #[a, b] = (Builtin.min2 a b >>= fun s => pure s) := by simp only [Builtin.min_, List.foldlM_cons, List.foldlM_nil]
theorem max_three (ats : Array TypeId) (ty : TypeId) (a b c : Value) : Builtin.max_ ats ty #[a, b, c] = (Builtin.max2 a b >>= fun s => Builtin.max2 s c >>= fun s => pure s) := by simp only [Builtin.max_, List.foldlM_cons, List.foldlM_nil]
theorem min_three (ats : Array TypeId) (ty : TypeId) (a b c : Value) : Builtin.min_ ats ty #[a, b, c] = (Builtin.min2 a b >>= fun s => Builtin.min2 s c >>= fun s => pure s) := by simp only [Builtin.min_, List.foldlM_cons, List.foldlM_nil]
theorem max_four (ats : Array TypeId) (ty : TypeId) (a b c d : Value) : Builtin.max_ ats ty #[a, b, c, d] = (Builtin.max2 a b >>= fun s => Builtin.max2 s c >>= fun s => Builtin.max2 s d >>= fun s => pure s) := by simp only [Builtin.max_, List.foldlM_cons, List.foldlM_nil]
theorem min_four (ats : Array TypeId) (ty : TypeId) (a b c d : Value) : Builtin.min_ ats ty #[a, b, c, d] = (Builtin.min2 a b >>= fun s => Builtin.min2 s c >>= fun s => Builtin.min2 s d >>= fun s => pure s) := by simp only [Builtin.min_, List.foldlM_cons, List.foldlM_nil]
end Go.Proofs.YtjlcebgfknfelaaW.PrintMore
namespace Go.Proofs.YtjlcebgfknfelaaW.PrintWords
open Go.RowKit
section
variable {P : Program} {ops : Array Oper} {rest : List Oper} {o : Oper} {a : Act} {Q : Exit → Act → World → Prop} {W : World}
/-- The operation is a call of this function (a cheap look ahead of a dear step). -/
theorem gate_callee {f : FuncId} {as_ : Array Operand} {ts : Array TypeId} (_ho : o.op = .call { callee := .value (.func f), args := as_, argTypes := ts }) (h : wpList P ops Q (o :: rest) a W) : wpList P ops Q (o :: rest) a W := h
end
namespace Kd
section
variable {α : Type} {d : Kd α} {e base : Nat} {ok : Nat → Prop} {W w1 : World} {v : Value} {xs : List α}
/-- The same, where the row that was written may be none. -/
theorem R_grown2 (h : d.R e W base ok v xs) (hE : d.E = []) {row : Option Nat} (hg : W.grownBy w1 row) (hne : ∀ k, row = some k → some k ≠ v.ownBlock) : d.R e w1 base ok v xs :=
  R_mono (R_grown (R_tight hE h) hg (fun k hk e_ => hne k e_.symm hk)) (fun k hk => h.1 k hk.symm)
end
section
variable {α : Type} {d : Kd α} {e base g n cap : Nat} {ok oki okp : Nat → Prop} {W : World} {xs : List α} {i : Int} {c : List Value}
end
section
variable {α : Type} {d : Kd α} {e base b b' g N : Nat} {ok ok1 : Nat → Prop} {W W2 w1 : World} {u v : Value} {xs ys : List α} {S : Nat → Prop}
theorem R_reok (hE : d.E = []) (h : d.R e W base ok1 v xs) (hok : ∀ k, v.ownBlock = some k → ok k) : d.R e W base ok v xs := R_mono (R_tight hE h) (fun k hk => hok k hk.symm)
end
end Kd
end Go.Proofs.YtjlcebgfknfelaaW.PrintWords
namespace Go.Proofs.YtjlcebgfknfelaaW.PrintWords
open Go.RowKit
namespace Kd
/-- A row that is only read, told by its value: its form, its length, what it leads to (in ok). e and base say nothing; they make it as_ the others are. -/
def V {α : Type} (d : Kd α) (_e : Nat) (W : World) (_base : Nat) (ok : Nat → Prop) (v : Value) (xs : List α) : Prop := ∃ A c, v = .slice A xs.length c ∧ xs.length ≤ c ∧ F d W ok A xs.length xs
section
variable {α β : Type} {d : Kd α} {e base base' n m c g N' lo hi : Nat} {ok ok' S : Nat → Prop} {w W w1 : World} {A : Option Addr} {ad : Addr} {u v v1 : Value} {xs : List α}
theorem V_map (h : V d e W base ok v xs) (hF : ∀ A, F d W ok A xs.length xs → F d w1 ok' A xs.length xs) : V d e w1 base' ok' v xs := by
  obtain ⟨A, c, hv, hl, hf⟩ := h
  exact ⟨A, c, hv, hl, hF A hf⟩
theorem V_mk (hl : xs.length ≤ c) (hf : F d W ok A xs.length xs) : V d e W base ok (.slice A xs.length c) xs := ⟨A, c, rfl, hl, hf⟩
theorem V_slice (h : V d e W base ok v xs) : ∃ A c, v = .slice A xs.length c := by
  obtain ⟨A, c, hv, _⟩ := h
  exact ⟨A, c, hv⟩
theorem V_at (h : V d e W base ok (.slice A n c) xs) : n = xs.length ∧ n ≤ c ∧ F d W ok A xs.length xs := by
  obtain ⟨A', c', hv, hl, hf⟩ := h
  injection hv with ha hn hc
  subst ha; subst hc
  exact ⟨hn, by rw [hn]; exact hl, hf⟩
theorem V_reads' (h : V d e W base ok (.slice A n c) xs) : n = xs.length ∧ n ≤ c ∧ d.C W A xs.length xs := ⟨(V_at h).1, (V_at h).2.1, F_now (V_at h).2.2⟩
theorem V_F (h : V d e W base ok (.slice A n c) xs) : F d W ok A n xs := by
  obtain ⟨hn, _, hf⟩ := V_at h
  rw [hn]
  exact hf
theorem V_nil (d : Kd α) (e : Nat) (W : World) (base : Nat) (ok : Nat → Prop) : V d e W base ok (.slice none 0 0) [] := ⟨none, 0, rfl, Nat.le_refl _, F_nil d W ok⟩
theorem R_V (h : d.R e W base ok v xs) : V d e W base' ok v xs := by
  obtain ⟨A, c, rfl⟩ := R_slice h
  exact ⟨A, c, rfl, (R_reads' h).2.1, R_F h⟩
theorem S_V (h : Kd.S d e W base ok v xs) : V d e W base' ok v xs := R_V (S_R h)
theorem V_mono (h : V d e W base ok v xs) (hok : ∀ k, ok k → ok' k) : V d e W base ok' v xs := V_map h (fun _ hf => F_mono hf hok)
theorem V_lower (h : V d e W base ok v xs) (_ : base' ≤ base) : V d e W base' ok v xs := h
theorem V_below (h : V d e W base ok v xs) (hb : Below W.heap.size W w1) : V d e w1 base ok v xs := V_map h (fun _ hf => F_below hf hb)
theorem V_alloc (h : V d e W base ok v xs) (o : Obj) : V d e (W.alloc o) base ok v xs := V_map h (fun _ hf => F_alloc hf o)
theorem V_drew (h : V d e W base ok v xs) : V d e W.drew base ok v xs := V_map h (fun _ hf => F_drew hf)
theorem V_drewN (h : V d e W base ok v xs) (m : Nat) : V d e (W.drewN m) base ok v xs := V_map h (fun _ hf => F_drewN hf m)
theorem V_far (h : V d e W base ok v xs) {p : Addr} (hok : ∀ k, ok k → k ≠ p.block) (u : Value) : V d e (W.setCell p u) base ok v xs := V_map h (fun _ hf => F_far hf hok u)
theorem V_elder' (h : V d e W base ok v xs) (hbase : ∀ k, u.ownBlock = some k → W.heap.size ≤ k) (hb : Below W.heap.size W w1) : V d e w1 base (fun k => ok k ∧ some k ≠ u.ownBlock) v xs := V_map h (fun _ hf => F_elder' hf hbase hb)
theorem V_elderB (h : V d e W base ok v xs) (a : Nat) (ha : W.heap.size ≤ a) : V d e W base (fun k => ok k ∧ k ≠ a) v xs := V_map h (fun _ hf => F_elderB hf a ha)
theorem V_get (h : V d e W base ok (.slice (some ad) n c) xs) (z : α) (i : Int) (h0 : 0 ≤ i) (h1 : i < n) :
    ∃ cs, cs.length = d.sz ∧ FK d W ok (xs.getD i.toNat z) cs ∧ ∀ j u, cs[j]? = some u → W.cell? (ad.add (i.toNat * d.sz + j)) = some u := by
  obtain ⟨ad', cs, he, hcl, hK, hcc, _⟩ := F_get (V_F h) z i h0 h1
  injection he with he
  subst he
  exact ⟨cs, hcl, hK, hcc⟩
end
end Kd
end Go.Proofs.YtjlcebgfknfelaaW.PrintWords

namespace Go.Proofs.Ytjlcebgfknfelaa.QFnTreesAgree
open Go.RowKit Go.Proofs.YtjlcebgfknfelaaW.PrintWords Go.Proofs.YtjlcebgfknfelaaW.PrintLast Go.Proofs.YtjlcebgfknfelaaW.PrintMore
attribute [local go_sem] max2_int min2_int max_two min_two max_three min_three max_four min_four   -- for this text's walks alone
set_option linter.unusedVariables false
set_option linter.unusedSimpArgs false
def errW : Option Int → Value
  | none => .nilIface
  | some c => .iface 0 (.int .i64 c)
theorem errW_none : errW none = .nilIface := rfl
theorem errW_some (c : Int) : errW (some c) = .iface 0 (.int .i64 c) := rfl
structure S46 where
  f0 : Int
  f1 : Bool
  f2 : (List Int)
  f3 : (List Int)
def z46 : S46 := ⟨(0 : Int), false, ([] : List Int), ([] : List Int)⟩
def k46 : Kd S46 := Kd.iso (Kd.pair (Kd.int .i64) (Kd.pair Kd.bool (Kd.pair (Kd.slice 3 (Kd.int .i64)) (Kd.slice 3 (Kd.int .i64))))) (fun x : S46 => (x.f0, x.f1, x.f2, x.f3))
theorem k46_open {w : World} {x : S46} {cs : List Value} (h : k46.K w x cs) : ∃ A2 c2 A3 c3, cs = [.int .i64 x.f0, .bool x.f1, .slice A2 x.f2.length c2, .slice A3 x.f3.length c3] ∧ x.f2.length ≤ c2 ∧ (Kd.int .i64).C w A2 x.f2.length x.f2 ∧ x.f3.length ≤ c3 ∧ (Kd.int .i64).C w A3 x.f3.length x.f3 := by
  obtain ⟨_, _, rfl, rfl, ⟨_, _, rfl, rfl, ⟨_, _, rfl, ⟨A2, c2, rfl, l2, g2⟩, ⟨A3, c3, rfl, l3, g3⟩⟩⟩⟩ := h
  exact ⟨A2, c2, A3, c3, rfl, l2, g2, l3, g3⟩
theorem k46_openF {W : World} {ok : Nat → Prop} {x : S46} {cs : List Value} (h : Kd.FK k46 W ok x cs) : ∃ A2 c2 A3 c3, cs = [.int .i64 x.f0, .bool x.f1, .slice A2 x.f2.length c2, .slice A3 x.f3.length c3] ∧ x.f2.length ≤ c2 ∧ Kd.F (Kd.int .i64) W ok A2 x.f2.length x.f2 ∧ x.f3.length ≤ c3 ∧ Kd.F (Kd.int .i64) W ok A3 x.f3.length x.f3 := by
  obtain ⟨A2, c2, A3, c3, rfl, l2, _, l3, _⟩ := k46_open (Kd.FK_now h)
  exact ⟨A2, c2, A3, c3, rfl, l2, (fun W' hW => by obtain ⟨A2_, c2_, A3_, c3_, he, l2_, g2_, l3_, g3_⟩ := k46_open (h W' hW); injection (Option.some.inj (show some (Value.slice A2 x.f2.length c2) = some (Value.slice A2_ x.f2.length c2_) from congrArg (fun l => l[2]?) he)) with ha_ _ _; rw [ha_]; exact g2_), l3, (fun W' hW => by obtain ⟨A2_, c2_, A3_, c3_, he, l2_, g2_, l3_, g3_⟩ := k46_open (h W' hW); injection (Option.some.inj (show some (Value.slice A3 x.f3.length c3) = some (Value.slice A3_ x.f3.length c3_) from congrArg (fun l => l[3]?) he)) with ha_ _ _; rw [ha_]; exact g3_)⟩
def rd_T46 (xs : List S46) (i : Int) : S46 := xs.getD i.toNat z46
theorem at_T46 {w : World} {A : Option Addr} {n : Nat} {xs : List S46} (h : Kd.C k46 w A n xs) (i : Int) (h0 : 0 ≤ i) (h1 : i < n) : ∃ ad A2 c2 A3 c3, A = some ad ∧ w.cell? (ad.add (i.toNat * 4)) = some (.int .i64 (rd_T46 xs i).f0) ∧ w.cell? ⟨(ad.add (i.toNat * 4)).block, (ad.add (i.toNat * 4)).off + 1, none⟩ = some (.bool (rd_T46 xs i).f1) ∧ w.cell? ⟨(ad.add (i.toNat * 4)).block, (ad.add (i.toNat * 4)).off + 2, none⟩ = some (.slice A2 (rd_T46 xs i).f2.length c2) ∧ w.cell? ⟨(ad.add (i.toNat * 4)).block, (ad.add (i.toNat * 4)).off + 3, none⟩ = some (.slice A3 (rd_T46 xs i).f3.length c3) ∧ (rd_T46 xs i).f2.length ≤ c2 ∧ (Kd.int .i64).C w A2 (rd_T46 xs i).f2.length (rd_T46 xs i).f2 ∧ (rd_T46 xs i).f3.length ≤ c3 ∧ (Kd.int .i64).C w A3 (rd_T46 xs i).f3.length (rd_T46 xs i).f3 := by
  obtain ⟨ad, c, e, _, hK, hc0⟩ := Kd.C_get h z46 i h0 h1
  have hc : ∀ j u, c[j]? = some u → w.cell? (ad.add (i.toNat * 4 + j)) = some u := hc0
  obtain ⟨A2, c2, A3, c3, rfl, l2, g2, l3, g3⟩ := k46_open hK
  exact ⟨ad, A2, c2, A3, c3, e, hc 0 _ rfl, by rw [← add_field _ _ 1 (by omega)]; exact hc 1 _ rfl, by rw [← add_field _ _ 2 (by omega)]; exact hc 2 _ rfl, by rw [← add_field _ _ 3 (by omega)]; exact hc 3 _ rfl, l2, g2, l3, g3⟩
structure S66 where
  f0 : Int
  f1 : Int
  f2 : Int
def z66 : S66 := ⟨(0 : Int), (0 : Int), (0 : Int)⟩
def k66 : Kd S66 := Kd.iso (Kd.pair (Kd.int .i64) (Kd.pair (Kd.int .i64) (Kd.int .i64))) (fun x : S66 => (x.f0, x.f1, x.f2))
theorem k66_open {w : World} {x : S66} {cs : List Value} (h : k66.K w x cs) : cs = [.int .i64 x.f0, .int .i64 x.f1, .int .i64 x.f2] := by
  obtain ⟨_, _, rfl, rfl, ⟨_, _, rfl, rfl, rfl⟩⟩ := h
  exact rfl
theorem k66_mkM (w : World) (base : Nat) (ok : Nat → Prop) (x : S66)  : k66.M w base ok x [.int .i64 x.f0, .int .i64 x.f1, .int .i64 x.f2] := ⟨[.int .i64 x.f0], [.int .i64 x.f1, .int .i64 x.f2], rfl, rfl, ⟨[.int .i64 x.f1], [.int .i64 x.f2], rfl, rfl, rfl⟩⟩
def rd_T66 (xs : List S66) (i : Int) : S66 := xs.getD i.toNat z66
theorem at_T66 {w : World} {A : Option Addr} {n : Nat} {xs : List S66} (h : Kd.C k66 w A n xs) (i : Int) (h0 : 0 ≤ i) (h1 : i < n) : ∃ ad , A = some ad ∧ w.cell? (ad.add (i.toNat * 3)) = some (.int .i64 (rd_T66 xs i).f0) ∧ w.cell? ⟨(ad.add (i.toNat * 3)).block, (ad.add (i.toNat * 3)).off + 1, none⟩ = some (.int .i64 (rd_T66 xs i).f1) ∧ w.cell? ⟨(ad.add (i.toNat * 3)).block, (ad.add (i.toNat * 3)).off + 2, none⟩ = some (.int .i64 (rd_T66 xs i).f2) := by
  obtain ⟨ad, c, e, _, hK, hc0⟩ := Kd.C_get h z66 i h0 h1
  have hc : ∀ j u, c[j]? = some u → w.cell? (ad.add (i.toNat * 3 + j)) = some u := hc0
  obtain rfl := k66_open hK
  exact ⟨ad, e, hc 0 _ rfl, by rw [← add_field _ _ 1 (by omega)]; exact hc 1 _ rfl, by rw [← add_field _ _ 2 (by omega)]; exact hc 2 _ rfl⟩
end Go.Proofs.Ytjlcebgfknfelaa.QFnTreesAgree

namespace Go.Proofs.Ytjlcebgfknfelaa.Hk
open Go
open Go.RowKit
/-- Outside of the blocks S all that was there is as_ it was. -/
structure Fr (S : Nat → Prop) (w w' : World) : Prop where
  os : w'.os = w.os
  tape : w'.tape = w.tape
  output : w'.output = w.output
  size : w.heap.size ≤ w'.heap.size
  block : ∀ k, k < w.heap.size → ¬ S k → w'.heap[k]? = w.heap[k]?
theorem Fr.refl (S : Nat → Prop) (w : World) : Fr S w w := ⟨rfl, rfl, rfl, Nat.le_refl _, fun _ _ _ => rfl⟩
theorem Fr.trans {S S' : Nat → Prop} {a b c : World} (h : Fr S a b) (k : Fr S' b c) (hs : ∀ n, n < a.heap.size → S' n → S n) : Fr S a c :=
  ⟨k.os.trans h.os, k.tape.trans h.tape, k.output.trans h.output, Nat.le_trans h.size k.size,
    fun i hi hn => (k.block i (Nat.lt_of_lt_of_le hi h.size) (fun hk => hn (hs i hi hk))).trans (h.block i hi hn)⟩
theorem Fr.mono {S S' : Nat → Prop} {w w' : World} (h : Fr S w w') (hs : ∀ n, n < w.heap.size → S n → S' n) : Fr S' w w' :=
  ⟨h.os, h.tape, h.output, h.size, fun k hk hn => h.block k hk (fun hS => hn (hs k hk hS))⟩
theorem Fr.drew {S : Nat → Prop} {a w : World} (h : Fr S a w) : Fr S a w.drew := ⟨h.os, h.tape, h.output, h.size, h.block⟩
theorem Fr.alloc {S : Nat → Prop} {a w : World} (h : Fr S a w) (o : Obj) : Fr S a (w.alloc o) :=
  h.trans (S' := fun _ => False) ⟨rfl, rfl, rfl, by simp, fun k hk _ => Below.heap_alloc _ _ _ hk⟩ (fun _ _ h => h.elim)
theorem Fr.setCell {S : Nat → Prop} {a w : World} (h : Fr S a w) {p : Addr} (hp : p.block < a.heap.size → S p.block) (u : Value) : Fr S a (w.setCell p u) :=
  h.trans (S' := fun k => k = p.block) ⟨rfl, rfl, rfl, by simp [World.setCell], fun k hk hn => Below.heap_setCell _ _ _ _ hn⟩ (fun n hn e => by subst e; exact hp hn)
/-- A frame over blocks from 'base' on. -/
theorem Fr.below {S : Nat → Prop} {w w' : World} (h : Fr S w w') {base : Nat} (hb : base ≤ w.heap.size) (hS : ∀ k, S k → base ≤ k) : Below base w w' :=
  ⟨h.os, h.tape, h.output, h.size, fun k hk => h.block k (by omega) (fun hk' => by have := hS k hk'; omega)⟩
theorem Fr.of_grown {w w' : World} {row : Option Nat} (h : w.grownBy w' row) : Fr (fun k => some k = row) w w' :=
  ⟨h.os, h.tape, h.output, h.size, fun k hk hn => h.block k hk hn⟩
/-- A block of cells, none of them frozen. -/
def Blk (w : World) (b : Nat) (cs : Array Value) (t : TypeId) : Prop := w.heap[b]? = some (.cells cs t (0, 0))
section
variable {w : World} {b : Nat} {cs : Array Value} {t : TypeId}
theorem Blk.lt (h : Blk w b cs t) : b < w.heap.size := lt_of_block h
theorem Blk.cell (h : Blk w b cs t) (i : Nat) : w.cell? ⟨b, i, none⟩ = cs[i]? := by
  have h' : w.heap[b]? = some (.cells cs t (0, 0)) := h
  simp [World.cell?, h']
theorem Blk.free (h : Blk w b cs t) (i : Nat) : w.frozen? ⟨b, i, none⟩ = false := by
  have h' : w.heap[b]? = some (.cells cs t (0, 0)) := h
  simp [World.frozen?, h']
theorem Blk.fr {S : Nat → Prop} {w' : World} (h : Blk w b cs t) (hf : Fr S w w') (hn : ¬ S b) : Blk w' b cs t := (hf.block b h.lt hn).trans h
theorem Blk.below {base : Nat} {w' : World} (h : Blk w b cs t) (hf : Below base w w') (hn : b < base) : Blk w' b cs t := (hf.block b hn).trans h
theorem Blk.drew (h : Blk w b cs t) : Blk w.drew b cs t := h
theorem Blk.alloc (h : Blk w b cs t) (o : Obj) : Blk (w.alloc o) b cs t := (Below.heap_alloc w o b h.lt).trans h
theorem Blk.new (w : World) (cs : Array Value) (t : TypeId) : Blk (w.alloc (.cells cs t)) w.heap.size cs t := heap_alloc_new w _
theorem Blk.set (h : Blk w b cs t) (i : Nat) (v : Value) : Blk (w.setCell ⟨b, i, none⟩ v) b (cs.setIfInBounds i v) t := by
  have hlt := h.lt
  have h0 : w.heap[b]? = some (.cells cs t (0, 0)) := h
  have h' : w.heap[b] = .cells cs t (0, 0) := by simpa [Array.getElem?_eq_getElem hlt] using h0
  show (w.heap.modify b _)[b]? = _
  rw [Array.getElem?_eq_getElem (by simpa using hlt), Array.getElem_modify_self, h']
  rfl
theorem Blk.other (h : Blk w b cs t) (a : Addr) (v : Value) (hn : b ≠ a.block) : Blk (w.setCell a v) b cs t := (Below.heap_setCell _ _ _ _ hn).trans h
theorem Blk.inj {cs' : Array Value} {t' : TypeId} (h : Blk w b cs t) (h' : Blk w b cs' t') : cs = cs' ∧ t = t' := by
  have e : some (Obj.cells cs t (0, 0)) = some (.cells cs' t' (0, 0)) := h.symm.trans h'
  injection e with e; injection e with e1 e2; exact ⟨e1, e2⟩
end
/-- A region that draws its order and only reads: the world behind is the drawn one. -/
theorem still_drew {P : Program} {id : Nat} {Q : Exit → Act → World → Prop} {a : Act} {w : World} {l : List Oper} (hm : P.follows .mixedOrders = true) (hB : Region.lexB .any l.toArray = true)
    (h : wpStill P l.toArray w.drew (fun a' => Q .normal a' w.drew) l a) : (Code.region id l.toArray true).wp P Q a w := wp_region_still_lit hm hB h
/-- .. that ends with operations that write, in one order. -/
theorem still_tail_drew {P : Program} {id : Nat} {Q : Exit → Act → World → Prop} {a : Act} {w : World} {l : List Oper} (n : Nat) (hm : P.follows .mixedOrders = true) (hB : Region.lexTailB .any l.toArray n = true)
    (h : wpStill P l.toArray w.drew (fun a' => wpList P l.toArray Q (l.drop n) a' w.drew) (l.take n) a) : (Code.region id l.toArray true).wp P Q a w := wp_region_still_tail n hm hB h
end Go.Proofs.Ytjlcebgfknfelaa.Hk

namespace Go.Proofs.Ytjlcebgfknfelaa.AvlPure
inductive T where
  | nil
  | node (k v h : Int) (l r : T)
namespace T
def ht : T → Int
  | nil => 0
  | node _ _ h _ _ => h
def lf : T → T
  | nil => nil
  | node _ _ _ l _ => l
def rt : T → T
  | nil => nil
  | node _ _ _ _ r => r
/-- How many levels there are. -/
def tall : T → Int
  | nil => 0
  | node _ _ _ l r => 1 + max (tall l) (tall r)
def size : T → Int
  | nil => 0
  | node _ _ _ l r => 1 + size l + size r
def list : T → List (Int × Int)
  | nil => []
  | node k v _ l r => list l ++ (k, v) :: list r
/-- A node with its height reckoned anew. -/
def mk (k v : Int) (l r : T) : T := node k v (1 + max (ht l) (ht r)) l r
def rotL : T → T
  | node k v _ l (node k2 v2 _ rl rr) => mk k2 v2 (mk k v l rl) rr
  | t => t
def rotR : T → T
  | node k v _ (node k2 v2 _ ll lr) r => mk k2 v2 ll (mk k v lr r)
  | t => t
def reb : T → T
  | nil => nil
  | node k v _ l r =>
    if ht l - ht r ≤ -2 then rotL (mk k v l (if ht (lf r) > ht (rt r) then rotR r else r))
    else if ht l - ht r ≥ 2 then rotR (mk k v (if ht (rt l) > ht (lf l) then rotL l else l) r)
    else mk k v l r
def ins (rk : Int → Int) (key val : Int) : T → T
  | nil => node key val 1 nil nil
  | node k v h l r =>
    if rk key < rk k then reb (node k v h (ins rk key val l) r)
    else if rk k < rk key then reb (node k v h l (ins rk key val r))
    else reb (node k val h l r)
/-- The pair that stands leftmost (of an empty tree: nought). -/
def least : T → Int × Int
  | nil => (0, 0)
  | node k v _ nil _ => (k, v)
  | node _ _ _ l _ => least l
def isNil : T → Bool
  | nil => true
  | node _ _ _ _ _ => false
def rem (rk : Int → Int) : T → Int → T
  | nil, _ => nil
  | node k v h l r, key =>
    if rk key < rk k then reb (node k v h (rem rk l key) r)
    else if rk k < rk key then reb (node k v h l (rem rk r key))
    else if l.isNil = true then (if r.isNil = true then nil else reb r)
    else if r.isNil = true then reb l
    else reb (node (least r).1 (least r).2 h l (rem rk r (least r).1))
def find (rk : Int → Int) (key : Int) : T → Option (Int × Int)
  | nil => none
  | node k v _ l r => if rk key < rk k then find rk key l else if rk k < rk key then find rk key r else some (k, v)
/-- Right heights. -/
def Right : T → Prop
  | nil => True
  | node _ _ h l r => h = 1 + max (tall l) (tall r) ∧ Right l ∧ Right r
/-- Balanced everywhere. -/
def Even : T → Prop
  | nil => True
  | node _ _ _ l r => tall l - tall r ≤ 1 ∧ tall r - tall l ≤ 1 ∧ Even l ∧ Even r
theorem tall_nonneg : ∀ t : T, 0 ≤ tall t
  | nil => by simp [tall]
  | node _ _ _ l r => by have := tall_nonneg l; have := tall_nonneg r; simp only [tall]; omega
theorem size_nonneg : ∀ t : T, 0 ≤ size t
  | nil => by simp [size]
  | node _ _ _ l r => by have := size_nonneg l; have := size_nonneg r; simp only [size]; omega
theorem size_list : ∀ t : T, size t = (list t).length
  | nil => rfl
  | node _ _ _ l r => by simp only [size, list, List.length_append, List.length_cons, size_list l, size_list r]; omega
theorem Right.ht {t : T} (h : Right t) : ht t = tall t := by
  cases t with
  | nil => rfl
  | node k v x l r => exact h.1
theorem mk_right {k v : Int} {l r : T} (hl : Right l) (hr : Right r) : Right (mk k v l r) := by
  refine ⟨?_, hl, hr⟩
  rw [hl.ht, hr.ht]
theorem tall_mk (k v : Int) (l r : T) : tall (mk k v l r) = 1 + max (tall l) (tall r) := rfl
theorem list_mk (k v : Int) (l r : T) : list (mk k v l r) = list l ++ (k, v) :: list r := rfl
theorem list_rotL (t : T) : list (rotL t) = list t := by
  cases t with
  | nil => rfl
  | node k v h l r =>
    cases r with
    | nil => rfl
    | node k2 v2 h2 rl rr => simp [rotL, mk, list]
theorem list_rotR (t : T) : list (rotR t) = list t := by
  cases t with
  | nil => rfl
  | node k v h l r =>
    cases l with
    | nil => rfl
    | node k2 v2 h2 ll lr => simp [rotR, mk, list]
theorem right_rotL {t : T} (h : Right t) : Right (rotL t) := by
  cases t with
  | nil => trivial
  | node k v x l r =>
    cases r with
    | nil => exact h
    | node k2 v2 h2 rl rr => exact mk_right (mk_right h.2.1 h.2.2.2.1) h.2.2.2.2
theorem right_rotR {t : T} (h : Right t) : Right (rotR t) := by
  cases t with
  | nil => trivial
  | node k v x l r =>
    cases l with
    | nil => exact h
    | node k2 v2 h2 ll lr => exact mk_right h.2.1.2.1 (mk_right h.2.1.2.2 h.2.2)
theorem list_reb (t : T) : list (reb t) = list t := by
  cases t with
  | nil => rfl
  | node k v h l r =>
    simp only [reb]
    split
    · rw [list_rotL, list_mk]
      split
      · rw [list_rotR]; rfl
      · rfl
    · split
      · rw [list_rotR, list_mk]
        split
        · rw [list_rotL]; rfl
        · rfl
      · rfl
theorem reb_L1 {k v h : Int} {l : T} {k2 v2 h2 : Int} {rl rr : T} (c1 : ht l - ht (node k2 v2 h2 rl rr) ≤ -2) (c2 : ¬ ht rl > ht rr) :
    reb (node k v h l (node k2 v2 h2 rl rr)) = rotL (mk k v l (node k2 v2 h2 rl rr)) := by
  have c2' : ¬ ht (lf (node k2 v2 h2 rl rr)) > ht (rt (node k2 v2 h2 rl rr)) := c2
  simp only [reb]; rw [if_pos c1, if_neg c2']
theorem reb_L2 {k v h : Int} {l : T} {k2 v2 h2 : Int} {rl rr : T} (c1 : ht l - ht (node k2 v2 h2 rl rr) ≤ -2) (c2 : ht rl > ht rr) :
    reb (node k v h l (node k2 v2 h2 rl rr)) = rotL (mk k v l (rotR (node k2 v2 h2 rl rr))) := by
  have c2' : ht (lf (node k2 v2 h2 rl rr)) > ht (rt (node k2 v2 h2 rl rr)) := c2
  simp only [reb]; rw [if_pos c1, if_pos c2']
theorem reb_R1 {k v h : Int} {r : T} {k2 v2 h2 : Int} {ll lr : T} (c1 : ht (node k2 v2 h2 ll lr) - ht r ≥ 2) (c2 : ¬ ht lr > ht ll) :
    reb (node k v h (node k2 v2 h2 ll lr) r) = rotR (mk k v (node k2 v2 h2 ll lr) r) := by
  have c2' : ¬ ht (rt (node k2 v2 h2 ll lr)) > ht (lf (node k2 v2 h2 ll lr)) := c2
  simp only [reb]; rw [if_neg (by omega), if_pos c1, if_neg c2']
theorem reb_R2 {k v h : Int} {r : T} {k2 v2 h2 : Int} {ll lr : T} (c1 : ht (node k2 v2 h2 ll lr) - ht r ≥ 2) (c2 : ht lr > ht ll) :
    reb (node k v h (node k2 v2 h2 ll lr) r) = rotR (mk k v (rotL (node k2 v2 h2 ll lr)) r) := by
  have c2' : ht (rt (node k2 v2 h2 ll lr)) > ht (lf (node k2 v2 h2 ll lr)) := c2
  simp only [reb]; rw [if_neg (by omega), if_pos c1, if_pos c2']
/-- The parts have right heights: so has the tree behind the step. -/
theorem right_reb {k v h : Int} {l r : T} (hl : Right l) (hr : Right r) : Right (reb (node k v h l r)) := by
  simp only [reb]
  split
  · refine right_rotL (mk_right hl ?_)
    split
    · exact right_rotR hr
    · exact hr
  · split
    · refine right_rotR (mk_right ?_ hr)
      split
      · exact right_rotL hl
      · exact hl
    · exact mk_right hl hr
/-- The step, where the parts are balanced and differ by two levels at most. -/
theorem even_reb {k v h : Int} {l r : T} (hl : Right l) (hr : Right r) (el : Even l) (er : Even r) (h1 : tall l - tall r ≤ 2) (h2 : tall r - tall l ≤ 2) :
    Even (reb (node k v h l r)) ∧ (tall (reb (node k v h l r)) = 1 + max (tall l) (tall r) ∨ tall (reb (node k v h l r)) = max (tall l) (tall r)) ∧
      (tall l - tall r ≤ 1 → tall r - tall l ≤ 1 → reb (node k v h l r) = mk k v l r) := by
  have hl' := hl.ht
  have hr' := hr.ht
  simp only [reb]
  by_cases c1 : ht l - ht r ≤ -2
  · rw [if_pos c1]
    cases r with
    | nil => simp [ht, tall] at *; have := tall_nonneg l; omega
    | node k2 v2 h2' rl rr =>
      have h3 := hr.2.1.ht
      have h4 := hr.2.2.ht
      have t1 := tall_nonneg rl
      have t2 := tall_nonneg rr
      obtain ⟨e1, e2, e3, e4⟩ := er
      by_cases c2 : ht (lf (node k2 v2 h2' rl rr)) > ht (rt (node k2 v2 h2' rl rr))
      · rw [if_pos c2]
        simp only [lf, rt] at c2
        cases rl with
        | nil => simp only [T.ht, tall] at *; omega
        | node k3 v3 h3' a b =>
          obtain ⟨f1, f2, f3, f4⟩ := e3
          simp only [rotR, mk, rotL]
          simp only [tall] at *
          refine ⟨?_, ?_, ?_⟩
          · simp only [Even, tall]
            refine ⟨?_, ?_, ⟨?_, ?_, el, f3⟩, ⟨?_, ?_, f4, e4⟩⟩ <;> omega
          · omega
          · intro q1 q2; omega
      · rw [if_neg c2]
        simp only [lf, rt] at c2
        simp only [mk, rotL]
        simp only [tall] at *
        refine ⟨?_, ?_, ?_⟩
        · simp only [Even, tall]
          refine ⟨?_, ?_, ⟨?_, ?_, el, e3⟩, e4⟩ <;> omega
        · omega
        · intro q1 q2; omega
  · rw [if_neg c1]
    by_cases c3 : ht l - ht r ≥ 2
    · rw [if_pos c3]
      cases l with
      | nil => simp [ht, tall] at *; have := tall_nonneg r; omega
      | node k2 v2 h2' ll lr =>
        have h3 := hl.2.1.ht
        have h4 := hl.2.2.ht
        have t1 := tall_nonneg ll
        have t2 := tall_nonneg lr
        obtain ⟨e1, e2, e3, e4⟩ := el
        by_cases c2 : ht (rt (node k2 v2 h2' ll lr)) > ht (lf (node k2 v2 h2' ll lr))
        · rw [if_pos c2]
          simp only [lf, rt] at c2
          cases lr with
          | nil => simp only [T.ht, tall] at *; omega
          | node k3 v3 h3' a b =>
            obtain ⟨f1, f2, f3, f4⟩ := e4
            simp only [rotR, mk, rotL]
            simp only [tall] at *
            refine ⟨?_, ?_, ?_⟩
            · simp only [Even, tall]
              refine ⟨?_, ?_, ⟨?_, ?_, e3, f3⟩, ⟨?_, ?_, f4, er⟩⟩ <;> omega
            · omega
            · intro q1 q2; omega
        · rw [if_neg c2]
          simp only [lf, rt] at c2
          simp only [mk, rotR]
          simp only [tall] at *
          refine ⟨?_, ?_, ?_⟩
          · simp only [Even, tall]
            refine ⟨?_, ?_, e3, ⟨?_, ?_, e4, er⟩⟩ <;> omega
          · omega
          · intro q1 q2; omega
    · rw [if_neg c3]
      refine ⟨⟨by omega, by omega, el, er⟩, ?_, fun _ _ => rfl⟩
      left; rfl
theorem right_ins (rk : Int → Int) (key val : Int) : ∀ {t : T}, Right t → Right (ins rk key val t)
  | nil, _ => ⟨by simp [tall], trivial, trivial⟩
  | node k v h l r, ⟨_, hl, hr⟩ => by
    simp only [ins]
    split
    · exact right_reb (right_ins rk key val hl) hr
    · split
      · exact right_reb hl (right_ins rk key val hr)
      · exact right_reb hl hr
/-- Put into a balanced tree: balanced, as_ high as_ it was, or higher by one. -/
theorem even_ins (rk : Int → Int) (key val : Int) : ∀ {t : T}, Right t → Even t → Even (ins rk key val t) ∧ (tall (ins rk key val t) = tall t ∨ tall (ins rk key val t) = tall t + 1)
  | nil, _, _ => ⟨⟨by simp [tall], by simp [tall], trivial, trivial⟩, .inr (by simp [ins, tall])⟩
  | node k v h l r, ⟨hh, hl, hr⟩, ⟨e1, e2, el, er⟩ => by
    simp only [ins]
    have tn : tall (node k v h l r) = 1 + max (tall l) (tall r) := rfl
    split
    · obtain ⟨i1, i2⟩ := even_ins rk key val hl el
      obtain ⟨j1, j2, j3⟩ := even_reb (k := k) (v := v) (h := h) (right_ins rk key val hl) hr i1 er (by omega) (by omega)
      refine ⟨j1, ?_⟩
      by_cases c : tall (ins rk key val l) - tall r ≤ 1
      · rw [j3 c (by omega), tall_mk]; omega
      · omega
    · split
      · obtain ⟨i1, i2⟩ := even_ins rk key val hr er
        obtain ⟨j1, j2, j3⟩ := even_reb (k := k) (v := v) (h := h) hl (right_ins rk key val hr) el i1 (by omega) (by omega)
        refine ⟨j1, ?_⟩
        by_cases c : tall (ins rk key val r) - tall l ≤ 1
        · rw [j3 (by omega) c, tall_mk]; omega
        · omega
      · obtain ⟨j1, j2, j3⟩ := even_reb (k := k) (v := val) (h := h) hl hr el er (by omega) (by omega)
        refine ⟨j1, ?_⟩
        rw [j3 e1 e2, tall_mk]; omega
theorem reb_same {t : T} (hr : Right t) (he : Even t) : reb t = t := by
  cases t with
  | nil => rfl
  | node k v h l r =>
    obtain ⟨h1, h2, h3⟩ := hr
    obtain ⟨e1, e2, el, er⟩ := he
    obtain ⟨_, _, j3⟩ := even_reb (k := k) (v := v) (h := h) h2 h3 el er (by omega) (by omega)
    rw [j3 e1 e2]
    simp only [mk]
    rw [h2.ht, h3.ht, ← h1]
theorem right_rem (rk : Int → Int) : ∀ {t : T} (key : Int), Right t → Even t → Right (rem rk t key)
  | nil, _, _, _ => trivial
  | node k v h l r, key, ⟨hh, hl, hr⟩, ⟨e1, e2, el, er⟩ => by
    simp only [rem]
    split
    · exact right_reb (right_rem rk key hl el) hr
    · split
      · exact right_reb hl (right_rem rk key hr er)
      · split
        · split
          · trivial
          · rw [reb_same hr er]; exact hr
        · split
          · rw [reb_same hl el]; exact hl
          · exact right_reb hl (right_rem rk _ hr er)
/-- Removed from a balanced tree: balanced, as_ high as_ it was, or lower by one. -/
theorem even_rem (rk : Int → Int) : ∀ {t : T} (key : Int), Right t → Even t → Even (rem rk t key) ∧ (tall (rem rk t key) = tall t ∨ tall (rem rk t key) = tall t - 1)
  | nil, _, _, _ => ⟨trivial, .inl rfl⟩
  | node k v h l r, key, ⟨hh, hl, hr⟩, ⟨e1, e2, el, er⟩ => by
    simp only [rem]
    have tn : tall (node k v h l r) = 1 + max (tall l) (tall r) := rfl
    have tl := tall_nonneg l
    have tr := tall_nonneg r
    split
    · obtain ⟨i1, i2⟩ := even_rem rk key hl el
      obtain ⟨j1, j2, j3⟩ := even_reb (k := k) (v := v) (h := h) (right_rem rk key hl el) hr i1 er (by omega) (by omega)
      refine ⟨j1, ?_⟩
      by_cases c : tall r - tall (rem rk l key) ≤ 1
      · rw [j3 (by omega) c, tall_mk]; omega
      · omega
    · split
      · obtain ⟨i1, i2⟩ := even_rem rk key hr er
        obtain ⟨j1, j2, j3⟩ := even_reb (k := k) (v := v) (h := h) hl (right_rem rk key hr er) el i1 (by omega) (by omega)
        refine ⟨j1, ?_⟩
        by_cases c : tall l - tall (rem rk r key) ≤ 1
        · rw [j3 c (by omega), tall_mk]; omega
        · omega
      · split
        · rename_i hn
          have h0 : tall l = 0 := by cases l <;> simp_all [isNil, tall]
          split
          · rename_i hn'
            have h1 : tall r = 0 := by cases r <;> simp_all [isNil, tall]
            exact ⟨trivial, .inr (by rw [tn, h0, h1]; simp [tall])⟩
          · rw [reb_same hr er]; exact ⟨er, .inr (by omega)⟩
        · split
          · rename_i hn'
            have h1 : tall r = 0 := by cases r <;> simp_all [isNil, tall]
            rw [reb_same hl el]; exact ⟨el, .inr (by omega)⟩
          · obtain ⟨i1, i2⟩ := even_rem rk (least r).1 hr er
            obtain ⟨j1, j2, j3⟩ := even_reb (k := (least r).1) (v := (least r).2) (h := h) hl (right_rem rk (least r).1 hr er) el i1 (by omega) (by omega)
            refine ⟨j1, ?_⟩
            by_cases c : tall l - tall (rem rk r (least r).1) ≤ 1
            · rw [j3 c (by omega), tall_mk]; omega
            · omega
def Up (rk : Int → Int) (l : List (Int × Int)) : Prop := l.Pairwise fun a b => rk a.1 < rk b.1
def putL (rk : Int → Int) (key val : Int) : List (Int × Int) → List (Int × Int)
  | [] => [(key, val)]
  | (k, v) :: r => if rk k < rk key then (k, v) :: putL rk key val r else if rk key < rk k then (key, val) :: (k, v) :: r else (k, val) :: r
def remL (rk : Int → Int) (key : Int) : List (Int × Int) → List (Int × Int)
  | [] => []
  | (k, v) :: r => if rk k < rk key then (k, v) :: remL rk key r else if rk key < rk k then (k, v) :: r else r
def getL (rk : Int → Int) (key : Int) : List (Int × Int) → Option (Int × Int)
  | [] => none
  | (k, v) :: r => if rk k < rk key then getL rk key r else if rk key < rk k then none else some (k, v)
theorem putL_low {rk : Int → Int} {key val k v : Int} {R : List (Int × Int)} (h : rk key < rk k) : ∀ L, putL rk key val (L ++ (k, v) :: R) = putL rk key val L ++ (k, v) :: R
  | [] => by simp only [List.nil_append, putL]; rw [if_neg (by omega), if_pos h]; rfl
  | (a, b) :: L => by
    simp only [List.cons_append, putL]
    split
    · rw [putL_low h L]; rfl
    · split <;> rfl
theorem putL_high {rk : Int → Int} {key val : Int} {R : List (Int × Int)} : ∀ L : List (Int × Int), (∀ x ∈ L, rk x.1 < rk key) → putL rk key val (L ++ R) = L ++ putL rk key val R
  | [], _ => rfl
  | (a, b) :: L, h => by
    simp only [List.cons_append, putL]
    rw [if_pos (h (a, b) (by simp)), putL_high L (fun x hx => h x (by simp [hx]))]
theorem remL_low {rk : Int → Int} {key k v : Int} {R : List (Int × Int)} (h : rk key < rk k) : ∀ L, remL rk key (L ++ (k, v) :: R) = remL rk key L ++ (k, v) :: R
  | [] => by simp only [List.nil_append, remL]; rw [if_neg (by omega), if_pos h]
  | (a, b) :: L => by
    simp only [List.cons_append, remL]
    split
    · rw [remL_low h L]; rfl
    · split <;> rfl
theorem remL_high {rk : Int → Int} {key : Int} {R : List (Int × Int)} : ∀ L : List (Int × Int), (∀ x ∈ L, rk x.1 < rk key) → remL rk key (L ++ R) = L ++ remL rk key R
  | [], _ => rfl
  | (a, b) :: L, h => by
    simp only [List.cons_append, remL]
    rw [if_pos (h (a, b) (by simp)), remL_high L (fun x hx => h x (by simp [hx]))]
theorem getL_low {rk : Int → Int} {key k v : Int} {R : List (Int × Int)} (h : rk key < rk k) : ∀ L, getL rk key (L ++ (k, v) :: R) = getL rk key L
  | [] => by simp only [List.nil_append, getL]; rw [if_neg (by omega), if_pos h]
  | (a, b) :: L => by
    simp only [List.cons_append, getL]
    split
    · exact getL_low h L
    · rfl
theorem getL_high {rk : Int → Int} {key : Int} {R : List (Int × Int)} : ∀ L : List (Int × Int), (∀ x ∈ L, rk x.1 < rk key) → getL rk key (L ++ R) = getL rk key R
  | [], _ => rfl
  | (a, b) :: L, h => by
    simp only [List.cons_append, getL]
    rw [if_pos (h (a, b) (by simp)), getL_high L (fun x hx => h x (by simp [hx]))]
theorem up_parts {rk : Int → Int} {L R : List (Int × Int)} {p : Int × Int} (h : Up rk (L ++ p :: R)) : Up rk L ∧ Up rk R ∧ (∀ x ∈ L, rk x.1 < rk p.1) ∧ (∀ x ∈ R, rk p.1 < rk x.1) := by
  obtain ⟨h1, h2, h3⟩ := List.pairwise_append.1 h
  obtain ⟨h4, h5⟩ := List.pairwise_cons.1 h2
  exact ⟨h1, h5, fun x hx => h3 x hx p (by simp), fun x hx => h4 x hx⟩
theorem list_ins {rk : Int → Int} {key val : Int} : ∀ {t : T}, Up rk (list t) → list (ins rk key val t) = putL rk key val (list t)
  | nil, _ => rfl
  | node k v h l r, hu => by
    obtain ⟨ul, ur, hl, hr⟩ := up_parts hu
    simp only [ins]
    split
    · rename_i c
      rw [list_reb, list, list_ins ul, list, putL_low c]
    · split
      · rename_i c1 c
        have c' : rk k < rk key := by omega
        rw [list_reb, list, list_ins ur, list, putL_high (list l) (fun x hx => by have := hl x hx; simp only at this; omega)]
        simp only [putL]; rw [if_pos c']
      · rename_i c1 c
        rw [list_reb, list, list, putL_high (list l) (fun x hx => by have := hl x hx; simp only at this; omega)]
        simp only [putL]; rw [if_neg (by omega), if_neg (by omega)]
theorem least_list : ∀ {t : T}, t.isNil = false → ∃ R, list t = least t :: R
  | nil, h => by simp [isNil] at h
  | node k v h nil r, _ => ⟨list r, rfl⟩
  | node k v h (node k2 v2 h2 a b) r, _ => by
    obtain ⟨R, hR⟩ := least_list (t := node k2 v2 h2 a b) rfl
    exact ⟨R ++ (k, v) :: list r, by rw [list, hR]; rfl⟩
theorem list_rem {rk : Int → Int} : ∀ {t : T} (key : Int), Up rk (list t) → list (rem rk t key) = remL rk key (list t)
  | nil, _, _ => rfl
  | node k v h l r, key, hu => by
    obtain ⟨ul, ur, hl, hr⟩ := up_parts hu
    simp only [rem]
    split
    · rename_i c
      rw [list_reb, list, list_rem key ul, list, remL_low c]
    · split
      · rename_i c1 c
        rw [list_reb, list, list_rem key ur, list, remL_high (list l) (fun x hx => by have := hl x hx; simp only at this; omega)]
        simp only [remL]; rw [if_pos c]
      · rename_i c1 c
        have e : remL rk key (list (node k v h l r)) = list l ++ list r := by
          rw [list, remL_high (list l) (fun x hx => by have := hl x hx; simp only at this; omega)]
          simp only [remL]; rw [if_neg (by omega), if_neg (by omega)]
        rw [e]
        split
        · rename_i hn
          have : list l = [] := by cases l <;> simp_all [isNil, list]
          rw [this]
          split
          · rename_i hn'
            have : list r = [] := by cases r <;> simp_all [isNil, list]
            rw [this]; rfl
          · rw [list_reb]; rfl
        · split
          · rename_i hn'
            have : list r = [] := by cases r <;> simp_all [isNil, list]
            rw [this, list_reb, List.append_nil]
          · rename_i hn'
            obtain ⟨R, hR⟩ := least_list (t := r) (by simpa using hn')
            rw [list_reb, list, list_rem _ ur, hR]
            rw [hR] at ur
            obtain ⟨u1, u2⟩ := List.pairwise_cons.1 ur
            congr 1
            generalize least r = p at *
            obtain ⟨a, b⟩ := p
            simp only [remL]
            rw [if_neg (by omega), if_neg (by omega)]
theorem find_list {rk : Int → Int} {key : Int} : ∀ {t : T}, Up rk (list t) → find rk key t = getL rk key (list t)
  | nil, _ => rfl
  | node k v h l r, hu => by
    obtain ⟨ul, ur, hl, hr⟩ := up_parts hu
    simp only [find]
    split
    · rename_i c
      rw [find_list ul, list, getL_low c]
    · split
      · rename_i c1 c
        rw [find_list ur, list, getL_high (list l) (fun x hx => by have := hl x hx; simp only at this; omega)]
        simp only [getL]; rw [if_pos c]
      · rename_i c1 c
        rw [list, getL_high (list l) (fun x hx => by have := hl x hx; simp only at this; omega)]
        simp only [getL]; rw [if_neg (by omega), if_neg (by omega)]
theorem mem_putL {rk : Int → Int} {key val : Int} {x : Int × Int} : ∀ {l : List (Int × Int)}, x ∈ putL rk key val l → x = (key, val) ∨ (∃ y ∈ l, rk y.1 = rk x.1)
  | [], h => by simp only [putL, List.mem_singleton] at h; exact .inl h
  | (a, b) :: l, h => by
    simp only [putL] at h
    split at h
    · rcases List.mem_cons.1 h with h | h
      · exact .inr ⟨(a, b), by simp, by rw [h]⟩
      · rcases mem_putL h with h | ⟨y, hy, e⟩
        · exact .inl h
        · exact .inr ⟨y, by simp [hy], e⟩
    · split at h
      · rcases List.mem_cons.1 h with h | h
        · exact .inl h
        · exact .inr ⟨x, h, rfl⟩
      · rcases List.mem_cons.1 h with h | h
        · exact .inr ⟨(a, b), by simp, by rw [h]⟩
        · exact .inr ⟨x, by simp [h], rfl⟩
theorem up_putL {rk : Int → Int} {key val : Int} : ∀ {l : List (Int × Int)}, Up rk l → Up rk (putL rk key val l)
  | [], _ => by simp [putL, Up]
  | (a, b) :: l, h => by
    obtain ⟨h1, h2⟩ := List.pairwise_cons.1 h
    simp only [putL]
    split
    · rename_i c
      refine List.pairwise_cons.2 ⟨fun x hx => ?_, up_putL h2⟩
      rcases mem_putL hx with e | ⟨y, hy, e⟩
      · rw [e]; exact c
      · rw [← e]; exact h1 y hy
    · split
      · rename_i c
        refine List.pairwise_cons.2 ⟨fun x hx => ?_, h⟩
        rcases List.mem_cons.1 hx with e | e
        · rw [e]; exact c
        · have := h1 x e; simp only at this ⊢; omega
      · exact List.pairwise_cons.2 ⟨fun x hx => h1 x hx, h2⟩
theorem mem_remL {rk : Int → Int} {key : Int} {x : Int × Int} : ∀ {l : List (Int × Int)}, x ∈ remL rk key l → x ∈ l
  | [], h => by simp [remL] at h
  | (a, b) :: l, h => by
    simp only [remL] at h
    split at h
    · rcases List.mem_cons.1 h with h | h
      · simp [h]
      · simp [mem_remL h]
    · split at h
      · exact h
      · simp [h]
theorem up_remL {rk : Int → Int} {key : Int} : ∀ {l : List (Int × Int)}, Up rk l → Up rk (remL rk key l)
  | [], _ => by simp [remL, Up]
  | (a, b) :: l, h => by
    obtain ⟨h1, h2⟩ := List.pairwise_cons.1 h
    simp only [remL]
    split
    · exact List.pairwise_cons.2 ⟨fun x hx => h1 x (mem_remL hx), up_remL h2⟩
    · split
      · exact h
      · exact h2
end T
end Go.Proofs.Ytjlcebgfknfelaa.AvlPure

namespace Go.Proofs.Ytjlcebgfknfelaa.Avl
open Go Go.RowKit Go.Proofs.Ytjlcebgfknfelaa.Hk Go.Proofs.Ytjlcebgfknfelaa.AvlPure
/-- A tree with the blocks in which its nodes lie. -/
inductive N where
  | nil
  | node (b : Nat) (k v h : Int) (l r : N)
def N.ptr : N → Value
  | .nil => .pointer none
  | .node b _ _ _ _ _ => .pointer (some ⟨b, 0, none⟩)
def N.raw : N → T
  | .nil => .nil
  | .node _ k v h l r => .node k v h l.raw r.raw
def N.ids : N → List Nat
  | .nil => []
  | .node b _ _ _ l r => b :: (l.ids ++ r.ids)
def N.In (w : World) : N → Prop
  | .nil => True
  | .node b k v h l r => Blk w b #[.int .i64 k, .int .i64 v, .int .i64 h, l.ptr, r.ptr] 119 ∧ l.In w ∧ r.In w
theorem N.ptr_some (t : N) : ∃ u, t.ptr = .pointer u := by cases t <;> exact ⟨_, rfl⟩
theorem N.In.lt {w : World} : ∀ {t : N}, t.In w → ∀ b ∈ t.ids, b < w.heap.size
  | .nil, _, b, h => by simp [N.ids] at h
  | .node c k v x l r, ⟨h1, h2, h3⟩, b, h => by
    rcases List.mem_cons.1 h with e | h
    · rw [e]; exact h1.lt
    · rcases List.mem_append.1 h with h | h
      · exact N.In.lt h2 b h
      · exact N.In.lt h3 b h
theorem N.In.fr {S : Nat → Prop} {w w' : World} (hf : Fr S w w') : ∀ {t : N}, t.In w → (∀ b ∈ t.ids, ¬ S b) → t.In w'
  | .nil, _, _ => trivial
  | .node c k v x l r, ⟨h1, h2, h3⟩, hn =>
    ⟨h1.fr hf (hn c (by simp [N.ids])), N.In.fr hf h2 (fun b hb => hn b (by simp [N.ids, hb])), N.In.fr hf h3 (fun b hb => hn b (by simp [N.ids, hb]))⟩
theorem N.In.heap {w w' : World} (hf : w'.heap = w.heap) : ∀ {t : N}, t.In w → t.In w'
  | .nil, _ => trivial
  | .node c k v x l r, ⟨h1, h2, h3⟩ => ⟨by unfold Blk; rw [hf]; exact h1, N.In.heap hf h2, N.In.heap hf h3⟩
theorem N.In.drew {w : World} {t : N} (h : t.In w) : t.In w.drew := N.In.heap (w := w) (w' := w.drew) rfl h
theorem nodup_node {b : Nat} {k v h : Int} {l r : N} (hn : (N.node b k v h l r).ids.Nodup) :
    b ∉ l.ids ∧ b ∉ r.ids ∧ l.ids.Nodup ∧ r.ids.Nodup ∧ ∀ x ∈ l.ids, x ∉ r.ids := by
  obtain ⟨h1, h2⟩ := List.nodup_cons.1 hn
  obtain ⟨h3, h4, h5⟩ := List.nodup_append.1 h2
  exact ⟨fun h => h1 (by simp [h]), fun h => h1 (by simp [h]), h3, h4, fun x hx hy => h5 x hx x hy rfl⟩
theorem nodup_mk {b : Nat} {k v h : Int} {l r : N} (h1 : b ∉ l.ids) (h2 : b ∉ r.ids) (h3 : l.ids.Nodup) (h4 : r.ids.Nodup) (h5 : ∀ x ∈ l.ids, x ∉ r.ids) : (N.node b k v h l r).ids.Nodup :=
  List.nodup_cons.2 ⟨fun h => (List.mem_append.1 h).elim h1 h2, List.nodup_append.2 ⟨h3, h4, fun x hx y hy e => h5 x hx (by rw [e]; exact hy)⟩⟩
theorem getHeight_any (t : N) (w : World) (hin : t.In w) :
    Calls Try.prog 81 #[t.ptr] w fun e w' => e = .returned (.int .i64 t.raw.ht) ∧ w' = w := by
  cases t with
  | nil =>
    show Calls Try.prog 81 #[.pointer none] w _
    go_enter Try.func81, Try.ntmps81
    go_wp2
    go_ret
    exact ⟨rfl, rfl⟩
  | node b k v h l r =>
    have c2 : w.cell? ⟨b, 2, none⟩ = some (.int .i64 h) := hin.1.cell 2
    clear hin
    show Calls Try.prog 81 #[.pointer (some ⟨b, 0, none⟩)] w _
    go_enter Try.func81, Try.ntmps81
    go_wp2
    go_ret
    exact ⟨rfl, rfl⟩
theorem max_any (a b : Int) (w : World) :
    Calls Try.prog 95 #[.int .i64 a, .int .i64 b] w fun e w' => e = .returned (.int .i64 (max a b)) ∧ w' = w := by
  by_cases h : a > b
  · have e : max a b = a := by omega
    rw [e]
    clear e
    go_enter Try.func95, Try.ntmps95
    go_wp2
    go_ret
    exact ⟨rfl, rfl⟩
  · have e : max a b = b := by omega
    rw [e]
    clear e
    go_enter Try.func95, Try.ntmps95
    go_wp2
    go_ret
    exact ⟨rfl, rfl⟩
/-- Heights that a sum with a small number does not wrap. -/
def Hb (x : Int) : Prop := 0 ≤ x ∧ x ≤ 4294967000
set_option maxHeartbeats 400000 in
set_option maxRecDepth 100000 in
theorem recalc_any (b : Nat) (k v h : Int) (l r : N) (w : World) (hin : (N.node b k v h l r).In w) (bl : 0 ≤ l.raw.ht ∧ l.raw.ht ≤ 4294967200) (br : 0 ≤ r.raw.ht ∧ r.raw.ht ≤ 4294967200) :
    Calls Try.prog 80 #[.pointer (some ⟨b, 0, none⟩)] w fun e w' => e = .returned (.tuple #[]) ∧
      Blk w' b #[.int .i64 k, .int .i64 v, .int .i64 (1 + max l.raw.ht r.raw.ht), l.ptr, r.ptr] 119 ∧ Fr (· = b) w w' := by
  obtain ⟨hb, hl, hr⟩ := hin
  have c3 : w.cell? ⟨b, 3, none⟩ = some l.ptr := hb.cell 3
  have c4 : w.cell? ⟨b, 4, none⟩ = some r.ptr := hb.cell 4
  have c2 : w.cell? ⟨b, 2, none⟩ = some (.int .i64 h) := hb.cell 2
  have f2 : w.frozen? ⟨b, 2, none⟩ = false := hb.free 2
  have H : Hid (Blk w b #[.int .i64 k, .int .i64 v, .int .i64 h, l.ptr, r.ptr] 119 ∧ l.In w ∧ r.In w) := ⟨hb, hl, hr⟩
  clear hb hl hr
  go_enter Try.func80, Try.ntmps80
  refine wp_region_still_tail 15 (by kernel_rfl) (by kernel_rfl) ?_
  simp only [List.take_succ_cons, List.take_zero, List.drop_succ_cons, List.drop_zero]
  repeat still_step
  still_call (getHeight_any l _ H.out.2.1.drew)
  repeat still_step
  still_call (getHeight_any r _ H.out.2.2.drew)
  repeat still_step
  still_call (max_any l.raw.ht r.raw.ht _)
  have hm : 0 ≤ max l.raw.ht r.raw.ht ∧ max l.raw.ht r.raw.ht ≤ 4294967200 := by omega
  generalize max l.raw.ht r.raw.ht = m at hm ⊢
  repeat still_step
  refine wpStill_nil ?_
  change wpList _ _ _ _ _ w.drew
  go_wp2
  go_end0
  exact ⟨rfl, (H.out.1.set 2 _).drew, (Fr.setCell (S := (· = b)) (Fr.refl _ _) (p := ⟨b, 2, none⟩) (fun _ => rfl) _).drew⟩
/-- The turn to the left, of memory. -/
def N.turnL : N → N
  | .node b k v _ l (.node b2 k2 v2 _ rl rr) => .node b2 k2 v2 (1 + max (1 + max l.raw.ht rl.raw.ht) rr.raw.ht) (.node b k v (1 + max l.raw.ht rl.raw.ht) l rl) rr
  | t => t
def N.turnR : N → N
  | .node b k v _ (.node b2 k2 v2 _ ll lr) r => .node b2 k2 v2 (1 + max ll.raw.ht (1 + max lr.raw.ht r.raw.ht)) ll (.node b k v (1 + max lr.raw.ht r.raw.ht) lr r)
  | t => t
set_option maxHeartbeats 400000 in
theorem rotL_any (b : Nat) (k v h : Int) (l : N) (b2 : Nat) (k2 v2 h2 : Int) (rl rr : N) (w : World) (hin : (N.node b k v h l (.node b2 k2 v2 h2 rl rr)).In w)
    (nd : (N.node b k v h l (.node b2 k2 v2 h2 rl rr)).ids.Nodup) (bl : Hb l.raw.ht) (b1 : Hb rl.raw.ht) (b3 : Hb rr.raw.ht) :
    Calls Try.prog 78 #[.pointer (some ⟨b, 0, none⟩)] w fun e w' => e = .returned (.pointer (some ⟨b2, 0, none⟩)) ∧
      (N.turnL (.node b k v h l (.node b2 k2 v2 h2 rl rr))).In w' ∧ Fr (fun n => n = b ∨ n = b2) w w' := by
  unfold Hb at bl b1 b3
  obtain ⟨hb, hl, hb2, hrl, hrr⟩ := hin
  obtain ⟨n1, n2, n3, n4, n5⟩ := nodup_node nd
  obtain ⟨m1, m2, m3, m4, m5⟩ := nodup_node n4
  have hne : b ≠ b2 := fun e => n2 (by simp [N.ids, e])
  have hne' : b2 ≠ b := fun e => hne e.symm
  obtain ⟨u, hu⟩ := rl.ptr_some
  have c4 : w.cell? ⟨b, 4, none⟩ = some (.pointer (some ⟨b2, 0, none⟩)) := hb.cell 4
  have d3 : w.cell? ⟨b2, 3, none⟩ = some (.pointer u) := by rw [← hu]; exact hb2.cell 3
  have f4 : w.frozen? ⟨b, 4, none⟩ = false := hb.free 4
  have g3 : w.frozen? ⟨b2, 3, none⟩ = false := hb2.free 3
  have HB : Hid (Blk w b #[.int .i64 k, .int .i64 v, .int .i64 h, l.ptr, .pointer (some ⟨b2, 0, none⟩)] 119 ∧ Blk w b2 #[.int .i64 k2, .int .i64 v2, .int .i64 h2, rl.ptr, rr.ptr] 119) := ⟨hb, hb2⟩
  have HI : Hid (l.In w ∧ rl.In w ∧ rr.In w) := ⟨hl, hrl, hrr⟩
  have HU : Hid (rl.ptr = .pointer u) := hu
  clear hb hb2 hl hrl hrr hu nd
  go_enter Try.func78, Try.ntmps78
  go_wp2_with fail
  -- the world behind the two stores
  have F1 : Fr (fun n => n = b ∨ n = b2) w ((w.setCell ⟨b, 4, none⟩ (.pointer u)).setCell ⟨b2, 3, none⟩ (.pointer (some ⟨b, 0, none⟩))) :=
    Fr.setCell (Fr.setCell (Fr.refl _ _) (p := ⟨b, 4, none⟩) (fun _ => .inl rfl) _) (p := ⟨b2, 3, none⟩) (fun _ => .inr rfl) _
  have B1 : Blk ((w.setCell ⟨b, 4, none⟩ (.pointer u)).setCell ⟨b2, 3, none⟩ (.pointer (some ⟨b, 0, none⟩))) b #[.int .i64 k, .int .i64 v, .int .i64 h, l.ptr, rl.ptr] 119 := by
    rw [HU.out]; exact (HB.out.1.set 4 _).other _ _ hne
  have B2 : Blk ((w.setCell ⟨b, 4, none⟩ (.pointer u)).setCell ⟨b2, 3, none⟩ (.pointer (some ⟨b, 0, none⟩))) b2 #[.int .i64 k2, .int .i64 v2, .int .i64 h2, .pointer (some ⟨b, 0, none⟩), rr.ptr] 119 :=
    (HB.out.2.other _ _ hne').set 3 _
  have I1 := N.In.fr F1 HI.out.1 (fun x hx h => h.elim (fun e => n1 (e ▸ hx)) (fun e => n5 x hx (by simp [N.ids, e])))
  have I2 := N.In.fr F1 HI.out.2.1 (fun x hx h => h.elim (fun e => n2 (by simp [N.ids, e ▸ hx])) (fun e => m1 (e ▸ hx)))
  have I3 := N.In.fr F1 HI.out.2.2 (fun x hx h => h.elim (fun e => n2 (by simp [N.ids, e ▸ hx])) (fun e => m2 (e ▸ hx)))
  have HX : Hid _ := (⟨F1, B1, B2, I1, I2, I3⟩ : _ ∧ _ ∧ _ ∧ _ ∧ _ ∧ _)
  clear F1 B1 B2 I1 I2 I3 c4 d3 f4 g3 HB HI HU
  refine (recalc_any b k v h l rl _ ⟨HX.out.2.1, HX.out.2.2.2.1, HX.out.2.2.2.2.1⟩ (by omega) (by omega)).mono ?_
  rintro e w1 ⟨rfl, B1, F2⟩
  have HY : Hid _ := (⟨B1, F2⟩ : _ ∧ _)
  clear B1 F2
  go_wp2_with fail
  have J1 : (N.node b k v (1 + max l.raw.ht rl.raw.ht) l rl).In w1 := ⟨HY.out.1, N.In.fr HY.out.2 HX.out.2.2.2.1 (fun x hx e => n1 (e ▸ hx)), N.In.fr HY.out.2 HX.out.2.2.2.2.1 (fun x hx e => n2 (by simp [N.ids, e ▸ hx]))⟩
  have J3 : rr.In w1 := N.In.fr HY.out.2 HX.out.2.2.2.2.2 (fun x hx e => n2 (by simp [N.ids, e ▸ hx]))
  have B2 := HX.out.2.2.1.fr HY.out.2 (fun e => hne' e)
  have F3 := HX.out.1.trans HY.out.2 (fun n _ e => .inl e)
  refine (recalc_any b2 k2 v2 h2 (.node b k v (1 + max l.raw.ht rl.raw.ht) l rl) rr w1 ⟨B2, J1, J3⟩ (by show 0 ≤ 1 + max l.raw.ht rl.raw.ht ∧ 1 + max l.raw.ht rl.raw.ht ≤ 4294967200; omega) (by omega)).mono ?_
  rintro e w2 ⟨rfl, B3, F4⟩
  have HZ : Hid _ := (⟨J1, J3, F3, B3, F4⟩ : _ ∧ _ ∧ _ ∧ _ ∧ _)
  clear J1 J3 B2 F3 B3 F4
  go_wp2
  go_ret
  obtain ⟨J1, J3, F3, B3, F4⟩ := HZ.out
  refine ⟨rfl, ⟨B3, N.In.fr F4 J1 (fun x hx e => ?_), N.In.fr F4 J3 (fun x hx e => m2 (e ▸ hx))⟩, F3.trans F4 (fun n _ e => .inr e)⟩
  subst e
  rcases List.mem_cons.1 hx with h | h
  · exact hne' h
  · rcases List.mem_append.1 h with h | h
    · exact n5 x h (by simp [N.ids])
    · exact m1 h
set_option maxHeartbeats 400000 in
theorem rotR_any (b : Nat) (k v h : Int) (r : N) (b2 : Nat) (k2 v2 h2 : Int) (ll lr : N) (w : World) (hin : (N.node b k v h (.node b2 k2 v2 h2 ll lr) r).In w)
    (nd : (N.node b k v h (.node b2 k2 v2 h2 ll lr) r).ids.Nodup) (br : Hb r.raw.ht) (b1 : Hb ll.raw.ht) (b3 : Hb lr.raw.ht) :
    Calls Try.prog 77 #[.pointer (some ⟨b, 0, none⟩)] w fun e w' => e = .returned (.pointer (some ⟨b2, 0, none⟩)) ∧
      (N.turnR (.node b k v h (.node b2 k2 v2 h2 ll lr) r)).In w' ∧ Fr (fun n => n = b ∨ n = b2) w w' := by
  unfold Hb at br b1 b3
  obtain ⟨hb, ⟨hb2, hll, hlr⟩, hr⟩ := hin
  obtain ⟨n1, n2, n3, n4, n5⟩ := nodup_node nd
  obtain ⟨m1, m2, m3, m4, m5⟩ := nodup_node n3
  have hne : b ≠ b2 := fun e => n1 (by simp [N.ids, e])
  have hne' : b2 ≠ b := fun e => hne e.symm
  obtain ⟨u, hu⟩ := lr.ptr_some
  have c3 : w.cell? ⟨b, 3, none⟩ = some (.pointer (some ⟨b2, 0, none⟩)) := hb.cell 3
  have d4 : w.cell? ⟨b2, 4, none⟩ = some (.pointer u) := by rw [← hu]; exact hb2.cell 4
  have f3 : w.frozen? ⟨b, 3, none⟩ = false := hb.free 3
  have g4 : w.frozen? ⟨b2, 4, none⟩ = false := hb2.free 4
  have HB : Hid (Blk w b #[.int .i64 k, .int .i64 v, .int .i64 h, .pointer (some ⟨b2, 0, none⟩), r.ptr] 119 ∧ Blk w b2 #[.int .i64 k2, .int .i64 v2, .int .i64 h2, ll.ptr, lr.ptr] 119) := ⟨hb, hb2⟩
  have HI : Hid (r.In w ∧ ll.In w ∧ lr.In w) := ⟨hr, hll, hlr⟩
  have HU : Hid (lr.ptr = .pointer u) := hu
  clear hb hb2 hr hll hlr hu nd
  go_enter Try.func77, Try.ntmps77
  go_wp2_with fail
  have F1 : Fr (fun n => n = b ∨ n = b2) w ((w.setCell ⟨b, 3, none⟩ (.pointer u)).setCell ⟨b2, 4, none⟩ (.pointer (some ⟨b, 0, none⟩))) :=
    Fr.setCell (Fr.setCell (Fr.refl _ _) (p := ⟨b, 3, none⟩) (fun _ => .inl rfl) _) (p := ⟨b2, 4, none⟩) (fun _ => .inr rfl) _
  have B1 : Blk ((w.setCell ⟨b, 3, none⟩ (.pointer u)).setCell ⟨b2, 4, none⟩ (.pointer (some ⟨b, 0, none⟩))) b #[.int .i64 k, .int .i64 v, .int .i64 h, lr.ptr, r.ptr] 119 := by
    rw [HU.out]; exact (HB.out.1.set 3 _).other _ _ hne
  have B2 : Blk ((w.setCell ⟨b, 3, none⟩ (.pointer u)).setCell ⟨b2, 4, none⟩ (.pointer (some ⟨b, 0, none⟩))) b2 #[.int .i64 k2, .int .i64 v2, .int .i64 h2, ll.ptr, .pointer (some ⟨b, 0, none⟩)] 119 :=
    (HB.out.2.other _ _ hne').set 4 _
  have I1 := N.In.fr F1 HI.out.1 (fun x hx h => h.elim (fun e => n2 (e ▸ hx)) (fun e => n5 b2 (by simp [N.ids]) (e ▸ hx)))
  have I2 := N.In.fr F1 HI.out.2.1 (fun x hx h => h.elim (fun e => n1 (by simp [N.ids, e ▸ hx])) (fun e => m1 (e ▸ hx)))
  have I3 := N.In.fr F1 HI.out.2.2 (fun x hx h => h.elim (fun e => n1 (by simp [N.ids, e ▸ hx])) (fun e => m2 (e ▸ hx)))
  have HX : Hid _ := (⟨F1, B1, B2, I1, I2, I3⟩ : _ ∧ _ ∧ _ ∧ _ ∧ _ ∧ _)
  clear F1 B1 B2 I1 I2 I3 c3 d4 f3 g4 HB HI HU
  refine (recalc_any b k v h lr r _ ⟨HX.out.2.1, HX.out.2.2.2.2.2, HX.out.2.2.2.1⟩ (by omega) (by omega)).mono ?_
  rintro e w1 ⟨rfl, B1, F2⟩
  have HY : Hid _ := (⟨B1, F2⟩ : _ ∧ _)
  clear B1 F2
  go_wp2_with fail
  have J1 : (N.node b k v (1 + max lr.raw.ht r.raw.ht) lr r).In w1 := ⟨HY.out.1, N.In.fr HY.out.2 HX.out.2.2.2.2.2 (fun x hx e => n1 (by simp [N.ids, e ▸ hx])), N.In.fr HY.out.2 HX.out.2.2.2.1 (fun x hx e => n2 (e ▸ hx))⟩
  have J3 : ll.In w1 := N.In.fr HY.out.2 HX.out.2.2.2.2.1 (fun x hx e => n1 (by simp [N.ids, e ▸ hx]))
  have B2 := HX.out.2.2.1.fr HY.out.2 (fun e => hne' e)
  have F3 := HX.out.1.trans HY.out.2 (fun n _ e => .inl e)
  refine (recalc_any b2 k2 v2 h2 ll (.node b k v (1 + max lr.raw.ht r.raw.ht) lr r) w1 ⟨B2, J3, J1⟩ (by omega) (by show 0 ≤ 1 + max lr.raw.ht r.raw.ht ∧ 1 + max lr.raw.ht r.raw.ht ≤ 4294967200; omega)).mono ?_
  rintro e w2 ⟨rfl, B3, F4⟩
  have HZ : Hid _ := (⟨J1, J3, F3, B3, F4⟩ : _ ∧ _ ∧ _ ∧ _ ∧ _)
  clear J1 J3 B2 F3 B3 F4
  go_wp2
  go_ret
  obtain ⟨J1, J3, F3, B3, F4⟩ := HZ.out
  refine ⟨rfl, ⟨B3, N.In.fr F4 J3 (fun x hx e => m1 (e ▸ hx)), N.In.fr F4 J1 (fun x hx e => ?_)⟩, F3.trans F4 (fun n _ e => .inr e)⟩
  subst e
  rcases List.mem_cons.1 hx with h | h
  · exact hne' h
  · rcases List.mem_append.1 h with h | h
    · exact m2 h
    · exact n5 x (by simp [N.ids]) h
theorem perm_turnL (t : N) : t.turnL.ids.Perm t.ids := by
  cases t with
  | nil => exact List.Perm.refl _
  | node b k v h l r =>
    cases r with
    | nil => exact List.Perm.refl _
    | node b2 k2 v2 h2 rl rr =>
      simp only [N.turnL, N.ids]
      rw [List.perm_iff_count]; intro a; simp only [List.count_cons, List.count_append]; omega
theorem perm_turnR (t : N) : t.turnR.ids.Perm t.ids := by
  cases t with
  | nil => exact List.Perm.refl _
  | node b k v h l r =>
    cases l with
    | nil => exact List.Perm.refl _
    | node b2 k2 v2 h2 ll lr =>
      simp only [N.turnR, N.ids]
      rw [List.perm_iff_count]; intro a; simp only [List.count_cons, List.count_append]; omega
end Go.Proofs.Ytjlcebgfknfelaa.Avl

namespace Go.Proofs.Ytjlcebgfknfelaa.Avl
open Go Go.RowKit Go.Proofs.Ytjlcebgfknfelaa.Hk Go.Proofs.Ytjlcebgfknfelaa.AvlPure
/-- What the step wants of the two parts of a root. -/
structure Part (t : N) : Prop where
  right : T.Right t.raw
  low : t.raw.tall ≤ 4294960000
theorem Part.hb {t : N} (h : Part t) : 0 ≤ t.raw.ht ∧ t.raw.ht ≤ 4294960000 := by
  have := T.tall_nonneg t.raw
  have e := h.right.ht
  have := h.low
  omega
theorem Part.left {b : Nat} {k v h : Int} {l r : N} (p : Part (.node b k v h l r)) : Part l := ⟨p.right.2.1, by
  have := p.low; have := T.tall_nonneg r.raw; simp only [N.raw, T.tall] at *; omega⟩
theorem Part.rght {b : Nat} {k v h : Int} {l r : N} (p : Part (.node b k v h l r)) : Part r := ⟨p.right.2.2, by
  have := p.low; have := T.tall_nonneg l.raw; simp only [N.raw, T.tall] at *; omega⟩
theorem N.In.drew2 {w : World} {t : N} (h : t.In w) : t.In w.drew.drew := h.drew.drew
/-- What the step leaves. -/
def Done (t : N) (w : World) (e : Ending) (w' : World) : Prop :=
  ∃ t' : N, e = .returned t'.ptr ∧ t'.In w' ∧ t'.raw = T.reb t.raw ∧ t'.ids.Perm t.ids ∧ Fr (· ∈ t.ids) w w'
theorem perm_node_r {b : Nat} {k v h h' : Int} {l r r' : N} (p : r'.ids.Perm r.ids) : (N.node b k v h' l r').ids.Perm (N.node b k v h l r).ids :=
  List.Perm.cons _ (List.Perm.append_left _ p)
theorem perm_node_l {b : Nat} {k v h h' : Int} {l l' r : N} (p : l'.ids.Perm l.ids) : (N.node b k v h' l' r).ids.Perm (N.node b k v h l r).ids :=
  List.Perm.cons _ (List.Perm.append_right _ p)
theorem reb_nil (w : World) : Calls Try.prog 58 #[.pointer none] w (Done .nil w) := by
  go_enter Try.func58, Try.ntmps58
  go_wp2
  go_ret
  exact ⟨.nil, rfl, trivial, rfl, List.Perm.refl _, Fr.refl _ _⟩
set_option maxHeartbeats 800000 in
set_option maxRecDepth 100000 in
theorem reb_keep (b : Nat) (k v h : Int) (l r : N) (w : World) (hin : (N.node b k v h l r).In w) (nd : (N.node b k v h l r).ids.Nodup) (pl : Part l) (pr : Part r)
    (c1 : ¬ l.raw.ht - r.raw.ht ≤ -2) (c2 : ¬ l.raw.ht - r.raw.ht ≥ 2) :
    Calls Try.prog 58 #[.pointer (some ⟨b, 0, none⟩)] w (Done (.node b k v h l r) w) := by
  have bl := pl.hb
  have br := pr.hb
  have HC : Hid (¬ l.raw.ht - r.raw.ht ≤ -2 ∧ ¬ l.raw.ht - r.raw.ht ≥ 2) := ⟨c1, c2⟩
  obtain ⟨n1, n2, _, _, _⟩ := nodup_node nd
  have HN : Hid (b ∉ l.ids ∧ b ∉ r.ids) := ⟨n1, n2⟩
  have HI : Hid ((N.node b k v h l r).In w) := hin
  clear hin nd n1 n2 pl pr
  go_enter Try.func58, Try.ntmps58
  go_wp2_with fail
  refine (recalc_any b k v h l r w HI.out (by omega) (by omega)).mono ?_
  rintro e w1 ⟨rfl, B1, F1⟩
  have i3 : w1.cell? ⟨b, 3, none⟩ = some l.ptr := B1.cell 3
  have i4 : w1.cell? ⟨b, 4, none⟩ = some r.ptr := B1.cell 4
  have HJ : Hid (Blk w1 b #[.int .i64 k, .int .i64 v, .int .i64 (1 + max (N.raw l).ht (N.raw r).ht), N.ptr l, N.ptr r] 119 ∧ Fr (· = b) w w1 ∧ N.In w1 l ∧ N.In w1 r) :=
    ⟨B1, F1, N.In.fr F1 HI.out.2.1 (fun x hx e => HN.out.1 (e ▸ hx)), N.In.fr F1 HI.out.2.2 (fun x hx e => HN.out.2 (e ▸ hx))⟩
  clear B1 F1
  go_wp2_with fail
  refine still_drew (by kernel_rfl) (by kernel_rfl) ?_
  repeat still_step
  still_call (getHeight_any l _ HJ.out.2.2.1.drew)
  repeat still_step
  still_call (getHeight_any r _ HJ.out.2.2.2.drew)
  repeat still_step
  refine wpStill_nil ?_
  go_wp2
  go_ret
  obtain ⟨B1, F1, I1, I2⟩ := HJ.out
  refine ⟨.node b k v (1 + max l.raw.ht r.raw.ht) l r, rfl, ⟨B1.drew, I1.drew, I2.drew⟩, ?_, List.Perm.refl _, (F1.drew).mono (fun n _ e => by rw [e]; simp [N.ids])⟩
  simp only [N.raw, T.reb]
  have := HC.out
  rw [if_neg (by omega), if_neg (by omega)]; rfl
set_option maxHeartbeats 1600000 in
set_option maxRecDepth 100000 in
theorem reb_L1 (b : Nat) (k v h : Int) (l : N) (b2 : Nat) (k2 v2 h2 : Int) (rl rr : N) (w : World) (hin : (N.node b k v h l (.node b2 k2 v2 h2 rl rr)).In w) (nd : (N.node b k v h l (.node b2 k2 v2 h2 rl rr)).ids.Nodup) (pl : Part l) (pr : Part (.node b2 k2 v2 h2 rl rr))
    (c1 : l.raw.ht - (N.raw (.node b2 k2 v2 h2 rl rr)).ht ≤ -2) (c2 : ¬ (N.raw rl).ht > rr.raw.ht) :
    Calls Try.prog 58 #[.pointer (some ⟨b, 0, none⟩)] w (Done (N.node b k v h l (.node b2 k2 v2 h2 rl rr)) w) := by
  have bl := pl.hb
  have br := pr.hb
  have p1 := pr.left.hb
  have p2 := pr.rght.hb
  have HC : Hid (l.raw.ht - (N.raw (.node b2 k2 v2 h2 rl rr)).ht ≤ -2 ∧ ¬ (N.raw rl).ht > rr.raw.ht) := ⟨c1, c2⟩
  have ND : Hid ((N.node b k v h l (.node b2 k2 v2 h2 rl rr)).ids.Nodup) := nd
  obtain ⟨n1, n2, n3, n4, n5⟩ := nodup_node nd
  have HN : Hid (b ∉ N.ids l ∧ b ∉ N.ids (.node b2 k2 v2 h2 rl rr) ∧ (N.ids l).Nodup ∧ (N.ids (.node b2 k2 v2 h2 rl rr)).Nodup ∧ ∀ x ∈ N.ids l, x ∉ N.ids (.node b2 k2 v2 h2 rl rr)) := ⟨n1, n2, n3, n4, n5⟩
  have HI : Hid ((N.node b k v h l (.node b2 k2 v2 h2 rl rr)).In w) := hin
  clear hin nd n1 n2 n3 n4 n5 pl pr
  go_enter Try.func58, Try.ntmps58
  go_wp2_with fail
  refine (recalc_any b k v h l (.node b2 k2 v2 h2 rl rr) w HI.out (by omega) (by omega)).mono ?_
  rintro e w1 ⟨rfl, B1, F1⟩
  have i3 : w1.cell? ⟨b, 3, none⟩ = some l.ptr := B1.cell 3
  have i4 : w1.cell? ⟨b, 4, none⟩ = some (.pointer (some ⟨b2, 0, none⟩)) := B1.cell 4
  have HJ : Hid (Blk w1 b #[.int .i64 k, .int .i64 v, .int .i64 (1 + max (N.raw l).ht (N.raw (.node b2 k2 v2 h2 rl rr)).ht), N.ptr l, N.ptr (.node b2 k2 v2 h2 rl rr)] 119 ∧ Fr (· = b) w w1 ∧ N.In w1 l ∧ N.In w1 (.node b2 k2 v2 h2 rl rr)) :=
    ⟨B1, F1, N.In.fr F1 HI.out.2.1 (fun x hx e => HN.out.1 (e ▸ hx)), N.In.fr F1 HI.out.2.2 (fun x hx e => HN.out.2.1 (e ▸ hx))⟩
  clear B1 F1
  have j3 : w1.cell? ⟨b2, 3, none⟩ = some rl.ptr := HJ.out.2.2.2.1.cell 3
  have j4 : w1.cell? ⟨b2, 4, none⟩ = some rr.ptr := HJ.out.2.2.2.1.cell 4
  go_wp2_with fail
  refine still_drew (by kernel_rfl) (by kernel_rfl) ?_
  repeat still_step
  still_call (getHeight_any l _ HJ.out.2.2.1.drew)
  repeat still_step
  still_call (getHeight_any (.node b2 k2 v2 h2 rl rr) _ HJ.out.2.2.2.drew)
  repeat still_step
  refine wpStill_nil ?_
  go_wp2_with fail
  refine still_drew (by kernel_rfl) (by kernel_rfl) ?_
  repeat still_step
  still_call (getHeight_any rl _ HJ.out.2.2.2.2.1.drew2)
  repeat still_step
  still_call (getHeight_any rr _ HJ.out.2.2.2.2.2.drew2)
  repeat still_step
  refine wpStill_nil ?_
  go_wp2_with fail
  refine (rotL_any b k v (1 + max l.raw.ht (N.raw (.node b2 k2 v2 h2 rl rr)).ht) l b2 k2 v2 h2 rl rr _ ⟨HJ.out.1.drew.drew, HJ.out.2.2.1.drew2, HJ.out.2.2.2.drew2⟩ ND.out (by unfold Hb; omega) (by unfold Hb; omega) (by unfold Hb; omega)).mono ?_
  rintro e w2 ⟨rfl, I2, F2⟩
  have HK : Hid (_ ∧ _) := ⟨I2, F2⟩
  clear I2 F2
  go_wp2
  go_ret
  refine ⟨N.turnL (.node b k v 0 l (.node b2 k2 v2 h2 rl rr)), rfl, HK.out.1, ?_, perm_turnL _, (((HJ.out.2.1.drew.drew).mono (S' := fun n => n = b ∨ n = b2) (fun _ _ e => .inl e)).trans HK.out.2 (fun _ _ h => h)).mono (fun n _ h => h.elim (fun e => by rw [e]; simp [N.ids]) (fun e => by rw [e]; simp [N.ids]))⟩
  have q := HC.out
  exact (T.reb_L1 q.1 (by omega)).symm
set_option maxHeartbeats 1600000 in
set_option maxRecDepth 100000 in
theorem reb_L2 (b : Nat) (k v h : Int) (l : N) (b2 : Nat) (k2 v2 h2 : Int) (b3 : Nat) (k3 v3 h3 : Int) (tx ty : N) (rr : N) (w : World) (hin : (N.node b k v h l (.node b2 k2 v2 h2 (.node b3 k3 v3 h3 tx ty) rr)).In w) (nd : (N.node b k v h l (.node b2 k2 v2 h2 (.node b3 k3 v3 h3 tx ty) rr)).ids.Nodup) (pl : Part l) (pr : Part (.node b2 k2 v2 h2 (.node b3 k3 v3 h3 tx ty) rr))
    (c1 : l.raw.ht - (N.raw (.node b2 k2 v2 h2 (.node b3 k3 v3 h3 tx ty) rr)).ht ≤ -2) (c2 :  (N.raw (.node b3 k3 v3 h3 tx ty)).ht > rr.raw.ht) :
    Calls Try.prog 58 #[.pointer (some ⟨b, 0, none⟩)] w (Done (N.node b k v h l (.node b2 k2 v2 h2 (.node b3 k3 v3 h3 tx ty) rr)) w) := by
  have bl := pl.hb
  have br := pr.hb
  have p1 := pr.left.hb
  have p2 := pr.rght.hb
  have p3 := pr.left.left.hb
  have p4 := pr.left.rght.hb
  have HC : Hid (l.raw.ht - (N.raw (.node b2 k2 v2 h2 (.node b3 k3 v3 h3 tx ty) rr)).ht ≤ -2 ∧ (N.raw (.node b3 k3 v3 h3 tx ty)).ht > rr.raw.ht) := ⟨c1, c2⟩
  have ND : Hid ((N.node b k v h l (.node b2 k2 v2 h2 (.node b3 k3 v3 h3 tx ty) rr)).ids.Nodup) := nd
  obtain ⟨n1, n2, n3, n4, n5⟩ := nodup_node nd
  have HN : Hid (b ∉ N.ids l ∧ b ∉ N.ids (.node b2 k2 v2 h2 (.node b3 k3 v3 h3 tx ty) rr) ∧ (N.ids l).Nodup ∧ (N.ids (.node b2 k2 v2 h2 (.node b3 k3 v3 h3 tx ty) rr)).Nodup ∧ ∀ x ∈ N.ids l, x ∉ N.ids (.node b2 k2 v2 h2 (.node b3 k3 v3 h3 tx ty) rr)) := ⟨n1, n2, n3, n4, n5⟩
  have HI : Hid ((N.node b k v h l (.node b2 k2 v2 h2 (.node b3 k3 v3 h3 tx ty) rr)).In w) := hin
  clear hin nd n1 n2 n3 n4 n5 pl pr
  go_enter Try.func58, Try.ntmps58
  go_wp2_with fail
  refine (recalc_any b k v h l (.node b2 k2 v2 h2 (.node b3 k3 v3 h3 tx ty) rr) w HI.out (by omega) (by omega)).mono ?_
  rintro e w1 ⟨rfl, B1, F1⟩
  have i3 : w1.cell? ⟨b, 3, none⟩ = some l.ptr := B1.cell 3
  have i4 : w1.cell? ⟨b, 4, none⟩ = some (.pointer (some ⟨b2, 0, none⟩)) := B1.cell 4
  have HJ : Hid (Blk w1 b #[.int .i64 k, .int .i64 v, .int .i64 (1 + max (N.raw l).ht (N.raw (.node b2 k2 v2 h2 (.node b3 k3 v3 h3 tx ty) rr)).ht), N.ptr l, N.ptr (.node b2 k2 v2 h2 (.node b3 k3 v3 h3 tx ty) rr)] 119 ∧ Fr (· = b) w w1 ∧ N.In w1 l ∧ N.In w1 (.node b2 k2 v2 h2 (.node b3 k3 v3 h3 tx ty) rr)) :=
    ⟨B1, F1, N.In.fr F1 HI.out.2.1 (fun x hx e => HN.out.1 (e ▸ hx)), N.In.fr F1 HI.out.2.2 (fun x hx e => HN.out.2.1 (e ▸ hx))⟩
  clear B1 F1
  have j3 : w1.cell? ⟨b2, 3, none⟩ = some (.pointer (some ⟨b3, 0, none⟩)) := HJ.out.2.2.2.1.cell 3
  have j4 : w1.cell? ⟨b2, 4, none⟩ = some rr.ptr := HJ.out.2.2.2.1.cell 4
  go_wp2_with fail
  refine still_drew (by kernel_rfl) (by kernel_rfl) ?_
  repeat still_step
  still_call (getHeight_any l _ HJ.out.2.2.1.drew)
  repeat still_step
  still_call (getHeight_any (.node b2 k2 v2 h2 (.node b3 k3 v3 h3 tx ty) rr) _ HJ.out.2.2.2.drew)
  repeat still_step
  refine wpStill_nil ?_
  go_wp2_with fail
  refine still_drew (by kernel_rfl) (by kernel_rfl) ?_
  repeat still_step
  still_call (getHeight_any (.node b3 k3 v3 h3 tx ty) _ HJ.out.2.2.2.2.1.drew2)
  repeat still_step
  still_call (getHeight_any rr _ HJ.out.2.2.2.2.2.drew2)
  repeat still_step
  refine wpStill_nil ?_
  go_wp2_with fail
  refine (rotR_any b2 k2 v2 h2 rr b3 k3 v3 h3 tx ty _ HJ.out.2.2.2.drew2 HN.out.2.2.2.1 (by unfold Hb; omega) (by unfold Hb; omega) (by unfold Hb; omega)).mono ?_
  rintro e w2 ⟨rfl, I2, F2⟩
  have B2 : Blk w2 b #[.int .i64 k, .int .i64 v, .int .i64 (1 + max (N.raw l).ht (N.raw (.node b2 k2 v2 h2 (.node b3 k3 v3 h3 tx ty) rr)).ht), l.ptr, (.pointer (some ⟨b2, 0, none⟩))] 119 := HJ.out.1.drew.drew.fr F2 (fun h => h.elim (fun e => HN.out.2.1 (by simp [N.ids, e])) (fun e => HN.out.2.1 (by simp [N.ids, e])))
  have I3 : N.In w2 l := N.In.fr F2 HJ.out.2.2.1.drew2 (fun x hx h => h.elim (fun e => HN.out.2.2.2.2 x hx (by simp [N.ids, e])) (fun e => HN.out.2.2.2.2 x hx (by simp [N.ids, e])))
  have q4 : w2.cell? ⟨b, 4, none⟩ = some (.pointer (some ⟨b2, 0, none⟩)) := B2.cell 4
  have r4 : w2.frozen? ⟨b, 4, none⟩ = false := B2.free 4
  have HK : Hid (_ ∧ _ ∧ _ ∧ _) := ⟨B2, I2, I3, F2⟩
  clear B2 I2 I3 F2
  go_wp2_with fail
  have F4 : Fr (· = b) w2 (w2.setCell ⟨b, 4, none⟩ (.pointer (some ⟨b3, 0, none⟩))) := Fr.setCell (S := (· = b)) (Fr.refl _ _) (p := ⟨b, 4, none⟩) (fun _ => rfl) _
  have B4 : Blk (w2.setCell ⟨b, 4, none⟩ (.pointer (some ⟨b3, 0, none⟩))) b #[.int .i64 k, .int .i64 v, .int .i64 (1 + max (N.raw l).ht (N.raw (.node b2 k2 v2 h2 (.node b3 k3 v3 h3 tx ty) rr)).ht), l.ptr, (.pointer (some ⟨b3, 0, none⟩))] 119 := HK.out.1.set 4 _
  have I4 : N.In (w2.setCell ⟨b, 4, none⟩ (.pointer (some ⟨b3, 0, none⟩))) (N.turnR (.node b2 k2 v2 h2 (.node b3 k3 v3 h3 tx ty) rr)) := N.In.fr F4 HK.out.2.1 (fun x hx e => HN.out.2.1 ((perm_turnR _).mem_iff.1 (e ▸ hx)))
  have I5 : N.In (w2.setCell ⟨b, 4, none⟩ (.pointer (some ⟨b3, 0, none⟩))) l := N.In.fr F4 HK.out.2.2.1 (fun x hx e => HN.out.1 (e ▸ hx))
  have HM : Hid (_ ∧ _ ∧ _ ∧ _) := ⟨F4, B4, I4, I5⟩
  refine (rotL_any b k v (1 + max (N.raw l).ht (N.raw (.node b2 k2 v2 h2 (.node b3 k3 v3 h3 tx ty) rr)).ht) l b3 k3 v3 _ tx (.node b2 k2 v2 (1 + max ty.raw.ht rr.raw.ht) ty rr) _ ⟨B4, I5, I4⟩ ((perm_node_r (perm_turnR (.node b2 k2 v2 h2 (.node b3 k3 v3 h3 tx ty) rr))).nodup_iff.2 ND.out) (by unfold Hb; omega) (by unfold Hb; omega) (by show 0 ≤ 1 + max ty.raw.ht rr.raw.ht ∧ 1 + max ty.raw.ht rr.raw.ht ≤ 4294967000; omega)).mono ?_
  clear F4 B4 I4 I5
  rintro e w3 ⟨rfl, I6, F6⟩
  have HQ : Hid (_ ∧ _) := ⟨I6, F6⟩
  clear I6 F6
  go_wp2
  go_ret
  refine ⟨N.turnL (.node b k v 0 l (N.turnR (.node b2 k2 v2 h2 (.node b3 k3 v3 h3 tx ty) rr))), rfl, HQ.out.1, ?_, (perm_turnL _).trans (perm_node_r (perm_turnR _)), (((((HJ.out.2.1.drew.drew).mono (S' := fun n => n = b ∨ n = b2 ∨ n = b3) (fun _ _ e => .inl e)).trans (HK.out.2.2.2) (fun _ _ h => .inr h)).trans HM.out.1 (fun _ _ h => .inl h)).trans HQ.out.2 (fun n _ h => h.elim .inl (fun e => .inr (.inr e)))).mono (fun n _ h => h.elim (fun e => by rw [e]; simp [N.ids]) (fun h => h.elim (fun e => by rw [e]; simp [N.ids]) (fun e => by rw [e]; simp [N.ids])))⟩
  have q := HC.out
  exact (T.reb_L2 q.1 q.2).symm
set_option maxHeartbeats 1600000 in
set_option maxRecDepth 100000 in
theorem reb_R1 (b : Nat) (k v h : Int) (b2 : Nat) (k2 v2 h2 : Int) (ll lr : N) (r : N) (w : World) (hin : (N.node b k v h (.node b2 k2 v2 h2 ll lr) r).In w) (nd : (N.node b k v h (.node b2 k2 v2 h2 ll lr) r).ids.Nodup) (pl : Part (.node b2 k2 v2 h2 ll lr)) (pr : Part r)
    (c1 : (N.raw (.node b2 k2 v2 h2 ll lr)).ht - r.raw.ht ≥ 2) (c2 : ¬ (N.raw lr).ht > ll.raw.ht) :
    Calls Try.prog 58 #[.pointer (some ⟨b, 0, none⟩)] w (Done (N.node b k v h (.node b2 k2 v2 h2 ll lr) r) w) := by
  have bl := pl.hb
  have br := pr.hb
  have p1 := pl.left.hb
  have p2 := pl.rght.hb
  have HC : Hid ((N.raw (.node b2 k2 v2 h2 ll lr)).ht - r.raw.ht ≥ 2 ∧ ¬ (N.raw lr).ht > ll.raw.ht) := ⟨c1, c2⟩
  have ND : Hid ((N.node b k v h (.node b2 k2 v2 h2 ll lr) r).ids.Nodup) := nd
  obtain ⟨n1, n2, n3, n4, n5⟩ := nodup_node nd
  have HN : Hid (b ∉ N.ids (.node b2 k2 v2 h2 ll lr) ∧ b ∉ N.ids r ∧ (N.ids (.node b2 k2 v2 h2 ll lr)).Nodup ∧ (N.ids r).Nodup ∧ ∀ x ∈ N.ids (.node b2 k2 v2 h2 ll lr), x ∉ N.ids r) := ⟨n1, n2, n3, n4, n5⟩
  have HI : Hid ((N.node b k v h (.node b2 k2 v2 h2 ll lr) r).In w) := hin
  clear hin nd n1 n2 n3 n4 n5 pl pr
  go_enter Try.func58, Try.ntmps58
  go_wp2_with fail
  refine (recalc_any b k v h (.node b2 k2 v2 h2 ll lr) r w HI.out (by omega) (by omega)).mono ?_
  rintro e w1 ⟨rfl, B1, F1⟩
  have i3 : w1.cell? ⟨b, 3, none⟩ = some (.pointer (some ⟨b2, 0, none⟩)) := B1.cell 3
  have i4 : w1.cell? ⟨b, 4, none⟩ = some r.ptr := B1.cell 4
  have HJ : Hid (Blk w1 b #[.int .i64 k, .int .i64 v, .int .i64 (1 + max (N.raw (.node b2 k2 v2 h2 ll lr)).ht (N.raw r).ht), N.ptr (.node b2 k2 v2 h2 ll lr), N.ptr r] 119 ∧ Fr (· = b) w w1 ∧ N.In w1 (.node b2 k2 v2 h2 ll lr) ∧ N.In w1 r) :=
    ⟨B1, F1, N.In.fr F1 HI.out.2.1 (fun x hx e => HN.out.1 (e ▸ hx)), N.In.fr F1 HI.out.2.2 (fun x hx e => HN.out.2.1 (e ▸ hx))⟩
  clear B1 F1
  have j4 : w1.cell? ⟨b2, 4, none⟩ = some lr.ptr := HJ.out.2.2.1.1.cell 4
  have j3 : w1.cell? ⟨b2, 3, none⟩ = some ll.ptr := HJ.out.2.2.1.1.cell 3
  go_wp2_with fail
  refine still_drew (by kernel_rfl) (by kernel_rfl) ?_
  repeat still_step
  still_call (getHeight_any (.node b2 k2 v2 h2 ll lr) _ HJ.out.2.2.1.drew)
  repeat still_step
  still_call (getHeight_any r _ HJ.out.2.2.2.drew)
  repeat still_step
  refine wpStill_nil ?_
  go_wp2_with fail
  refine still_drew (by kernel_rfl) (by kernel_rfl) ?_
  repeat still_step
  still_call (getHeight_any lr _ HJ.out.2.2.1.2.2.drew2)
  repeat still_step
  still_call (getHeight_any ll _ HJ.out.2.2.1.2.1.drew2)
  repeat still_step
  refine wpStill_nil ?_
  go_wp2_with fail
  refine (rotR_any b k v (1 + max (N.raw (.node b2 k2 v2 h2 ll lr)).ht r.raw.ht) r b2 k2 v2 h2 ll lr _ ⟨HJ.out.1.drew.drew, HJ.out.2.2.1.drew2, HJ.out.2.2.2.drew2⟩ ND.out (by unfold Hb; omega) (by unfold Hb; omega) (by unfold Hb; omega)).mono ?_
  rintro e w2 ⟨rfl, I2, F2⟩
  have HK : Hid (_ ∧ _) := ⟨I2, F2⟩
  clear I2 F2
  go_wp2
  go_ret
  refine ⟨N.turnR (.node b k v 0 (.node b2 k2 v2 h2 ll lr) r), rfl, HK.out.1, ?_, perm_turnR _, (((HJ.out.2.1.drew.drew).mono (S' := fun n => n = b ∨ n = b2) (fun _ _ e => .inl e)).trans HK.out.2 (fun _ _ h => h)).mono (fun n _ h => h.elim (fun e => by rw [e]; simp [N.ids]) (fun e => by rw [e]; simp [N.ids]))⟩
  have q := HC.out
  exact (T.reb_R1 q.1 (by omega)).symm
set_option maxHeartbeats 1600000 in
set_option maxRecDepth 100000 in
theorem reb_R2 (b : Nat) (k v h : Int) (b2 : Nat) (k2 v2 h2 : Int) (ll : N) (b3 : Nat) (k3 v3 h3 : Int) (tx ty : N) (r : N) (w : World) (hin : (N.node b k v h (.node b2 k2 v2 h2 ll (.node b3 k3 v3 h3 tx ty)) r).In w) (nd : (N.node b k v h (.node b2 k2 v2 h2 ll (.node b3 k3 v3 h3 tx ty)) r).ids.Nodup) (pl : Part (.node b2 k2 v2 h2 ll (.node b3 k3 v3 h3 tx ty))) (pr : Part r)
    (c1 : (N.raw (.node b2 k2 v2 h2 ll (.node b3 k3 v3 h3 tx ty))).ht - r.raw.ht ≥ 2) (c2 :  (N.raw (.node b3 k3 v3 h3 tx ty)).ht > ll.raw.ht) :
    Calls Try.prog 58 #[.pointer (some ⟨b, 0, none⟩)] w (Done (N.node b k v h (.node b2 k2 v2 h2 ll (.node b3 k3 v3 h3 tx ty)) r) w) := by
  have bl := pl.hb
  have br := pr.hb
  have p1 := pl.left.hb
  have p2 := pl.rght.hb
  have p3 := pl.rght.left.hb
  have p4 := pl.rght.rght.hb
  have HC : Hid ((N.raw (.node b2 k2 v2 h2 ll (.node b3 k3 v3 h3 tx ty))).ht - r.raw.ht ≥ 2 ∧ (N.raw (.node b3 k3 v3 h3 tx ty)).ht > ll.raw.ht) := ⟨c1, c2⟩
  have ND : Hid ((N.node b k v h (.node b2 k2 v2 h2 ll (.node b3 k3 v3 h3 tx ty)) r).ids.Nodup) := nd
  obtain ⟨n1, n2, n3, n4, n5⟩ := nodup_node nd
  have HN : Hid (b ∉ N.ids (.node b2 k2 v2 h2 ll (.node b3 k3 v3 h3 tx ty)) ∧ b ∉ N.ids r ∧ (N.ids (.node b2 k2 v2 h2 ll (.node b3 k3 v3 h3 tx ty))).Nodup ∧ (N.ids r).Nodup ∧ ∀ x ∈ N.ids (.node b2 k2 v2 h2 ll (.node b3 k3 v3 h3 tx ty)), x ∉ N.ids r) := ⟨n1, n2, n3, n4, n5⟩
  have HI : Hid ((N.node b k v h (.node b2 k2 v2 h2 ll (.node b3 k3 v3 h3 tx ty)) r).In w) := hin
  clear hin nd n1 n2 n3 n4 n5 pl pr
  go_enter Try.func58, Try.ntmps58
  go_wp2_with fail
  refine (recalc_any b k v h (.node b2 k2 v2 h2 ll (.node b3 k3 v3 h3 tx ty)) r w HI.out (by omega) (by omega)).mono ?_
  rintro e w1 ⟨rfl, B1, F1⟩
  have i3 : w1.cell? ⟨b, 3, none⟩ = some (.pointer (some ⟨b2, 0, none⟩)) := B1.cell 3
  have i4 : w1.cell? ⟨b, 4, none⟩ = some r.ptr := B1.cell 4
  have HJ : Hid (Blk w1 b #[.int .i64 k, .int .i64 v, .int .i64 (1 + max (N.raw (.node b2 k2 v2 h2 ll (.node b3 k3 v3 h3 tx ty))).ht (N.raw r).ht), N.ptr (.node b2 k2 v2 h2 ll (.node b3 k3 v3 h3 tx ty)), N.ptr r] 119 ∧ Fr (· = b) w w1 ∧ N.In w1 (.node b2 k2 v2 h2 ll (.node b3 k3 v3 h3 tx ty)) ∧ N.In w1 r) :=
    ⟨B1, F1, N.In.fr F1 HI.out.2.1 (fun x hx e => HN.out.1 (e ▸ hx)), N.In.fr F1 HI.out.2.2 (fun x hx e => HN.out.2.1 (e ▸ hx))⟩
  clear B1 F1
  have j4 : w1.cell? ⟨b2, 4, none⟩ = some (.pointer (some ⟨b3, 0, none⟩)) := HJ.out.2.2.1.1.cell 4
  have j3 : w1.cell? ⟨b2, 3, none⟩ = some ll.ptr := HJ.out.2.2.1.1.cell 3
  go_wp2_with fail
  refine still_drew (by kernel_rfl) (by kernel_rfl) ?_
  repeat still_step
  still_call (getHeight_any (.node b2 k2 v2 h2 ll (.node b3 k3 v3 h3 tx ty)) _ HJ.out.2.2.1.drew)
  repeat still_step
  still_call (getHeight_any r _ HJ.out.2.2.2.drew)
  repeat still_step
  refine wpStill_nil ?_
  go_wp2_with fail
  refine still_drew (by kernel_rfl) (by kernel_rfl) ?_
  repeat still_step
  still_call (getHeight_any (.node b3 k3 v3 h3 tx ty) _ HJ.out.2.2.1.2.2.drew2)
  repeat still_step
  still_call (getHeight_any ll _ HJ.out.2.2.1.2.1.drew2)
  repeat still_step
  refine wpStill_nil ?_
  go_wp2_with fail
  refine (rotL_any b2 k2 v2 h2 ll b3 k3 v3 h3 tx ty _ HJ.out.2.2.1.drew2 HN.out.2.2.1 (by unfold Hb; omega) (by unfold Hb; omega) (by unfold Hb; omega)).mono ?_
  rintro e w2 ⟨rfl, I2, F2⟩
  have B2 : Blk w2 b #[.int .i64 k, .int .i64 v, .int .i64 (1 + max (N.raw (.node b2 k2 v2 h2 ll (.node b3 k3 v3 h3 tx ty))).ht (N.raw r).ht), (.pointer (some ⟨b2, 0, none⟩)), r.ptr] 119 := HJ.out.1.drew.drew.fr F2 (fun h => h.elim (fun e => HN.out.1 (by simp [N.ids, e])) (fun e => HN.out.1 (by simp [N.ids, e])))
  have I3 : N.In w2 r := N.In.fr F2 HJ.out.2.2.2.drew2 (fun x hx h => h.elim (fun e => HN.out.2.2.2.2 b2 (by simp [N.ids]) (e ▸ hx)) (fun e => HN.out.2.2.2.2 b3 (by simp [N.ids]) (e ▸ hx)))
  have q4 : w2.cell? ⟨b, 3, none⟩ = some (.pointer (some ⟨b2, 0, none⟩)) := B2.cell 3
  have r4 : w2.frozen? ⟨b, 3, none⟩ = false := B2.free 3
  have HK : Hid (_ ∧ _ ∧ _ ∧ _) := ⟨B2, I2, I3, F2⟩
  clear B2 I2 I3 F2
  go_wp2_with fail
  have F4 : Fr (· = b) w2 (w2.setCell ⟨b, 3, none⟩ (.pointer (some ⟨b3, 0, none⟩))) := Fr.setCell (S := (· = b)) (Fr.refl _ _) (p := ⟨b, 3, none⟩) (fun _ => rfl) _
  have B4 : Blk (w2.setCell ⟨b, 3, none⟩ (.pointer (some ⟨b3, 0, none⟩))) b #[.int .i64 k, .int .i64 v, .int .i64 (1 + max (N.raw (.node b2 k2 v2 h2 ll (.node b3 k3 v3 h3 tx ty))).ht (N.raw r).ht), (.pointer (some ⟨b3, 0, none⟩)), r.ptr] 119 := HK.out.1.set 3 _
  have I4 : N.In (w2.setCell ⟨b, 3, none⟩ (.pointer (some ⟨b3, 0, none⟩))) (N.turnL (.node b2 k2 v2 h2 ll (.node b3 k3 v3 h3 tx ty))) := N.In.fr F4 HK.out.2.1 (fun x hx e => HN.out.1 ((perm_turnL _).mem_iff.1 (e ▸ hx)))
  have I5 : N.In (w2.setCell ⟨b, 3, none⟩ (.pointer (some ⟨b3, 0, none⟩))) r := N.In.fr F4 HK.out.2.2.1 (fun x hx e => HN.out.2.1 (e ▸ hx))
  have HM : Hid (_ ∧ _ ∧ _ ∧ _) := ⟨F4, B4, I4, I5⟩
  refine (rotR_any b k v (1 + max (N.raw (.node b2 k2 v2 h2 ll (.node b3 k3 v3 h3 tx ty))).ht (N.raw r).ht) r b3 k3 v3 _ (.node b2 k2 v2 (1 + max ll.raw.ht tx.raw.ht) ll tx) ty _ ⟨B4, I4, I5⟩ ((perm_node_l (perm_turnL (.node b2 k2 v2 h2 ll (.node b3 k3 v3 h3 tx ty)))).nodup_iff.2 ND.out) (by unfold Hb; omega) (by show 0 ≤ 1 + max ll.raw.ht tx.raw.ht ∧ 1 + max ll.raw.ht tx.raw.ht ≤ 4294967000; omega) (by unfold Hb; omega)).mono ?_
  clear F4 B4 I4 I5
  rintro e w3 ⟨rfl, I6, F6⟩
  have HQ : Hid (_ ∧ _) := ⟨I6, F6⟩
  clear I6 F6
  go_wp2
  go_ret
  refine ⟨N.turnR (.node b k v 0 (N.turnL (.node b2 k2 v2 h2 ll (.node b3 k3 v3 h3 tx ty))) r), rfl, HQ.out.1, ?_, (perm_turnR _).trans (perm_node_l (perm_turnL _)), (((((HJ.out.2.1.drew.drew).mono (S' := fun n => n = b ∨ n = b2 ∨ n = b3) (fun _ _ e => .inl e)).trans (HK.out.2.2.2) (fun _ _ h => .inr h)).trans HM.out.1 (fun _ _ h => .inl h)).trans HQ.out.2 (fun n _ h => h.elim .inl (fun e => .inr (.inr e)))).mono (fun n _ h => h.elim (fun e => by rw [e]; simp [N.ids]) (fun h => h.elim (fun e => by rw [e]; simp [N.ids]) (fun e => by rw [e]; simp [N.ids])))⟩
  have q := HC.out
  exact (T.reb_R2 q.1 q.2).symm
end Go.Proofs.Ytjlcebgfknfelaa.Avl

namespace Go.Proofs.Ytjlcebgfknfelaa.Less
open Go Go.RowKit Go.IntWalk Go.Proofs.Ytjlcebgfknfelaa.Hk Go.Proofs.YtjlcebgfknfelaaW.PrintWords Go.Proofs.YtjlcebgfknfelaaW.PrintLast Go.Proofs.YtjlcebgfknfelaaW.PrintMore
/-- A number's rank by a table. -/
def rankOf (t : List Int) (k : Int) : Int := if t = [] then k else rd t (k % (t.length : Int))
theorem tmod_bd (k n : Int) (h : 0 < n) : -n < k.tmod n ∧ k.tmod n < n ∧ (k.tmod n + n) % n = k % n := by
  have h2 := Int.emod_nonneg k (show n ≠ 0 by omega)
  have h3 := Int.emod_lt_of_pos k h
  rw [Int.tmod_eq_emod]
  split
  · exact ⟨by omega, by omega, by simp⟩
  · rename_i hc
    have h4 : k % n ≠ 0 := fun e => hc (.inr (Int.dvd_of_emod_eq_zero e))
    have h5 : (n.natAbs : Int) = n := by omega
    rw [h5]
    exact ⟨by omega, by omega, by rw [show k % n - n + n = k % n by omega, Int.emod_emod]⟩
set_option maxHeartbeats 400000 in
theorem mod_any (k n : Int) (w : World) (h0 : 0 < n) (h1 : n ≤ 140737488351232) :
    Calls Try.prog 88 #[.int .i64 k, .int .i64 n] w fun e w' => e = .returned (.int .i64 (k % n)) ∧ w' = w := by
  obtain ⟨b0, b1, ht⟩ := tmod_bd k n h0
  have hz : (n == 0) = false := beq_eq_false_iff_ne.2 (by omega)
  have HT : Hid ((k.tmod n + n) % n = k % n) := ht
  clear ht
  go_enter Try.func88, Try.ntmps88
  go_wp2
  go_ret
  exact ⟨congrArg (fun x => Ending.returned (.int .i64 x)) HT.out, rfl⟩
set_option maxHeartbeats 400000 in
theorem rank_any (A : Option Addr) (c : Nat) (t : List Int) (k : Int) (w : World) (hC : Kd.C (Kd.int .i64) w A t.length t) (hn : t.length ≤ 140737488351232) :
    Calls Try.prog 68 #[.slice A t.length c, .int .i64 k] w fun e w' => e = .returned (.int .i64 (rankOf t k)) ∧ w' = w := by
  by_cases ht : t = []
  · subst ht
    have e : rankOf [] k = k := by simp [rankOf]
    rw [e]; clear e hC
    show Calls Try.prog 68 #[.slice A 0 c, .int .i64 k] w _
    go_enter Try.func68, Try.ntmps68
    go_wp2
    go_ret
    exact ⟨rfl, rfl⟩
  · have hp : 0 < t.length := List.length_pos_iff.2 ht
    have e : rankOf t k = rd t (k % (t.length : Int)) := by unfold rankOf; rw [if_neg ht]
    rw [e]; clear e
    have q0 := Int.emod_nonneg k (show (t.length : Int) ≠ 0 by omega)
    have q1 := Int.emod_lt_of_pos k (show (0 : Int) < t.length by omega)
    obtain ⟨ad, rfl, hc⟩ := Kd.at_int hC (k % (t.length : Int)) q0 q1
    have hz : ((t.length : Int) == 0) = false := beq_eq_false_iff_ne.2 (by omega)
    have hz' : (t.length == 0) = false := beq_eq_false_iff_ne.2 (by omega)
    have HC : Hid (Kd.C (Kd.int .i64) w (some ad) t.length t) := hC
    clear hC
    generalize hj : k % (t.length : Int) = j at q0 q1 hc ⊢
    have HJ : Hid (k % (t.length : Int) = j) := hj
    clear hj
    generalize hm : rd t j = v at hc ⊢
    clear hm
    go_enter Try.func68, Try.ntmps68
    go_wp2_with fail
    refine (mod_any k _ _ (by omega) (by omega)).mono ?_
    rintro e w' ⟨rfl, rfl⟩
    rw [HJ.out]
    go_wp2
    go_ret
    exact ⟨rfl, rfl⟩
/-- A function value that orders by a table: the captured table lies where it lay. -/
def LessV (w : World) (v : Value) (t : List Int) : Prop :=
  t.length ≤ 140737488351232 ∧ ∃ B A c, v = .func (.func 67) #[] #[.pointer (some ⟨B, 0, none⟩)] ∧ Blk w B #[.slice A t.length c] 24 ∧ Kd.C (Kd.int .i64) w A t.length t
theorem LessV.below {w w' : World} {v : Value} {t : List Int} (h : LessV w v t) (hb : Below w.heap.size w w') : LessV w' v t := by
  obtain ⟨h0, B, A, c, rfl, h1, h2⟩ := h
  exact ⟨h0, B, A, c, rfl, h1.below hb h1.lt, Kd.C_below h2 hb⟩
/-- The order, as_ a Bool. -/
def lt (t : List Int) (a b : Int) : Bool := decide (rankOf t a < rankOf t b)
set_option maxHeartbeats 400000 in
set_option maxRecDepth 100000 in
theorem less1_any (B : Nat) (A : Option Addr) (c : Nat) (t : List Int) (a b : Int) (w : World) (hn : t.length ≤ 140737488351232)
    (hB : Blk w B #[.slice A t.length c] 24) (hC : Kd.C (Kd.int .i64) w A t.length t) :
    Calls Try.prog 67 #[.int .i64 a, .int .i64 b, .pointer (some ⟨B, 0, none⟩)] w fun e w' => e = .returned (.bool (lt t a b)) ∧ w' = w.drew := by
  have c0 : w.cell? ⟨B, 0, none⟩ = some (.slice A t.length c) := hB.cell 0
  have HC : Hid (Kd.C (Kd.int .i64) w.drew A t.length t) := Kd.C_drew hC
  clear hB hC
  go_enter Try.func67, Try.ntmps67
  go_wp2_with fail
  refine still_drew (by kernel_rfl) (by kernel_rfl) ?_
  repeat still_step
  still_call (rank_any A c t a _ HC.out hn)
  repeat still_step
  still_call (rank_any A c t b _ HC.out hn)
  repeat still_step
  refine wpStill_nil ?_
  go_wp2
  go_ret
  exact ⟨rfl, rfl⟩
/-- How two numbers stand by the order. -/
def cmp (t : List Int) (a b : Int) : Int := if rankOf t a < rankOf t b then -1 else if rankOf t b < rankOf t a then 1 else 0
set_option maxHeartbeats 400000 in
theorem compare_any (v : Value) (t : List Int) (a b : Int) (w : World) (hv : LessV w v t) :
    Calls Try.prog 96 #[.int .i64 a, .int .i64 b, v] w fun e w' => e = .returned (.int .i64 (cmp t a b)) ∧ ∃ n, w' = w.drewN n := by
  obtain ⟨hn, B, A, c, rfl, hB, hC⟩ := hv
  have H : Hid (Blk w B #[.slice A t.length c] 24 ∧ Kd.C (Kd.int .i64) w A t.length t) := ⟨hB, hC⟩
  have HE : Hid (cmp t a b = if rankOf t a < rankOf t b then -1 else if rankOf t b < rankOf t a then 1 else 0) := rfl
  clear hB hC
  by_cases c1 : rankOf t a < rankOf t b
  · have e1 : lt t a b = true := decide_eq_true c1
    have HR : Hid (cmp t a b = -1) := HE.out.trans (if_pos c1)
    clear c1 HE
    go_enter Try.func96, Try.ntmps96
    go_wp2_with fail
    refine (less1_any B A c t a b _ hn H.out.1 H.out.2).mono ?_
    rintro e w' ⟨rfl, rfl⟩
    rw [e1]
    clear e1
    go_wp2
    go_ret
    exact ⟨by rw [HR.out]; rfl, 1, rfl⟩
  · have e1 : lt t a b = false := decide_eq_false c1
    by_cases c2 : rankOf t b < rankOf t a
    · have e2 : lt t b a = true := decide_eq_true c2
      have HR : Hid (cmp t a b = 1) := HE.out.trans ((if_neg c1).trans (if_pos c2))
      clear c1 c2 HE
      go_enter Try.func96, Try.ntmps96
      go_wp2_with fail
      refine (less1_any B A c t a b _ hn H.out.1 H.out.2).mono ?_
      rintro e w' ⟨rfl, rfl⟩
      rw [e1]
      clear e1
      go_wp2_with fail
      refine (less1_any B A c t b a _ hn H.out.1.drew (Kd.C_drew H.out.2)).mono ?_
      rintro e w' ⟨rfl, rfl⟩
      rw [e2]
      clear e2
      go_wp2
      go_ret
      exact ⟨by rw [HR.out]; rfl, 2, rfl⟩
    · have e2 : lt t b a = false := decide_eq_false c2
      have HR : Hid (cmp t a b = 0) := HE.out.trans ((if_neg c1).trans (if_neg c2))
      clear c1 c2 HE
      go_enter Try.func96, Try.ntmps96
      go_wp2_with fail
      refine (less1_any B A c t a b _ hn H.out.1 H.out.2).mono ?_
      rintro e w' ⟨rfl, rfl⟩
      rw [e1]
      clear e1
      go_wp2_with fail
      refine (less1_any B A c t b a _ hn H.out.1.drew (Kd.C_drew H.out.2)).mono ?_
      rintro e w' ⟨rfl, rfl⟩
      rw [e2]
      clear e2
      go_wp2
      go_ret
      exact ⟨by rw [HR.out]; rfl, 2, rfl⟩
end Go.Proofs.Ytjlcebgfknfelaa.Less

namespace Go.Proofs.Ytjlcebgfknfelaa.Avl
open Go Go.RowKit Go.Proofs.Ytjlcebgfknfelaa.Hk Go.Proofs.Ytjlcebgfknfelaa.AvlPure Go.Proofs.Ytjlcebgfknfelaa.Less
theorem reb_any (t : N) (w : World) (hin : t.In w) (nd : t.ids.Nodup) (hp : ∀ b k v h l r, t = .node b k v h l r → Part l ∧ Part r) :
    Calls Try.prog 58 #[t.ptr] w (Done t w) := by
  cases t with
  | nil => exact reb_nil w
  | node b k v h l r =>
    obtain ⟨pl, pr⟩ := hp b k v h l r rfl
    show Calls Try.prog 58 #[.pointer (some ⟨b, 0, none⟩)] w _
    have bl := pl.hb
    have br := pr.hb
    by_cases c1 : l.raw.ht - r.raw.ht ≤ -2
    · cases r with
      | nil => simp only [N.raw, T.ht] at c1 bl; omega
      | node b2 k2 v2 h2 rl rr =>
        have p1 := pr.left.hb
        have p2 := pr.rght.hb
        by_cases c2 : rl.raw.ht > rr.raw.ht
        · cases rl with
          | nil => simp only [N.raw, T.ht] at c2 p2; omega
          | node b3 k3 v3 h3 x y => exact reb_L2 b k v h l b2 k2 v2 h2 b3 k3 v3 h3 x y rr w hin nd pl pr c1 c2
        · exact reb_L1 b k v h l b2 k2 v2 h2 rl rr w hin nd pl pr c1 c2
    · by_cases c3 : l.raw.ht - r.raw.ht ≥ 2
      · cases l with
        | nil => simp only [N.raw, T.ht] at c3 br; omega
        | node b2 k2 v2 h2 ll lr =>
          have p1 := pl.left.hb
          have p2 := pl.rght.hb
          by_cases c2 : lr.raw.ht > ll.raw.ht
          · cases lr with
            | nil => simp only [N.raw, T.ht] at c2 p1; omega
            | node b3 k3 v3 h3 x y => exact reb_R2 b k v h b2 k2 v2 h2 ll b3 k3 v3 h3 x y r w hin nd pl pr c3 c2
          · exact reb_R1 b k v h b2 k2 v2 h2 ll lr r w hin nd pl pr c3 c2
      · exact reb_keep b k v h l r w hin nd pl pr c1 c3
/-- An order that stays as_ long as_ nothing below 'base' turns. -/
def LessS (base : Nat) (w : World) (v : Value) (t : List Int) : Prop := ∀ w', Below base w w' → LessV w' v t
theorem LessS.now {base : Nat} {w : World} {v : Value} {t : List Int} (h : LessS base w v t) : LessV w v t := h w (Below.refl _ _)
theorem LessS.to {base : Nat} {w w1 : World} {v : Value} {t : List Int} (h : LessS base w v t) (hb : Below base w w1) : LessS base w1 v t := fun w' hw => h w' (hb.trans hw)
theorem LessS.drewN {base : Nat} {w : World} {v : Value} {t : List Int} (h : LessS base w v t) (n : Nat) : LessS base (w.drewN n) v t := h.to ⟨rfl, rfl, rfl, Nat.le_refl _, fun _ _ => rfl⟩
theorem LessS.of {w : World} {v : Value} {t : List Int} (h : LessV w v t) : LessS w.heap.size w v t := fun _ hb => h.below hb
theorem fr_drewN {S : Nat → Prop} {a w : World} (h : Fr S a w) (n : Nat) : Fr S a (w.drewN n) := ⟨h.os, h.tape, h.output, h.size, h.block⟩
theorem N.In.drewN {w : World} {t : N} (h : t.In w) (n : Nat) : t.In (w.drewN n) := N.In.heap (w := w) (w' := w.drewN n) rfl h
theorem blk_drewN {w : World} {b : Nat} {cs : Array Value} {t : TypeId} (h : Blk w b cs t) (n : Nat) : Blk (w.drewN n) b cs t := h
/-- A balanced tree with right heights, not too high, all of whose nodes lie from 'base' on. -/
structure Good (base : Nat) (w : World) (t : N) : Prop where
  mem : t.In w
  nodup : t.ids.Nodup
  above : ∀ b ∈ t.ids, base ≤ b
  right : T.Right t.raw
  even : T.Even t.raw
theorem Good.part {base : Nat} {w : World} {t : N} (h : Good base w t) (hl : t.raw.tall ≤ 4294960000) : Part t := ⟨h.right, hl⟩
theorem Good.lf {base : Nat} {w : World} {b : Nat} {k v h : Int} {l r : N} (g : Good base w (.node b k v h l r)) : Good base w l :=
  ⟨g.mem.2.1, (nodup_node g.nodup).2.2.1, fun x hx => g.above x (by simp [N.ids, hx]), g.right.2.1, g.even.2.2.1⟩
theorem Good.rt {base : Nat} {w : World} {b : Nat} {k v h : Int} {l r : N} (g : Good base w (.node b k v h l r)) : Good base w r :=
  ⟨g.mem.2.2, (nodup_node g.nodup).2.2.2.1, fun x hx => g.above x (by simp [N.ids, hx]), g.right.2.2, g.even.2.2.2⟩
theorem Good.drewN {base : Nat} {w : World} {t : N} (g : Good base w t) (n : Nat) : Good base (w.drewN n) t := ⟨g.mem.drewN n, g.nodup, g.above, g.right, g.even⟩
theorem Good.fr {base : Nat} {w w' : World} {t : N} {S : Nat → Prop} (g : Good base w t) (hf : Fr S w w') (hn : ∀ b ∈ t.ids, ¬ S b) : Good base w' t := ⟨N.In.fr hf g.mem hn, g.nodup, g.above, g.right, g.even⟩
/-- What a change of a tree leaves. -/
structure Put (base : Nat) (t t' : N) (w w' : World) : Prop where
  mem : t'.In w'
  nodup : t'.ids.Nodup
  ids : ∀ b ∈ t'.ids, b ∈ t.ids ∨ w.heap.size ≤ b
  fr : Fr (· ∈ t.ids) w w'
/-- A node of which the left part has been changed, and the pointer to it stored: what the step at its root then leaves. -/
theorem step_left {base : Nat} {b : Nat} {k v h : Int} {l r l' : N} {w w1 w3 : World} {t' : N} (g : Good base w (.node b k v h l r)) (hp : Put base l l' w w1)
    (hd : t'.In w3 ∧ t'.ids.Perm (N.node b k v h l' r).ids ∧ Fr (· ∈ (N.node b k v h l' r).ids) (w1.setCell ⟨b, 3, none⟩ l'.ptr) w3) : Put base (.node b k v h l r) t' w w3 := by
  obtain ⟨n1, n2, n3, n4, n5⟩ := nodup_node g.nodup
  have hlt := N.In.lt g.mem
  have nd : (N.node b k v h l' r).ids.Nodup := nodup_mk (fun hm => (hp.ids b hm).elim n1 (fun hq => by have := hlt b (by simp [N.ids]); omega)) n2 hp.nodup n4
    (fun x hx hy => (hp.ids x hx).elim (fun hq => n5 x hq hy) (fun hq => by have := hlt x (by simp [N.ids, hy]); omega))
  refine ⟨hd.1, hd.2.1.nodup_iff.2 nd, fun x hx => ?_, ?_⟩
  · rcases List.mem_cons.1 (hd.2.1.mem_iff.1 hx) with e | e
    · rw [e]; left; simp [N.ids]
    · rcases List.mem_append.1 e with e | e
      · exact (hp.ids x e).imp (fun q => by simp [N.ids, q]) id
      · left; simp [N.ids, e]
  · have f1 : Fr (· ∈ (N.node b k v h l r).ids) w w1 := hp.fr.mono (fun n _ q => by simp [N.ids, q])
    have f2 : Fr (· ∈ (N.node b k v h l r).ids) w (w1.setCell ⟨b, 3, none⟩ l'.ptr) := f1.setCell (p := ⟨b, 3, none⟩) (fun _ => by simp [N.ids]) _
    refine f2.trans hd.2.2 (fun n hn q => ?_)
    rcases List.mem_cons.1 q with e | e
    · rw [e]; simp [N.ids]
    · rcases List.mem_append.1 e with e | e
      · exact (hp.ids n e).elim (fun z => by simp [N.ids, z]) (fun z => by omega)
      · simp [N.ids, e]
theorem step_right {base : Nat} {b : Nat} {k v h : Int} {l r r' : N} {w w1 w3 : World} {t' : N} (g : Good base w (.node b k v h l r)) (hp : Put base r r' w w1)
    (hd : t'.In w3 ∧ t'.ids.Perm (N.node b k v h l r').ids ∧ Fr (· ∈ (N.node b k v h l r').ids) (w1.setCell ⟨b, 4, none⟩ r'.ptr) w3) : Put base (.node b k v h l r) t' w w3 := by
  obtain ⟨n1, n2, n3, n4, n5⟩ := nodup_node g.nodup
  have hlt := N.In.lt g.mem
  have nd : (N.node b k v h l r').ids.Nodup := nodup_mk n1 (fun hm => (hp.ids b hm).elim n2 (fun hq => by have := hlt b (by simp [N.ids]); omega)) n3 hp.nodup
    (fun x hx hy => (hp.ids x hy).elim (fun hq => n5 x hx hq) (fun hq => by have := hlt x (by simp [N.ids, hx]); omega))
  refine ⟨hd.1, hd.2.1.nodup_iff.2 nd, fun x hx => ?_, ?_⟩
  · rcases List.mem_cons.1 (hd.2.1.mem_iff.1 hx) with e | e
    · rw [e]; left; simp [N.ids]
    · rcases List.mem_append.1 e with e | e
      · left; simp [N.ids, e]
      · exact (hp.ids x e).imp (fun q => by simp [N.ids, q]) id
  · have f1 : Fr (· ∈ (N.node b k v h l r).ids) w w1 := hp.fr.mono (fun n _ q => by simp [N.ids, q])
    have f2 : Fr (· ∈ (N.node b k v h l r).ids) w (w1.setCell ⟨b, 4, none⟩ r'.ptr) := f1.setCell (p := ⟨b, 4, none⟩) (fun _ => by simp [N.ids]) _
    refine f2.trans hd.2.2 (fun n hn q => ?_)
    rcases List.mem_cons.1 q with e | e
    · rw [e]; simp [N.ids]
    · rcases List.mem_append.1 e with e | e
      · simp [N.ids, e]
      · exact (hp.ids n e).elim (fun z => by simp [N.ids, z]) (fun z => by omega)
/-- The node behind the store of a changed left part. -/
theorem mem_left {base : Nat} {b : Nat} {k v h : Int} {l r l' : N} {w w1 : World} (g : Good base w (.node b k v h l r)) (hp : Put base l l' w w1) :
    (N.node b k v h l' r).In (w1.setCell ⟨b, 3, none⟩ l'.ptr) ∧ (N.node b k v h l' r).ids.Nodup ∧ Blk w1 b #[.int .i64 k, .int .i64 v, .int .i64 h, l.ptr, r.ptr] 119 := by
  obtain ⟨n1, n2, n3, n4, n5⟩ := nodup_node g.nodup
  have hlt := N.In.lt g.mem
  have hb1 : b ∉ l'.ids := fun hm => (hp.ids b hm).elim n1 (fun hq => by have := hlt b (by simp [N.ids]); omega)
  have B1 : Blk w1 b #[.int .i64 k, .int .i64 v, .int .i64 h, l.ptr, r.ptr] 119 := g.mem.1.fr hp.fr n1
  have f2 : Fr (· = b) w1 (w1.setCell ⟨b, 3, none⟩ l'.ptr) := Fr.setCell (S := (· = b)) (Fr.refl _ _) (p := ⟨b, 3, none⟩) (fun _ => rfl) _
  refine ⟨⟨B1.set 3 _, N.In.fr f2 hp.mem (fun x hx e => hb1 (e ▸ hx)), N.In.fr f2 (N.In.fr hp.fr g.mem.2.2 (fun x hx hy => n5 x hy hx)) (fun x hx e => n2 (e ▸ hx))⟩, ?_, B1⟩
  exact nodup_mk hb1 n2 hp.nodup n4 (fun x hx hy => (hp.ids x hx).elim (fun hq => n5 x hq hy) (fun hq => by have := hlt x (by simp [N.ids, hy]); omega))
theorem mem_right {base : Nat} {b : Nat} {k v h : Int} {l r r' : N} {w w1 : World} (g : Good base w (.node b k v h l r)) (hp : Put base r r' w w1) :
    (N.node b k v h l r').In (w1.setCell ⟨b, 4, none⟩ r'.ptr) ∧ (N.node b k v h l r').ids.Nodup ∧ Blk w1 b #[.int .i64 k, .int .i64 v, .int .i64 h, l.ptr, r.ptr] 119 := by
  obtain ⟨n1, n2, n3, n4, n5⟩ := nodup_node g.nodup
  have hlt := N.In.lt g.mem
  have hb1 : b ∉ r'.ids := fun hm => (hp.ids b hm).elim n2 (fun hq => by have := hlt b (by simp [N.ids]); omega)
  have B1 : Blk w1 b #[.int .i64 k, .int .i64 v, .int .i64 h, l.ptr, r.ptr] 119 := g.mem.1.fr hp.fr n2
  have f2 : Fr (· = b) w1 (w1.setCell ⟨b, 4, none⟩ r'.ptr) := Fr.setCell (S := (· = b)) (Fr.refl _ _) (p := ⟨b, 4, none⟩) (fun _ => rfl) _
  refine ⟨⟨B1.set 4 _, N.In.fr f2 (N.In.fr hp.fr g.mem.2.1 (fun x hx hy => n5 x hx hy)) (fun x hx e => n1 (e ▸ hx)), N.In.fr f2 hp.mem (fun x hx e => hb1 (e ▸ hx))⟩, ?_, B1⟩
  exact nodup_mk n1 hb1 n3 hp.nodup (fun x hx hy => (hp.ids x hy).elim (fun hq => n5 x hx hq) (fun hq => by have := hlt x (by simp [N.ids, hx]); omega))
theorem cmp_lt {t : List Int} {a b : Int} (h : rankOf t a < rankOf t b) : cmp t a b = -1 := if_pos h
theorem cmp_gt {t : List Int} {a b : Int} (h : rankOf t b < rankOf t a) : cmp t a b = 1 := by unfold cmp; rw [if_neg (by omega), if_pos h]
theorem cmp_eq {t : List Int} {a b : Int} (h : ¬ rankOf t a < rankOf t b) (h' : ¬ rankOf t b < rankOf t a) : cmp t a b = 0 := by unfold cmp; rw [if_neg h, if_neg h']
/-- What add leaves. -/
def Added (base : Nat) (tb : List Int) (key val : Int) (t : N) (w : World) (e : Ending) (w' : World) : Prop :=
  ∃ t' : N, e = .returned t'.ptr ∧ t'.raw = T.ins (rankOf tb) key val t.raw ∧ Put base t t' w w'
theorem add_nil (base : Nat) (tb : List Int) (key val : Int) (lv : Value) (w : World) :
    Calls Try.prog 83 #[.pointer none, .int .i64 key, .int .i64 val, lv] w (Added base tb key val .nil w) := by
  go_enter Try.func83, Try.ntmps83
  go_wp2_with fail
  go_ret
  exact ⟨.node w.heap.size key val 1 .nil .nil, rfl, rfl, ⟨Blk.new w _ _, trivial, trivial⟩, by simp [N.ids], fun b hb => .inr (by simp [N.ids] at hb; omega), (Fr.refl _ _).alloc _⟩
set_option maxHeartbeats 1600000 in
theorem add_any (base : Nat) (tb : List Int) (key val : Int) (lv : Value) : ∀ (t : N) (w : World), Good base w t → t.raw.tall ≤ 4294950000 → base ≤ w.heap.size → LessS base w lv tb →
    Calls Try.prog 83 #[t.ptr, .int .i64 key, .int .i64 val, lv] w (Added base tb key val t w)
  | .nil, w, _, _, _, _ => add_nil base tb key val lv w
  | .node b k v h l r, w, g, ht, hbs, hL => by
    have tn : (N.node b k v h l r).raw.tall = 1 + max l.raw.tall r.raw.tall := rfl
    have tl := T.tall_nonneg l.raw
    have tr := T.tall_nonneg r.raw
    have HG : Hid (Good base w (.node b k v h l r)) := g
    have HL : Hid (LessS base w lv tb) := hL
    have c0 : w.cell? ⟨b, 0, none⟩ = some (.int .i64 k) := g.mem.1.cell 0
    have c3 : w.cell? ⟨b, 3, none⟩ = some l.ptr := g.mem.1.cell 3
    have c4 : w.cell? ⟨b, 4, none⟩ = some r.ptr := g.mem.1.cell 4
    have HT : Hid (l.raw.tall ≤ 4294950000 ∧ r.raw.tall ≤ 4294950000) := ⟨by omega, by omega⟩
    clear g hL
    show Calls Try.prog 83 #[.pointer (some ⟨b, 0, none⟩), .int .i64 key, .int .i64 val, lv] w _
    by_cases h1 : rankOf tb key < rankOf tb k
    · have HC : Hid (cmp tb key k = -1) := cmp_lt h1
      have HR : Hid (T.ins (rankOf tb) key val (N.node b k v h l r).raw = T.reb (.node k v h (T.ins (rankOf tb) key val l.raw) r.raw)) := if_pos h1
      clear h1 ht tn tl tr
      go_enter Try.func83, Try.ntmps83
      go_wp2_with fail
      refine (compare_any lv tb key k _ HL.out.now).mono ?_
      rintro e w1 ⟨rfl, n, rfl⟩
      rw [HC.out]
      go_wp2_with fail
      refine (add_any base tb key val lv l (w.drewN n) (HG.out.lf.drewN n) HT.out.1 (by simpa using hbs) (HL.out.drewN n)).mono ?_
      rintro e w1 ⟨l', rfl, hraw, hput⟩
      have hput' : Put base l l' w w1 := ⟨hput.mem, hput.nodup, hput.ids, ⟨hput.fr.os, hput.fr.tape, hput.fr.output, hput.fr.size, hput.fr.block⟩⟩
      obtain ⟨m1, m2, B1⟩ := mem_left HG.out hput'
      have d3 : w1.cell? ⟨b, 3, none⟩ = some l.ptr := B1.cell 3
      have f3 : w1.frozen? ⟨b, 3, none⟩ = false := B1.free 3
      have HM : Hid ((N.node b k v h l' r).In (w1.setCell ⟨b, 3, none⟩ l'.ptr) ∧ (N.node b k v h l' r).ids.Nodup ∧ l'.raw = T.ins (rankOf tb) key val l.raw ∧ Put base l l' w w1) := ⟨m1, m2, hraw, hput'⟩
      obtain ⟨u, hu⟩ := l'.ptr_some
      rw [hu] at HM ⊢
      have HU : Hid (l'.ptr = .pointer u) := hu
      clear m1 m2 B1 hraw hput hput' hu
      go_wp2_with fail
      refine (reb_any (.node b k v h l' r) _ HM.out.1 HM.out.2.1 (fun b' k' v' h' l2 r2 e => ?_)).mono ?_
      · injection e with e1 e2 e3 e4 e5 e6
        subst e5 e6
        exact ⟨⟨by rw [HM.out.2.2.1]; exact T.right_ins _ _ _ HG.out.lf.right, by
          rw [HM.out.2.2.1]
          have := (T.even_ins (rankOf tb) key val HG.out.lf.right HG.out.lf.even).2
          have := HT.out
          omega⟩, HG.out.rt.part (by have := HT.out; omega)⟩
      rintro e w3 ⟨t', rfl, i1, i2, i3, i4⟩
      have HD : Hid (t'.In w3 ∧ t'.raw = T.reb (N.node b k v h l' r).raw ∧ t'.ids.Perm (N.node b k v h l' r).ids ∧ Fr (· ∈ (N.node b k v h l' r).ids) (w1.setCell ⟨b, 3, none⟩ (.pointer u)) w3) := ⟨i1, i2, i3, i4⟩
      clear i1 i2 i3 i4
      go_wp2_with fail
      go_ret
      obtain ⟨i1, i2, i3, i4⟩ := HD.out
      rw [← HU.out] at i4
      exact ⟨t', rfl, by rw [i2, HR.out]; show T.reb (.node k v h l'.raw r.raw) = _; rw [HM.out.2.2.1], step_left HG.out HM.out.2.2.2 ⟨i1, i3, i4⟩⟩
    · have h1' : ¬ rankOf tb key < rankOf tb k := h1
      by_cases h2 : rankOf tb k < rankOf tb key
      · have HC : Hid (cmp tb key k = 1) := cmp_gt h2
        have HR : Hid (T.ins (rankOf tb) key val (N.node b k v h l r).raw = T.reb (.node k v h l.raw (T.ins (rankOf tb) key val r.raw))) := (if_neg h1).trans (if_pos h2)
        clear h1 h1' h2 ht tn tl tr
        go_enter Try.func83, Try.ntmps83
        go_wp2_with fail
        refine (compare_any lv tb key k _ HL.out.now).mono ?_
        rintro e w1 ⟨rfl, n, rfl⟩
        rw [HC.out]
        go_wp2_with fail
        refine (compare_any lv tb key k _ (HL.out.drewN n).now).mono ?_
        rintro e w1 ⟨rfl, n', rfl⟩
        rw [HC.out]
        go_wp2_with fail
        refine (add_any base tb key val lv r (w.drewN (n + n')) (HG.out.rt.drewN (n + n')) HT.out.2 (by simpa using hbs) (HL.out.drewN (n + n'))).mono ?_
        rintro e w1 ⟨r', rfl, hraw, hput⟩
        have hput' : Put base r r' w w1 := ⟨hput.mem, hput.nodup, hput.ids, ⟨hput.fr.os, hput.fr.tape, hput.fr.output, hput.fr.size, hput.fr.block⟩⟩
        obtain ⟨m1, m2, B1⟩ := mem_right HG.out hput'
        have d4 : w1.cell? ⟨b, 4, none⟩ = some r.ptr := B1.cell 4
        have f4 : w1.frozen? ⟨b, 4, none⟩ = false := B1.free 4
        have HM : Hid ((N.node b k v h l r').In (w1.setCell ⟨b, 4, none⟩ r'.ptr) ∧ (N.node b k v h l r').ids.Nodup ∧ r'.raw = T.ins (rankOf tb) key val r.raw ∧ Put base r r' w w1) := ⟨m1, m2, hraw, hput'⟩
        obtain ⟨u, hu⟩ := r'.ptr_some
        rw [hu] at HM ⊢
        have HU : Hid (r'.ptr = .pointer u) := hu
        clear m1 m2 B1 hraw hput hput' hu
        go_wp2_with fail
        refine (reb_any (.node b k v h l r') _ HM.out.1 HM.out.2.1 (fun b' k' v' h' l2 r2 e => ?_)).mono ?_
        · injection e with e1 e2 e3 e4 e5 e6
          subst e5 e6
          exact ⟨HG.out.lf.part (by have := HT.out; omega), ⟨by rw [HM.out.2.2.1]; exact T.right_ins _ _ _ HG.out.rt.right, by
            rw [HM.out.2.2.1]
            have := (T.even_ins (rankOf tb) key val HG.out.rt.right HG.out.rt.even).2
            have := HT.out
            omega⟩⟩
        rintro e w3 ⟨t', rfl, i1, i2, i3, i4⟩
        have HD : Hid (t'.In w3 ∧ t'.raw = T.reb (N.node b k v h l r').raw ∧ t'.ids.Perm (N.node b k v h l r').ids ∧ Fr (· ∈ (N.node b k v h l r').ids) (w1.setCell ⟨b, 4, none⟩ (.pointer u)) w3) := ⟨i1, i2, i3, i4⟩
        clear i1 i2 i3 i4
        go_wp2_with fail
        go_ret
        obtain ⟨i1, i2, i3, i4⟩ := HD.out
        rw [← HU.out] at i4
        exact ⟨t', rfl, by rw [i2, HR.out]; show T.reb (.node k v h l.raw r'.raw) = _; rw [HM.out.2.2.1], step_right HG.out HM.out.2.2.2 ⟨i1, i3, i4⟩⟩
      · have HC : Hid (cmp tb key k = 0) := cmp_eq h1 h2
        have HR : Hid (T.ins (rankOf tb) key val (N.node b k v h l r).raw = T.reb (.node k val h l.raw r.raw)) := (if_neg h1).trans (if_neg h2)
        have f1 : w.frozen? ⟨b, 1, none⟩ = false := HG.out.mem.1.free 1
        have c1 : w.cell? ⟨b, 1, none⟩ = some (.int .i64 v) := HG.out.mem.1.cell 1
        clear h1 h1' h2 ht tn tl tr
        go_enter Try.func83, Try.ntmps83
        go_wp2_with fail
        refine (compare_any lv tb key k _ HL.out.now).mono ?_
        rintro e w1 ⟨rfl, n, rfl⟩
        rw [HC.out]
        go_wp2_with fail
        refine (compare_any lv tb key k _ (HL.out.drewN n).now).mono ?_
        rintro e w1 ⟨rfl, n', rfl⟩
        rw [HC.out]
        go_wp2_with fail
        have F1 : Fr (· = b) w (w.setCell ⟨b, 1, none⟩ (.int .i64 val)) := Fr.setCell (S := (· = b)) (Fr.refl _ _) (p := ⟨b, 1, none⟩) (fun _ => rfl) _
        have M1 : (N.node b k val h l r).In (w.setCell ⟨b, 1, none⟩ (.int .i64 val)) :=
          ⟨HG.out.mem.1.set 1 _, N.In.fr F1 HG.out.mem.2.1 (fun x hx e => (nodup_node HG.out.nodup).1 (e ▸ hx)), N.In.fr F1 HG.out.mem.2.2 (fun x hx e => (nodup_node HG.out.nodup).2.1 (e ▸ hx))⟩
        refine (reb_any (.node b k val h l r) _ (M1.drewN (n + n')) HG.out.nodup (fun b' k' v' h' l2 r2 e => ?_)).mono ?_
        · injection e with e1 e2 e3 e4 e5 e6
          subst e5 e6
          exact ⟨HG.out.lf.part (by have := HT.out; omega), HG.out.rt.part (by have := HT.out; omega)⟩
        rintro e w3 ⟨t', rfl, i1, i2, i3, i4⟩
        have HD : Hid (t'.In w3 ∧ t'.raw = T.reb (N.node b k val h l r).raw ∧ t'.ids.Perm (N.node b k val h l r).ids ∧ Fr (· ∈ (N.node b k val h l r).ids) ((w.setCell ⟨b, 1, none⟩ (.int .i64 val)).drewN (n + n')) w3 ∧ Fr (· = b) w (w.setCell ⟨b, 1, none⟩ (.int .i64 val))) := ⟨i1, i2, i3, i4, F1⟩
        clear i1 i2 i3 i4 F1 M1
        go_wp2_with fail
        go_ret
        obtain ⟨i1, i2, i3, i4, i5⟩ := HD.out
        exact ⟨t', rfl, by rw [i2, HR.out]; rfl, i1, i3.nodup_iff.2 HG.out.nodup, fun x hx => .inl (i3.mem_iff.1 hx), ((fr_drewN i5 (n + n')).mono (fun x _ e => by rw [e]; simp [N.ids])).trans i4 (fun _ _ h => h)⟩
end Go.Proofs.Ytjlcebgfknfelaa.Avl
