/- What the law's row stands on, part 0: contracts of functions, for the arguments and worlds that each one names. -/
import Derived.Below
import Derived.Deep.Draws
import Derived.Deep.AppendLies
import Derived.Maps.AppendAt
import Derived.OwnWalk
import Derived.Laws.BytesArg
import Derived.Laws.MakeOwn
import Derived.Laws.OwnMore
import Derived.Deep.OwnRows
import Derived.Tactics
import Derived.Lib.ConvBytes
import Derived.Laws.Slices
import Derived.WalkKit
import Derived.KernelRfl
import Derived.RowKit3
import Derived.Deep.LoopGhost
import Derived.Deep.QuietTactic
import Derived.BigQuiet
import Derived.WideLaws
import Derived.Deep.DeepCutAuto
import Derived.Deep.CutBlock
import Derived.Deep.RegionHeld3
import Derived.Laws.Rows
import Derived.Lib.AppendStr
import Derived.ArgAppend
import Derived.Laws.IdiomCopy
import Derived.RowKit
import Derived.OrdersHeld
import Derived.Laws.BitsLemmas
import Derived.Laws.StructEq
import Derived.Test.YtkgbflcbeeghoaaProg
import Derived.Laws.Cover1
import Derived.OneCell
import Derived.Laws.World
import Derived.StillTailTactics
-- PRINTED BY print.sh 35421559b90ae4d0a3588c463048766b98c2df88dd9212a6774a882060cdf62d: not written by this session
-- PRINTED WORDS (module Derived/Print/Words.lean): go-wishes' parts 1 to 38 and go-gate-2's additions: AI agents of Go's test side, Mon Nov 16 2026; no person has read them. Plain theorems and definitions: no macro, no elab, no axiom.
set_option linter.unusedVariables false
set_option linter.unusedSimpArgs false
namespace Go.Proofs.YtkgbflcbeeghoaaW.PrintWords
open Go.RowKit
/-- A fact that the walk's simp doesn't look into. -/
structure Aside0 (p : Prop) : Prop where mk :: (out : p)
/-- The world is the old one, some orders having been drawn. -/
structure Drawn0 (w w' : World) : Prop where mk :: (out : ∃ n, w' = w.drewN n)
theorem Drawn0.refl (w : World) : Drawn0 w w := ⟨⟨0, rfl⟩⟩
theorem Drawn0.step {w w' : World} (h : Drawn0 w w') (n : Nat) : Drawn0 w (w'.drewN n) := by
  obtain ⟨m, rfl⟩ := h
  exact ⟨⟨m + n, World.drewN_drewN ..⟩⟩
theorem Drawn0.grown {w w' : World} (h : Drawn0 w w') : Grown w w' := by
  obtain ⟨n, rfl⟩ := h
  induction n with
  | zero => exact Grown.refl _
  | succ n ih => rw [← World.drew_drewN]; exact Grown.drew ih
theorem Drawn0.below {w w' : World} (h : Drawn0 w w') : Below w.heap.size w w' := by
  obtain ⟨n, rfl⟩ := h
  induction n with
  | zero => exact Below.refl _ _
  | succ n ih => rw [← World.drew_drewN]; exact ih.drew
def rd (xs : List Int) (i : Int) : Int := xs.getD i.toNat 0
theorem below_alloc {w W : World} (h : Below w.heap.size w W) (o : Obj) : Below w.heap.size w (W.alloc o) := h.alloc h.size o
theorem below_drew {B : Nat} {w W : World} (h : Below B w W) : Below B w W.drew := ⟨h.os, h.tape, h.output, h.size, h.block⟩
theorem pw_below_drewN {B : Nat} {w W : World} (h : Below B w W) (n : Nat) : Below B w (W.drewN n) := ⟨h.os, h.tape, h.output, h.size, h.block⟩
theorem below_then {B : Nat} {w w1 w2 : World} (h : Below B w w1) (hB : B ≤ w1.heap.size) (k : Below w1.heap.size w1 w2) : Below B w w2 :=
  h.trans ⟨k.os, k.tape, k.output, k.size, fun i hi => k.block i (Nat.lt_of_lt_of_le hi hB)⟩
theorem grown_of_below {w w1 : World} (h : Below w.heap.size w w1) (row : Option Nat) : w.grownBy w1 row := ⟨h.os, h.tape, h.output, h.size, fun i hi _ => h.block i hi⟩
theorem pw_cell_below {w w1 : World} (h : Below w.heap.size w w1) {a : Addr} {v : Value} (hc : w.cell? a = some v) : w1.cell? a = some v := (h.cell (World.block_lt_of_cell? w a hc)).trans hc
theorem add_plain (g j : Nat) : (⟨g, 0, none⟩ : Addr).add j = ⟨g, j, none⟩ := by unfold Addr.add; split <;> simp_all
def ReadsInt (w : World) (k : IntKind) (A : Option Addr) (n : Nat) (xs : List Int) : Prop :=
  xs.length = n ∧ n ≤ 9223372036854775807 ∧ (0 < n → ∃ ad, A = some ad ∧ ∀ j, j < n → w.cell? (ad.add j) = some (.int k (xs.getD j 0)))
theorem ReadsInt.at_ {w : World} {k : IntKind} {A : Option Addr} {n : Nat} {xs : List Int} (h : ReadsInt w k A n xs) (i : Int) (h0 : 0 ≤ i) (h1 : i < n) : ∃ ad, A = some ad ∧ w.cell? (ad.add i.toNat) = some (.int k (rd xs i)) := by
  obtain ⟨ad, e, hc⟩ := h.2.2 (by omega)
  exact ⟨ad, e, hc _ (by omega)⟩
theorem ReadsInt.below {w w1 : World} {k : IntKind} {A : Option Addr} {n : Nat} {xs : List Int} (h : ReadsInt w k A n xs) (hb : Below w.heap.size w w1) : ReadsInt w1 k A n xs :=
  ⟨h.1, h.2.1, fun hn => by
    obtain ⟨ad, e, hc⟩ := h.2.2 hn
    exact ⟨ad, e, fun j hj => pw_cell_below hb (hc j hj)⟩⟩
theorem own_nil (W : World) (base : Nat) (e : TypeId) (size : Nat) : W.ownsRow base e size (.slice none 0 0) 0 [] := ⟨by simp, .inl ⟨rfl, rfl⟩⟩
theorem own_base {w : World} {base : Nat} {e : TypeId} {size n : Nat} {v : Value} {xs : List Value} (h : w.ownsRow base e size v n xs) (k : Nat) (hk : v.ownBlock = some k) : base ≤ k := by
  rcases h.2 with ⟨rfl, _⟩ | ⟨g, cap, cur, rfl, hb, _⟩
  · simp [Value.ownBlock] at hk
  · have : g = k := by simpa [Value.ownBlock] using hk
    omega
theorem own_lt {w : World} {base : Nat} {e : TypeId} {size n : Nat} {v : Value} {xs : List Value} (h : w.ownsRow base e size v n xs) (k : Nat) (hk : v.ownBlock = some k) : k < w.heap.size := by
  rcases h.2 with ⟨rfl, _⟩ | ⟨g, cap, cur, rfl, hb, hh, _⟩
  · simp [Value.ownBlock] at hk
  · have : g = k := by simpa [Value.ownBlock] using hk
    subst this
    exact (Array.getElem?_eq_some_iff.1 hh).1
theorem pw_own_below {w w1 : World} {base : Nat} {e : TypeId} {size n : Nat} {v : Value} {xs : List Value} (h : w.ownsRow base e size v n xs) (hb : Below w.heap.size w w1) : w1.ownsRow base e size v n xs :=
  h.kept (grown_of_below hb none) (by cases v.ownBlock <;> simp)
/-- What is written is another row: this one lives on. -/
theorem own_other {w w1 : World} {base : Nat} {e : TypeId} {size n : Nat} {v : Value} {xs : List Value} (h : w.ownsRow base e size v n xs) {row : Option Nat} (hg : w.grownBy w1 row) (hne : v.ownBlock = none ∨ v.ownBlock ≠ row) : w1.ownsRow base e size v n xs := h.kept hg hne
section
variable {P : Program} {ops : Array Oper} {rest : List Oper} {o : Oper} {a : Act} {Q : Exit → Act → World → Prop}
end
section
variable {P : Program}
end
section
variable {P : Program} {ops : Array Oper} {rest : List Oper} {o : Oper} {a : Act} {Q : Exit → Act → World → Prop}
end
theorem bytes_below {B : Nat} {w W : World} (h : Below B w W) (hB : B ≤ W.heap.size) (e : TypeId) (s : ByteArray) : Below B w (Lib.bytesWorld W e s) :=
  h.trans ⟨rfl, rfl, rfl, by rw [Lib.bytesWorld_size]; omega, fun i hi => Lib.bytesWorld_at_old W e s i (by omega)⟩
/-- 'xs[:k]' and 'xs[k:]' of a slice that is read; the address of the second as_ the walk has it. -/
theorem ReadsInt.take_ {w : World} {k : IntKind} {A : Option Addr} {n : Nat} {xs : List Int} (h : ReadsInt w k A n xs) (i : Nat) (hi : i ≤ n) : ReadsInt w k A i (xs.take i) := by
  refine ⟨by rw [List.length_take, h.1]; omega, by have := h.2.1; omega, fun hp => ?_⟩
  obtain ⟨ad, e, hc⟩ := h.2.2 (by omega)
  refine ⟨ad, e, fun j hj => ?_⟩
  rw [hc j (by omega)]
  simp [List.getD_eq_getElem?_getD, hj]
theorem ReadsInt.drop_ {w : World} {k : IntKind} {A : Option Addr} {n c : Nat} {xs : List Int} (h : ReadsInt w k A n xs) (i : Nat) (hi : i ≤ n) (hc : n ≤ c) : ReadsInt w k (if c = i then A else A.map (·.add i)) (n - i) (xs.drop i) := by
  refine ⟨by rw [List.length_drop, h.1], by have := h.2.1; omega, fun hp => ?_⟩
  obtain ⟨ad, rfl, hcell⟩ := h.2.2 (by omega)
  rw [if_neg (by omega)]
  refine ⟨ad.add i, rfl, fun j hj => ?_⟩
  have ha : (ad.add i).add j = ad.add (i + j) := by
    unfold Addr.add
    by_cases h1 : i = 0 <;> by_cases h2 : j = 0 <;> simp [h1, h2, Nat.add_assoc]
  rw [ha, hcell (i + j) (by omega)]
  simp [List.getD_eq_getElem?_getD, List.getElem?_drop]
/-- 'xs[m:]' WITHOUT A CASE on the capacity: 'obtain ⟨A1, hcut, hA1⟩ := print_cut ..' ahead of the walk; A1 is a letter. -/
theorem print_cut {P : Program} (t e : TypeId) (kl : IntKind) {i : TypeInfo} (ht : P.underlying t = some (.slice e)) (hi : P.info? e = some i) (hsz : i.size = 1) (A : Option Addr) (n c m : Nat) (hm : m ≤ n) :
    ∃ A' : Option Addr, (∀ W : World, (Instr.slice t (.slice A n c) (some (.int kl (m : Int))) none none).run P W = .ok (.slice A' (n - m) (c - m)) W) ∧
      ∀ (w : World) (k : IntKind) (xs : List Int), n ≤ c → ReadsInt w k A n xs → ReadsInt w k A' (n - m) (xs.drop m) := by
  refine ⟨if c = m then A else A.map (·.add m), fun W => ?_, fun w k xs hc h => h.drop_ m hm hc⟩
  have hel : P.elem t = e := by simp [Program.elem, ht]
  have hu : P.underlying t = some (.slice (P.elem t)) := by rw [hel]; exact ht
  rw [run_slice_l W t A n c hu kl (m : Int) (Int.natCast_nonneg _) (by omega), hel]
  simp [sizeOf, typeInfo, hi, hsz, sliced, Result.andThen]
/-- Where the first answers, the second answers the same. -/
def LeO {α : Type} (a b : Option α) : Prop := ∀ r, a = some r → b = some r
theorem LeO.refl {α : Type} (a : Option α) : LeO a a := fun _ h => h
theorem LeO.none {α : Type} (b : Option α) : LeO Option.none b := fun _ h => by cases h
theorem LeO.trans {α : Type} {a b c : Option α} (h : LeO a b) (k : LeO b c) : LeO a c := fun r hr => k r (h r hr)
theorem LeO.bind {α β : Type} {a a' : Option α} {f f' : α → Option β} (h : LeO a a') (k : ∀ x, LeO (f x) (f' x)) : LeO (a.bind f) (a'.bind f') := by
  intro r hr
  obtain ⟨x, hx, hf⟩ := Option.bind_eq_some_iff.1 hr
  exact Option.bind_eq_some_iff.2 ⟨x, h x hx, k x r hf⟩
theorem LeO.map {α β : Type} {a a' : Option α} (f : α → β) (h : LeO a a') : LeO (a.map f) (a'.map f) := by
  intro r hr
  obtain ⟨x, hx, hf⟩ := Option.map_eq_some_iff.1 hr
  exact Option.map_eq_some_iff.2 ⟨x, h x hx, hf⟩
theorem more_rounds {α : Type} {g : Nat → Option α} (h : ∀ k, LeO (g k) (g (k + 1))) (k : Nat) : ∀ j, LeO (g k) (g (k + j))
  | 0 => LeO.refl _
  | j + 1 => (more_rounds h k j).trans (h (k + j))
theorem at_rounds {α : Type} {g : Nat → Option α} (h : ∀ k, LeO (g k) (g (k + 1))) {k k' : Nat} (hk : k ≤ k') {r : α} (hr : g k = some r) : g k' = some r := by
  have := more_rounds h k (k' - k) r hr
  rwa [Nat.add_sub_cancel' hk] at this
def Reps {α : Type} (R : α → List Value → Prop) (size : Nat) (ps : List α) (cs : List Value) : Prop :=
  cs.length = ps.length * size ∧ ∀ j p, ps[j]? = some p → R p ((cs.drop (j * size)).take size)
theorem Reps.none {α : Type} (R : α → List Value → Prop) (size : Nat) : Reps R size [] [] := ⟨by simp, fun j p h => by simp at h⟩
theorem Reps.snoc {α : Type} {R : α → List Value → Prop} {size : Nat} {ps : List α} {cs c : List Value} {p : α} (h : Reps R size ps cs) (hp : R p c) (hc : c.length = size) : Reps R size (ps ++ [p]) (cs ++ c) := by
  refine ⟨by rw [List.length_append, h.1, hc, List.length_append, List.length_singleton, Nat.add_mul, Nat.one_mul], fun j q hq => ?_⟩
  rcases Nat.lt_or_ge j ps.length with hj | hj
  · rw [List.getElem?_append_left hj] at hq
    have h1 : j * size + size ≤ cs.length := by rw [h.1, ← Nat.succ_mul]; exact Nat.mul_le_mul_right _ hj
    have h2 := h.2 j q hq
    rw [List.drop_append_of_le_length (by omega), List.take_append_of_le_length (by rw [List.length_drop]; omega)]
    exact h2
  · have hj' : j = ps.length := by
      have := (List.getElem?_eq_some_iff.1 hq).1
      rw [List.length_append, List.length_singleton] at this
      omega
    subst hj'
    have hq' : p = q := by simpa using hq
    subst hq'
    rw [← h.1, List.drop_left, ← hc, List.take_length]
    exact hp
theorem Reps.imp_ {α : Type} {R R' : α → List Value → Prop} {size : Nat} {ps : List α} {cs : List Value} (h : Reps R size ps cs) (hR : ∀ p c, R p c → R' p c) : Reps R' size ps cs := ⟨h.1, fun j p hj => hR _ _ (h.2 j p hj)⟩
def ReadsRow {α : Type} (R : α → List Value → Prop) (size : Nat) (w : World) (A : Option Addr) (n : Nat) (ps : List α) : Prop :=
  ps.length = n ∧ n ≤ 9223372036854775807 ∧ (0 < n → ∃ ad, A = some ad ∧ ∀ j p, ps[j]? = some p → ∃ c, c.length = size ∧ R p c ∧ ∀ i u, c[i]? = some u → w.cell? (ad.add (j * size + i)) = some u)
theorem ReadsRow.get_ {α : Type} {R : α → List Value → Prop} {size : Nat} {w : World} {A : Option Addr} {n : Nat} {ps : List α} (h : ReadsRow R size w A n ps) (d : α) (i : Int) (h0 : 0 ≤ i) (h1 : i < n) :
    ∃ ad c, A = some ad ∧ c.length = size ∧ R (ps.getD i.toNat d) c ∧ ∀ j u, c[j]? = some u → w.cell? (ad.add (i.toNat * size + j)) = some u := by
  obtain ⟨ad, e, hc⟩ := h.2.2 (by omega)
  have hl : i.toNat < ps.length := by have := h.1; omega
  obtain ⟨c, hs, hr, hcell⟩ := hc i.toNat _ (List.getElem?_eq_getElem hl)
  refine ⟨ad, c, e, hs, ?_, hcell⟩
  rw [List.getD_eq_getElem?_getD, List.getElem?_eq_getElem hl]
  exact hr
theorem ReadsRow.imp_ {α : Type} {R R' : α → List Value → Prop} {size : Nat} {w w1 : World} {A : Option Addr} {n : Nat} {ps : List α} (h : ReadsRow R size w A n ps) (hb : Below w.heap.size w w1) (hR : ∀ p c, R p c → R' p c) : ReadsRow R' size w1 A n ps :=
  ⟨h.1, h.2.1, fun hn => by
    obtain ⟨ad, e, hc⟩ := h.2.2 hn
    refine ⟨ad, e, fun j p hj => ?_⟩
    obtain ⟨c, hs, hr, hcell⟩ := hc j p hj
    exact ⟨c, hs, hR _ _ hr, fun i u hu => pw_cell_below hb (hcell i u hu)⟩⟩
theorem own_reads_row {α : Type} {R : α → List Value → Prop} {w : World} {base n size : Nat} {e : TypeId} {v : Value} {ps : List α} {cs : List Value} (h : w.ownsRow base e size v n cs) (hR : Reps R size ps cs) (hn : ps.length = n) :
    ∃ A c, v = .slice A n c ∧ ReadsRow R size w A n ps := by
  rcases Nat.eq_zero_or_pos n with h0 | h0
  · rcases h.2 with ⟨rfl, rfl⟩ | ⟨g, cap, cur, rfl, _⟩
    · exact ⟨none, 0, rfl, hn, by omega, fun hp => absurd hp (by omega)⟩
    · exact ⟨_, cap, rfl, hn, by omega, fun hp => absurd hp (by omega)⟩
  · obtain ⟨g, cap, rfl, _, _⟩ := h.form h0
    have hm : n ≤ 9223372036854775807 := by
      rcases h.2 with ⟨_, h1⟩ | ⟨g', cap', cur, he, _, _, h1, h2, _⟩
      · omega
      · simp only [maxLen] at h2
        omega
    refine ⟨_, cap, rfl, hn, hm, fun _ => ⟨_, rfl, fun j p hj => ⟨(cs.drop (j * size)).take size, ?_, hR.2 j p hj, fun i u hu => ?_⟩⟩⟩
    · have hjl := (List.getElem?_eq_some_iff.1 hj).1
      have h1 : j * size + size ≤ cs.length := by rw [hR.1, ← Nat.succ_mul]; exact Nat.mul_le_mul_right _ hjl
      rw [List.length_take, List.length_drop]
      omega
    · refine h.cells (g := g) rfl _ u ?_
      rw [List.getElem?_take] at hu
      split at hu
      · rw [List.getElem?_drop] at hu
        exact hu
      · cases hu
/-- A field's address as_ the walk spells it. -/
theorem add_field (ad : Addr) (m j : Nat) (hj : 0 < j) : ad.add (m + j) = ⟨(ad.add m).block, (ad.add m).off + j, none⟩ := by
  unfold Addr.add
  by_cases hm : m = 0
  · subst hm
    simp [Nat.ne_of_gt hj]
  · simp [hm, Nat.add_assoc]
section
variable {P : Program} {ops : Array Oper} {rest : List Oper} {o : Oper} {a : Act} {Q : Exit → Act → World → Prop}
/-- append(v, x), x of several cells; behind 'at_builtin'; the goal's world is 'W.alloc' of the variadic's box. -/
theorem print_append_cells {w0 W : World} (base : Nat) (hgd : o.guard = none) (s x : Operand) (t e : TypeId) (z : Value) (size bytes : Nat)
    (ho : o.op = .call { callee := .builtin .append, args := #[s, x], argTypes := #[t, t] })
    (ht : P.underlying t = some (.slice e)) (hinfo : (P.info? e).map (fun i => (i.zero, i.size, i.bytes)) = some (some z, size, bytes)) (hz : z.cells.size = size) (hs0 : 0 < size) (hb0 : 0 < bytes)
    (v : Value) (n : Nat) (xs ys : List Value) (hs : a.eval s = v) (hx : a.eval x = .slice (some ⟨W.heap.size, 0, none⟩) 1 1) (hys : ys.length = size) (h1 : ∀ u ∈ ys, u.oneCell' = true)
    (HO : W.ownsRow base e size v n xs) (HB : Below base w0 W) (hbase : base ≤ W.heap.size) (hl : (n + 1) * bytes ≤ 140737488355328)
    (h : ∀ v1 w1, w1.ownsRow base e size v1 (n + 1) (xs ++ ys) → Below base w0 w1 → W.grownBy w1 v.ownBlock → (v1.ownBlock = v.ownBlock ∨ ∃ b, v1.ownBlock = some b ∧ W.heap.size ≤ b) → wpList P ops Q rest (a.put o.dst v1) w1) :
    wpList P ops Q (o :: rest) a (W.alloc (.cells ys.toArray e)) := by
  obtain ⟨i0, hi, hzz⟩ := Option.map_eq_some_iff.1 hinfo
  simp only [Prod.mk.injEq] at hzz
  obtain ⟨hz0, hz1, hz2⟩ := hzz
  have hlen : n + 1 ≤ 140737488355328 := Nat.le_trans (Nat.le_mul_of_pos_right _ hb0) hl
  refine wpList_append_own_at (W.alloc (.cells ys.toArray e)) hgd s x t ho base e i0 z size bytes ht hi hz0 hz1 hz2 hz hs0 v n xs hs (HO.alloc _) ⟨W.heap.size, 0, none⟩ 1 1 ys hx (by rw [hys]; simp)
    (by simpa using World.news_of_block (cs := ys.toArray) (t := e) (fr := (0, 0)) (heap_alloc_new W (.cells ys.toArray e))) h1 (by simp only [maxLen]; omega) hl (by simp; omega) ?_
  intro v1 w1 hown hg _ hat
  refine h v1 w1 hown ((HB.alloc hbase _).grown hg (by simp; omega) (own_base HO)) (World.grownBy.trans (World.grownBy_alloc W _ _) hg) ?_
  rcases hat with hat | hat
  · exact .inl hat
  · exact .inr ⟨_, hat, by simp⟩
end
theorem own_ne {w : World} {base : Nat} {e t : TypeId} {size n g : Nat} {v : Value} {xs : List Value} {cs : Array Value} (h : w.ownsRow base e size v n xs) (hg : w.heap[g]? = some (.cells cs t (0, 0))) (hne : e ≠ t) : some g ≠ v.ownBlock := by
  rcases h.2 with ⟨rfl, _⟩ | ⟨g', cap, cur, rfl, _, hh, _⟩
  · simp [Value.ownBlock]
  · intro he
    have : g = g' := by simpa [Value.ownBlock] using he
    subst this
    rw [hg] at hh
    injection hh with hh
    injection hh with _ ht
    exact hne ht.symm
theorem blk_set {w : World} {g : Nat} {t : TypeId} {cs : Array Value} (h : w.heap[g]? = some (.cells cs t (0, 0))) (i : Nat) (u : Value) : (w.setCell ⟨g, i, none⟩ u).heap[g]? = some (.cells (cs.setIfInBounds i u) t (0, 0)) := by
  simp [World.setCell, Array.getElem?_modify, h]
theorem blk_far {w : World} {g : Nat} {t : TypeId} {cs : Array Value} (h : w.heap[g]? = some (.cells cs t (0, 0))) {p : Addr} (hp : g ≠ p.block) (u : Value) : (w.setCell p u).heap[g]? = some (.cells cs t (0, 0)) := (Below.heap_setCell w p u g hp).trans h
theorem blk_lt {w : World} {g : Nat} {o : Obj} (h : w.heap[g]? = some o) : g < w.heap.size := (Array.getElem?_eq_some_iff.1 h).1
theorem blk_cell {w : World} {g : Nat} {t : TypeId} {cs : Array Value} (h : w.heap[g]? = some (.cells cs t (0, 0))) (i : Nat) : w.cell? ⟨g, i, none⟩ = cs[i]? := cell_of_row w g i cs t (0, 0) h
theorem blk_frozen {w : World} {g : Nat} {t : TypeId} {cs : Array Value} (h : w.heap[g]? = some (.cells cs t (0, 0))) (i : Nat) : w.frozen? ⟨g, i, none⟩ = false := by simp [World.frozen?, h]
theorem blk_grown {w w1 : World} {g : Nat} {o : Obj} {row : Option Nat} (h : w.heap[g]? = some o) (hg : w.grownBy w1 row) (hne : some g ≠ row) : w1.heap[g]? = some o := (hg.block g (blk_lt h) hne).trans h
def KeepBut (w w' : World) (g : Nat) (row : Option Nat) : Prop := w.heap.size ≤ w'.heap.size ∧ ∀ i, i < w.heap.size → i ≠ g → some i ≠ row → w'.heap[i]? = w.heap[i]?
theorem KeepBut.refl (w : World) (g : Nat) (row : Option Nat) : KeepBut w w g row := ⟨Nat.le_refl _, fun _ _ _ _ => rfl⟩
theorem KeepBut.of_grown {w w1 : World} {row : Option Nat} (h : w.grownBy w1 row) (g : Nat) : KeepBut w w1 g row := ⟨h.size, fun i hi _ hr => h.block i hi hr⟩
theorem KeepBut.of_below {w w1 : World} (h : Below w.heap.size w w1) (g : Nat) (row : Option Nat) : KeepBut w w1 g row := ⟨h.size, fun i hi _ _ => h.block i hi⟩
theorem KeepBut.trans {w w1 w2 : World} {g : Nat} {row row1 : Option Nat} (h : KeepBut w w1 g row) (k : KeepBut w1 w2 g row1) (hr : row1 = row ∨ ∃ b, row1 = some b ∧ w.heap.size ≤ b) : KeepBut w w2 g row :=
  ⟨Nat.le_trans h.1 k.1, fun i hi hg hn => by
    refine (k.2 i (Nat.lt_of_lt_of_le hi h.1) hg ?_).trans (h.2 i hi hg hn)
    rcases hr with rfl | ⟨b, rfl, hb⟩
    · exact hn
    · intro e
      injection e with e
      omega⟩
/-- Another block, another row: they live on. -/
theorem KeepBut.blk {w w1 : World} {g g' : Nat} {row : Option Nat} {o : Obj} (h : KeepBut w w1 g row) (hb : w.heap[g']? = some o) (hg : g' ≠ g) (hr : some g' ≠ row) : w1.heap[g']? = some o := (h.2 g' (blk_lt hb) hg hr).trans hb
theorem KeepBut.own {w w1 : World} {g : Nat} {row : Option Nat} {base : Nat} {e : TypeId} {size n : Nat} {v : Value} {xs : List Value} (h : KeepBut w w1 g row) (ho : w.ownsRow base e size v n xs) (hg : v.ownBlock ≠ some g) (hr : v.ownBlock = none ∨ v.ownBlock ≠ row) : w1.ownsRow base e size v n xs := by
  obtain ⟨h1, h2⟩ := ho
  refine ⟨h1, ?_⟩
  rcases h2 with h2 | ⟨b, cap, cur, rfl, hb, hh, r⟩
  · exact .inl h2
  · refine .inr ⟨b, cap, cur, rfl, hb, h.blk hh ?_ ?_, r⟩
    · intro e
      exact hg (by rw [← e]; rfl)
    · rcases hr with hr | hr
      · simp [Value.ownBlock] at hr
      · exact hr
def Ev {α : Type} (g : Nat → Option α) (r : α) : Prop := ∃ K, ∀ k, K ≤ k → g k = some r
theorem Ev.of {α : Type} {g : Nat → Option α} {r : α} (hg : ∀ k, LeO (g k) (g (k + 1))) {k : Nat} (h : g k = some r) : Ev g r := ⟨k, fun _ hk => at_rounds hg hk h⟩
theorem Ev.now {α : Type} (r : α) : Ev (fun _ => some r) r := ⟨0, fun _ _ => rfl⟩
theorem Ev.bind {α β : Type} {g : Nat → Option α} {f : Nat → α → Option β} {a : α} {r : β} (h : Ev g a) (k : Ev (fun n => f n a) r) : Ev (fun n => (g n).bind (f n)) r := by
  obtain ⟨K, h⟩ := h
  obtain ⟨K', k⟩ := k
  refine ⟨max K K', fun n hn => ?_⟩
  have h1 := h n (by omega)
  have h2 := k n (by omega)
  simp only [h1, Option.bind_some]
  exact h2
/-- One round of a loop. -/
theorem Ev.step {α : Type} {g f : Nat → Option α} {r : α} (h : ∀ k, g (k + 1) = f k) (k : Ev f r) : Ev g r := by
  obtain ⟨K, k⟩ := k
  refine ⟨K + 1, fun n hn => ?_⟩
  obtain ⟨m, rfl⟩ : ∃ m, n = m + 1 := ⟨n - 1, by omega⟩
  rw [h]
  exact k m (by omega)
theorem Ev.congr {α : Type} {g f : Nat → Option α} {r : α} (h : ∀ k, g k = f k) (k : Ev f r) : Ev g r := by
  obtain ⟨K, k⟩ := k
  exact ⟨K, fun n hn => (h n).trans (k n hn)⟩
section
variable {P : Program} {ops : Array Oper} {o : Oper} {a : Act} {Q : Exit → Act → World → Prop} {K : Act → World → Prop}
end
theorem own_weaken {w : World} {base base' : Nat} {e : TypeId} {size n : Nat} {v : Value} {xs : List Value} (h : w.ownsRow base e size v n xs) (hb : base' ≤ base) : w.ownsRow base' e size v n xs := by
  obtain ⟨h1, h2⟩ := h
  refine ⟨h1, ?_⟩
  rcases h2 with h2 | ⟨g, cap, cur, rfl, hg, r⟩
  · exact .inl h2
  · exact .inr ⟨g, cap, cur, rfl, Nat.le_trans hb hg, r⟩
section
variable {α : Type} {enc : α → Value} {d : α}
def encs (enc : α → Value) (xs : List α) : List Value := xs.map enc
def rdOf (d : α) (xs : List α) (i : Int) : α := xs.getD i.toNat d
theorem encs_length (xs : List α) : (encs enc xs).length = xs.length := by simp [encs]
def ReadsOf (enc : α → Value) (d : α) (w : World) (A : Option Addr) (n : Nat) (xs : List α) : Prop :=
  xs.length = n ∧ n ≤ 9223372036854775807 ∧ (0 < n → ∃ ad, A = some ad ∧ ∀ j, j < n → w.cell? (ad.add j) = some (enc (xs.getD j d)))
theorem ReadsOf.at_ {w : World} {A : Option Addr} {n : Nat} {xs : List α} (h : ReadsOf enc d w A n xs) (i : Int) (h0 : 0 ≤ i) (h1 : i < n) : ∃ ad, A = some ad ∧ w.cell? (ad.add i.toNat) = some (enc (rdOf d xs i)) := by
  obtain ⟨ad, e, hc⟩ := h.2.2 (by omega)
  exact ⟨ad, e, hc _ (by omega)⟩
theorem ReadsOf.below {w w1 : World} {A : Option Addr} {n : Nat} {xs : List α} (h : ReadsOf enc d w A n xs) (hb : Below w.heap.size w w1) : ReadsOf enc d w1 A n xs :=
  ⟨h.1, h.2.1, fun hn => by
    obtain ⟨ad, e, hc⟩ := h.2.2 hn
    exact ⟨ad, e, fun j hj => pw_cell_below hb (hc j hj)⟩⟩
theorem ReadsOf.take_ {w : World} {A : Option Addr} {n : Nat} {xs : List α} (h : ReadsOf enc d w A n xs) (i : Nat) (hi : i ≤ n) : ReadsOf enc d w A i (xs.take i) := by
  refine ⟨by rw [List.length_take, h.1]; omega, by have := h.2.1; omega, fun hp => ?_⟩
  obtain ⟨ad, e, hc⟩ := h.2.2 (by omega)
  refine ⟨ad, e, fun j hj => ?_⟩
  rw [hc j (by omega)]
  simp [List.getD_eq_getElem?_getD, hj]
theorem ReadsOf.drop_ {w : World} {A : Option Addr} {n c : Nat} {xs : List α} (h : ReadsOf enc d w A n xs) (i : Nat) (hi : i ≤ n) (hc : n ≤ c) : ReadsOf enc d w (if c = i then A else A.map (·.add i)) (n - i) (xs.drop i) := by
  refine ⟨by rw [List.length_drop, h.1], by have := h.2.1; omega, fun hp => ?_⟩
  obtain ⟨ad, rfl, hcell⟩ := h.2.2 (by omega)
  rw [if_neg (by omega)]
  refine ⟨ad.add i, rfl, fun j hj => ?_⟩
  have ha : (ad.add i).add j = ad.add (i + j) := by
    unfold Addr.add
    by_cases h1 : i = 0 <;> by_cases h2 : j = 0 <;> simp [h1, h2, Nat.add_assoc]
  rw [ha, hcell (i + j) (by omega)]
  simp [List.getD_eq_getElem?_getD, List.getElem?_drop]
/-- 'xs[m:]' without a case on the capacity (print_cut for any enc). -/
theorem print_cut_of {P : Program} (enc : α → Value) (d : α) (t e : TypeId) (kl : IntKind) {i : TypeInfo} (ht : P.underlying t = some (.slice e)) (hi : P.info? e = some i) (hsz : i.size = 1) (A : Option Addr) (n c m : Nat) (hm : m ≤ n) :
    ∃ A' : Option Addr, (∀ W : World, (Instr.slice t (.slice A n c) (some (.int kl (m : Int))) none none).run P W = .ok (.slice A' (n - m) (c - m)) W) ∧
      ∀ (w : World) (xs : List α), n ≤ c → ReadsOf enc d w A n xs → ReadsOf enc d w A' (n - m) (xs.drop m) := by
  refine ⟨if c = m then A else A.map (·.add m), fun W => ?_, fun w xs hc h => h.drop_ m hm hc⟩
  have hel : P.elem t = e := by simp [Program.elem, ht]
  have hu : P.underlying t = some (.slice (P.elem t)) := by rw [hel]; exact ht
  rw [run_slice_l W t A n c hu kl (m : Int) (Int.natCast_nonneg _) (by omega), hel]
  simp [sizeOf, typeInfo, hi, hsz, sliced, Result.andThen]
end
section
variable {α : Type} {P : Program} {ops : Array Oper} {rest : List Oper} {o : Oper} {a : Act} {Q : Exit → Act → World → Prop}
end
theorem blk_alloc {w : World} {g : Nat} {o : Obj} (h : w.heap[g]? = some o) (o' : Obj) : (w.alloc o').heap[g]? = some o := (Below.heap_alloc w o' g (blk_lt h)).trans h
theorem blk_drew {w : World} {g : Nat} {o : Obj} (h : w.heap[g]? = some o) : w.drew.heap[g]? = some o := h
theorem blk_drewN {w : World} {g : Nat} {o : Obj} (h : w.heap[g]? = some o) (n : Nat) : (w.drewN n).heap[g]? = some o := h
theorem blk_below {w w1 : World} {g : Nat} {o : Obj} (h : w.heap[g]? = some o) (hb : Below w.heap.size w w1) : w1.heap[g]? = some o := (hb.block g (blk_lt h)).trans h
theorem blk_new (w : World) (o : Obj) : (w.alloc o).heap[w.heap.size]? = some o := heap_alloc_new w o
section
variable {P : Program}
theorem results_ct {fn : Func} {p u : Tmp} {ty : TypeId} (h : fn.results = #[.cell p ty, .tmp u]) (tmps : Array Value) (w : World) (g : Nat) (t : TypeId) (cs : Array Value) (fr : Nat × Nat) (d : TypeDesc)
    (hp : tmps.getD p undef = .pointer (some ⟨g, 0, none⟩)) (hg : w.heap[g]? = some (.cells cs t fr))
    (hu : P.underlying ty = some d) (hd : (match d with | .struct _ | .array _ _ => true | _ => false) = true) (hi : (P.info? ty).map (·.size) = some cs.size) :
    (results fn tmps).run P w = .ok (.tuple #[.agg cs, tmps.getD u undef]) w := by
  have hp' : tmps[p]?.getD undef = .pointer (some ⟨g, 0, none⟩) := by simpa using hp
  simp [results, h, hp', asAddr, run_loadVar_row w g t ty cs fr d hg hu hd hi]
theorem results_cc {fn : Func} {p p' : Tmp} {ty ty' : TypeId} (h : fn.results = #[.cell p ty, .cell p' ty']) (tmps : Array Value) (w : World) (g g' : Nat) (t t' : TypeId) (cs cs' : Array Value) (fr fr' : Nat × Nat) (d d' : TypeDesc)
    (hp : tmps.getD p undef = .pointer (some ⟨g, 0, none⟩)) (hg : w.heap[g]? = some (.cells cs t fr))
    (hu : P.underlying ty = some d) (hd : (match d with | .struct _ | .array _ _ => true | _ => false) = true) (hi : (P.info? ty).map (·.size) = some cs.size)
    (hp' : tmps.getD p' undef = .pointer (some ⟨g', 0, none⟩)) (hg' : w.heap[g']? = some (.cells cs' t' fr'))
    (hu' : P.underlying ty' = some d') (hd' : (match d' with | .struct _ | .array _ _ => true | _ => false) = true) (hi' : (P.info? ty').map (·.size) = some cs'.size) :
    (results fn tmps).run P w = .ok (.tuple #[.agg cs, .agg cs']) w := by
  have h1 : tmps[p]?.getD undef = .pointer (some ⟨g, 0, none⟩) := by simpa using hp
  have h2 : tmps[p']?.getD undef = .pointer (some ⟨g', 0, none⟩) := by simpa using hp'
  simp [results, h, h1, h2, asAddr, run_loadVar_row w g t ty cs fr d hg hu hd hi, run_loadVar_row w g' t' ty' cs' fr' d' hg' hu' hd' hi']
end
theorem own_le {w : World} {base n m c size : Nat} {e : TypeId} {A : Option Addr} {xs : List Value} (h : w.ownsRow base e size (.slice A m c) n xs) : m ≤ c := by
  rcases h.2 with ⟨he, _⟩ | ⟨g, cap, cur, he, _, _, hnc, _⟩
  · injection he with _ h2 h3
    omega
  · injection he with _ h2 h3
    omega
def OwnRow {α : Type} (R : α → List Value → Prop) (e : TypeId) (size : Nat) (w : World) (base : Nat) (v : Value) (ps : List α) : Prop :=
  ∃ inner, w.ownsRow base e size v ps.length inner ∧ Reps R size ps inner
section
variable {α : Type} {R R' : α → List Value → Prop} {e : TypeId} {size : Nat} {w w1 : World} {base : Nat} {v : Value} {ps : List α}
theorem OwnRow.none_ (R : α → List Value → Prop) (e : TypeId) (size : Nat) (w : World) (base : Nat) : OwnRow R e size w base (.slice none 0 0) [] := ⟨[], own_nil _ _ _ _, Reps.none _ _⟩
theorem OwnRow.imp_ (h : OwnRow R e size w base v ps) (hR : ∀ p c, R p c → R' p c) : OwnRow R' e size w base v ps := by
  obtain ⟨inner, ho, hr⟩ := h
  exact ⟨inner, ho, hr.imp_ hR⟩
theorem OwnRow.below (h : OwnRow R e size w base v ps) (hb : Below w.heap.size w w1) : OwnRow R e size w1 base v ps := by
  obtain ⟨inner, ho, hr⟩ := h
  exact ⟨inner, pw_own_below ho hb, hr⟩
theorem OwnRow.other (h : OwnRow R e size w base v ps) {row : Option Nat} (hg : w.grownBy w1 row) (hne : v.ownBlock = none ∨ v.ownBlock ≠ row) : OwnRow R e size w1 base v ps := by
  obtain ⟨inner, ho, hr⟩ := h
  exact ⟨inner, own_other ho hg hne, hr⟩
theorem OwnRow.reads (h : OwnRow R e size w base v ps) : ∃ A c, v = .slice A ps.length c ∧ ps.length ≤ c ∧ ReadsRow R size w A ps.length ps := by
  obtain ⟨inner, ho, hr⟩ := h
  obtain ⟨A, c, rfl, hrow⟩ := own_reads_row ho hr rfl
  exact ⟨A, c, rfl, own_le ho, hrow⟩
theorem OwnRow.ne_block (h : OwnRow R e size w base v ps) {g : Nat} {t : TypeId} {cells : Array Value} (hb : w.heap[g]? = some (.cells cells t (0, 0))) (ht : e ≠ t) : some g ≠ v.ownBlock := by
  obtain ⟨inner, ho, hr⟩ := h
  exact own_ne ho hb ht
end
section
variable {P : Program} {ops : Array Oper} {rest : List Oper} {o : Oper} {a : Act} {Q : Exit → Act → World → Prop} {α : Type} {R : α → List Value → Prop}
/-- append(v, x): x's cells are cs. R is that of the world AHEAD; move it over hg ('OwnRow.imp_'). -/
theorem OwnRow.append {w0 W : World} (base : Nat) (hgd : o.guard = none) (s x : Operand) (t e : TypeId) (z : Value) (size bytes : Nat)
    (ho : o.op = .call { callee := .builtin .append, args := #[s, x], argTypes := #[t, t] })
    (ht : P.underlying t = some (.slice e)) (hinfo : (P.info? e).map (fun i => (i.zero, i.size, i.bytes)) = some (some z, size, bytes)) (hz : z.cells.size = size) (hs0 : 0 < size) (hb0 : 0 < bytes)
    (v : Value) (ps : List α) (p : α) (cs : List Value) (hs : a.eval s = v) (hx : a.eval x = .slice (some ⟨W.heap.size, 0, none⟩) 1 1) (hp : R p cs) (hcs : cs.length = size) (h1 : ∀ u ∈ cs, u.oneCell' = true)
    (HO : OwnRow R e size W base v ps) (HB : Below base w0 W) (hbase : base ≤ W.heap.size) (hl : (ps.length + 1) * bytes ≤ 140737488355328)
    (h : ∀ v1 w1, OwnRow R e size w1 base v1 (ps ++ [p]) → Below base w0 w1 → W.grownBy w1 v.ownBlock → (v1.ownBlock = v.ownBlock ∨ ∃ b, v1.ownBlock = some b ∧ W.heap.size ≤ b) → wpList P ops Q rest (a.put o.dst v1) w1) :
    wpList P ops Q (o :: rest) a (W.alloc (.cells cs.toArray e)) := by
  obtain ⟨inner, hown, hr⟩ := HO
  refine print_append_cells base hgd s x t e z size bytes ho ht hinfo hz hs0 hb0 v ps.length inner cs hs hx hcs h1 hown HB hbase hl ?_
  intro v1 w1 hown1 hb1 hg1 hat1
  exact h v1 w1 ⟨inner ++ cs, by rw [List.length_append, List.length_singleton]; exact hown1, hr.snoc hp hcs⟩ hb1 hg1 hat1
end
section
variable {P : Program} {ops : Array Oper} {o : Oper} {a : Act} {Q : Exit → Act → World → Prop} {K : Act → World → Prop} {α : Type} {R : α → List Value → Prop}
end
/-- What is read as_ a row has its cells one behind the other. -/
theorem ReadsRow.inner_ {α : Type} {R : α → List Value → Prop} {size : Nat} {w : World} {ad : Addr} {n : Nat} {ps : List α} (h : ReadsRow R size w (some ad) n ps) :
    ∃ inner, Reps R size ps inner ∧ ∀ j u, inner[j]? = some u → w.cell? (ad.add j) = some u := by
  have key : ∀ m, m ≤ ps.length → ∃ inner, Reps R size (ps.take m) inner ∧ ∀ j u, inner[j]? = some u → w.cell? (ad.add j) = some u := by
    intro m
    induction m with
    | zero => exact fun _ => ⟨[], Reps.none _ _, fun j u hu => by simp at hu⟩
    | succ m ih =>
      intro hm
      obtain ⟨inner, hr, hc⟩ := ih (by omega)
      obtain ⟨ad', he, hcell⟩ := h.2.2 (by have := h.1; omega)
      injection he with he
      subst he
      obtain ⟨c, hcl, hp, hcc⟩ := hcell m _ (List.getElem?_eq_getElem (show m < ps.length by omega))
      refine ⟨inner ++ c, ?_, fun j u hu => ?_⟩
      · rw [List.take_succ_eq_append_getElem (show m < ps.length by omega)]
        exact hr.snoc hp hcl
      · have hil : inner.length = m * size := by rw [hr.1, List.length_take, Nat.min_eq_left (by omega)]
        rcases Nat.lt_or_ge j inner.length with hj | hj
        · rw [List.getElem?_append_left hj] at hu
          exact hc j u hu
        · rw [List.getElem?_append_right hj] at hu
          have := hcc (j - inner.length) u hu
          rwa [hil, Nat.add_sub_cancel' (by omega)] at this
  obtain ⟨inner, hr, hc⟩ := key ps.length (Nat.le_refl _)
  rw [List.take_length] at hr
  exact ⟨inner, hr, hc⟩
section
variable {α : Type} {P : Program}
theorem print_take_of (enc : α → Value) (d : α) (t e : TypeId) (kl : IntKind) {i : TypeInfo} (ht : P.underlying t = some (.slice e)) (hi : P.info? e = some i) (hsz : i.size = 1) (A : Option Addr) (c : Nat) (xs : List α) (j : Int) (h0 : 0 ≤ j) (hm : j ≤ xs.length) (hc : xs.length ≤ c) :
    (∀ W : World, (Instr.slice t (.slice A xs.length c) none (some (.int kl j)) none).run P W = .ok (.slice A (xs.take j.toNat).length c) W) ∧
      (∀ w : World, ReadsOf enc d w A xs.length xs → ReadsOf enc d w A (xs.take j.toNat).length (xs.take j.toNat)) ∧ (xs.take j.toNat).length ≤ c := by
  have hl : (xs.take j.toNat).length = j.toNat := by rw [List.length_take]; omega
  refine ⟨fun W => ?_, fun w h => by rw [hl]; exact h.take_ j.toNat (by omega), by rw [hl]; omega⟩
  have hel : P.elem t = e := by simp [Program.elem, ht]
  have hu : P.underlying t = some (.slice (P.elem t)) := by rw [hel]; exact ht
  have ha : (A.map fun x => x.add 0) = A := by cases A <;> simp [Addr.add]
  rw [run_slice_h W t A xs.length c hu kl j h0 (by omega), hel, hl]
  simp [sizeOf, typeInfo, hi, hsz, sliced, Result.andThen, ha]
theorem print_drop_of (enc : α → Value) (d : α) (t e : TypeId) (kl : IntKind) {i : TypeInfo} (ht : P.underlying t = some (.slice e)) (hi : P.info? e = some i) (hsz : i.size = 1) (A : Option Addr) (c : Nat) (xs : List α) (j : Int) (h0 : 0 ≤ j) (hm : j ≤ xs.length) (hc : xs.length ≤ c) :
    ∃ A' : Option Addr, (∀ W : World, (Instr.slice t (.slice A xs.length c) (some (.int kl j)) none none).run P W = .ok (.slice A' (xs.drop j.toNat).length (c - j.toNat)) W) ∧
      (∀ w : World, ReadsOf enc d w A xs.length xs → ReadsOf enc d w A' (xs.drop j.toNat).length (xs.drop j.toNat)) ∧ (xs.drop j.toNat).length ≤ c - j.toNat := by
  obtain ⟨m, rfl⟩ := Int.eq_ofNat_of_zero_le h0
  simp only [Int.toNat_natCast]
  have hmn : m ≤ xs.length := by omega
  obtain ⟨A', h1, h2⟩ := print_cut_of (P := P) enc d t e kl ht hi hsz A xs.length c m hmn
  have hl : (xs.drop m).length = xs.length - m := List.length_drop
  exact ⟨A', fun W => by rw [hl]; exact h1 W, fun w h => by rw [hl]; exact h2 w xs hc h, by rw [hl]; omega⟩
end
section
variable {P : Program} {ops : Array Oper} {rest : List Oper} {o : Oper} {a : Act} {Q : Exit → Act → World → Prop}
end
/-- ok: which blocks the rows inside may be ('not the row that is being written'). -/
structure Kd (α : Type) where
  sz : Nat
  E : List Nat
  K : World → α → List Value → Prop
  M : World → Nat → (Nat → Prop) → α → List Value → Prop
  K_len : ∀ {w x cs}, K w x cs → cs.length = sz
  K_one : ∀ {w x cs}, K w x cs → ∀ u ∈ cs, u.oneCell' = true
  K_below : ∀ {w w1 : World} {x cs}, Below w.heap.size w w1 → K w x cs → K w1 x cs
  K_of_M : ∀ {w base ok x cs}, M w base ok x cs → K w x cs
  M_mono : ∀ {w base ok ok' x cs}, (∀ k, ok k → ok' k) → M w base ok x cs → M w base ok' x cs
  M_bound : ∀ {w : World} {base ok x cs}, M w base ok x cs → M w base (fun k => ok k ∧ base ≤ k ∧ k < w.heap.size ∧ ∃ q, q ∈ E ∧ ∃ cells, w.heap[k]? = some (.cells cells q (0, 0))) x cs
  M_move : ∀ {w w1 : World} {base ok x cs}, (∀ k, ok k → w1.heap[k]? = w.heap[k]?) → M w base ok x cs → M w1 base ok x cs
  M_lower : ∀ {w base base' ok x cs}, base' ≤ base → M w base ok x cs → M w base' ok x cs
theorem own_move {w w1 : World} {base : Nat} {e : TypeId} {size n : Nat} {v : Value} {xs : List Value} (h : w.ownsRow base e size v n xs) (hm : ∀ k, v.ownBlock = some k → w1.heap[k]? = w.heap[k]?) : w1.ownsRow base e size v n xs := by
  obtain ⟨h1, h2⟩ := h
  refine ⟨h1, ?_⟩
  rcases h2 with h2 | ⟨g, cap, cur, rfl, hg, hh, r⟩
  · exact .inl h2
  · exact .inr ⟨g, cap, cur, rfl, hg, (hm g (by simp [Value.ownBlock])).trans hh, r⟩
theorem own_typed {w : World} {base : Nat} {e : TypeId} {size n : Nat} {v : Value} {xs : List Value} (h : w.ownsRow base e size v n xs) (k : Nat) (hk : v.ownBlock = some k) : ∃ cells, w.heap[k]? = some (.cells cells e (0, 0)) := by
  rcases h.2 with ⟨rfl, _⟩ | ⟨g, cap, cur, rfl, hg, hh, r⟩
  · simp [Value.ownBlock] at hk
  · have : g = k := by simpa [Value.ownBlock] using hk
    subst this
    exact ⟨cur, hh⟩
namespace Kd
/-- A row of elements that is read. -/
def C {α : Type} (d : Kd α) (w : World) (A : Option Addr) (n : Nat) (xs : List α) : Prop := ReadsRow (d.K w) d.sz w A n xs
/-- A row of elements (type e) of the call's own; the elements' rows are not this one. -/
def R {α : Type} (d : Kd α) (e : Nat) (w : World) (base : Nat) (ok : Nat → Prop) (v : Value) (xs : List α) : Prop :=
  (∀ k, v.ownBlock = some k → ok k) ∧ OwnRow (d.M w base (fun k => ok k ∧ some k ≠ v.ownBlock)) e d.sz w base v xs
section
variable {α : Type} {d : Kd α} {e : Nat} {w w1 : World} {base : Nat} {ok ok' : Nat → Prop} {v : Value} {xs : List α}
theorem C_below {A : Option Addr} {n : Nat} (h : d.C w A n xs) (hb : Below w.heap.size w w1) : d.C w1 A n xs := ReadsRow.imp_ h hb (fun _ _ hp => d.K_below hb hp)
theorem R_nil (d : Kd α) (e : Nat) (w : World) (base : Nat) (ok : Nat → Prop) : d.R e w base ok (.slice none 0 0) [] := ⟨fun k hk => by simp [Value.ownBlock] at hk, OwnRow.none_ _ _ _ _ _⟩
theorem R_mono (h : d.R e w base ok v xs) (hok : ∀ k, ok k → ok' k) : d.R e w base ok' v xs := ⟨fun k hk => hok k (h.1 k hk), h.2.imp_ (fun _ _ hp => d.M_mono (fun k hk => ⟨hok k hk.1, hk.2⟩) hp)⟩
theorem R_bound (h : d.R e w base ok v xs) : d.R e w base (fun k => ok k ∧ base ≤ k ∧ k < w.heap.size ∧ ∃ q, q ∈ e :: d.E ∧ ∃ cells, w.heap[k]? = some (.cells cells q (0, 0))) v xs := by
  obtain ⟨h0, inner, ho, hr⟩ := h
  refine ⟨fun k hk => ?_, inner, ho, hr.imp_ (fun _ _ hp => d.M_mono (fun k hk => ?_) (d.M_bound hp))⟩
  · obtain ⟨cells, hc⟩ := own_typed ho k hk
    exact ⟨h0 k hk, own_base ho k hk, own_lt ho k hk, e, List.mem_cons_self, cells, hc⟩
  · obtain ⟨⟨h1, h2⟩, h3, h4, q, hq, hc⟩ := hk
    exact ⟨⟨h1, h3, h4, q, List.mem_cons_of_mem _ hq, hc⟩, h2⟩
theorem R_move (h : d.R e w base ok v xs) (hm : ∀ k, ok k → w1.heap[k]? = w.heap[k]?) : d.R e w1 base ok v xs := by
  obtain ⟨h0, inner, ho, hr⟩ := h
  exact ⟨h0, inner, own_move ho (fun k hk => hm k (h0 k hk)), hr.imp_ (fun _ _ hp => d.M_move (fun k hk => hm k hk.1) hp)⟩
theorem R_lower {base' : Nat} (h : d.R e w base ok v xs) (hb : base' ≤ base) : d.R e w base' ok v xs := by
  obtain ⟨h0, inner, ho, hr⟩ := h
  exact ⟨h0, inner, own_weaken ho hb, hr.imp_ (fun _ _ hp => d.M_lower hb hp)⟩
/-- Any mover: what is ok, and a block of w's, stays. -/
theorem R_step (h : d.R e w base ok v xs) (hm : ∀ k, ok k → k < w.heap.size → w1.heap[k]? = w.heap[k]?) : d.R e w1 base ok v xs :=
  R_mono (R_move (R_bound h) (fun k hk => hm k hk.1 hk.2.2.1)) (fun _ hk => hk.1)
theorem M_step {x : α} {cs : List Value} (h : d.M w base ok x cs) (hm : ∀ k, ok k → k < w.heap.size → w1.heap[k]? = w.heap[k]?) : d.M w1 base ok x cs :=
  d.M_mono (fun _ hk => hk.1) (d.M_move (fun k hk => hm k hk.1 hk.2.2.1) (d.M_bound h))
theorem R_below (h : d.R e w base ok v xs) (hb : Below w.heap.size w w1) : d.R e w1 base ok v xs := R_step h (fun k _ hk => hb.block k hk)
theorem M_below {x : α} {cs : List Value} (h : d.M w base ok x cs) (hb : Below w.heap.size w w1) : d.M w1 base ok x cs := M_step h (fun k _ hk => hb.block k hk)
/-- Another row (a block, or none) has been written. -/
theorem R_grown (h : d.R e w base ok v xs) {row : Option Nat} (hg : w.grownBy w1 row) (hok : ∀ k, ok k → some k ≠ row) : d.R e w1 base ok v xs := R_step h (fun k ho hk => hg.block k hk (hok k ho))
/-- A store into another block. -/
theorem R_far (h : d.R e w base ok v xs) {p : Addr} (hok : ∀ k, ok k → k ≠ p.block) (u : Value) : d.R e (w.setCell p u) base ok v xs := R_step h (fun k ho _ => Below.heap_setCell w p u k (hok k ho))
/-- By types alone: the rows inside are none of a block of type t. -/
theorem R_types (h : d.R e w base ok v xs) {g t : Nat} {cells : Array Value} (hb : w.heap[g]? = some (.cells cells t (0, 0))) (ht : ∀ q, q ∈ e :: d.E → q ≠ t) : d.R e w base (fun k => ok k ∧ k ≠ g) v xs :=
  R_mono (R_bound h) (fun k hk => ⟨hk.1, by
    obtain ⟨_, _, _, q, hq, cells', hc⟩ := hk
    rintro rfl
    rw [hc] at hb
    injection hb with hb
    injection hb with _ hb
    exact ht q hq hb⟩)
theorem R_reads (h : d.R e w base ok v xs) : ∃ A c, v = .slice A xs.length c ∧ xs.length ≤ c ∧ d.C w A xs.length xs := by
  obtain ⟨A, c, he, hl, hr⟩ := OwnRow.reads h.2
  exact ⟨A, c, he, hl, hr.imp_ (Below.refl _ _) (fun _ _ hp => d.K_of_M hp)⟩
theorem R_slice (h : d.R e w base ok v xs) : ∃ A c, v = .slice A xs.length c := by
  obtain ⟨A, c, he, _⟩ := R_reads h
  exact ⟨A, c, he⟩
theorem R_own (h : d.R e w base ok v xs) : ∃ inner, w.ownsRow base e d.sz v xs.length inner := by
  obtain ⟨_, inner, ho, _⟩ := h
  exact ⟨inner, ho⟩
theorem R_ne (h : d.R e w base ok v xs) {g t : Nat} {cells : Array Value} (hb : w.heap[g]? = some (.cells cells t (0, 0))) (ht : e ≠ t) : some g ≠ v.ownBlock := OwnRow.ne_block h.2 hb ht
end
def scalar {α : Type} (enc : α → Value) (h1 : ∀ x, (enc x).oneCell' = true) : Kd α where
  sz := 1
  E := []
  K := fun _ x cs => cs = [enc x]
  M := fun _ _ _ x cs => cs = [enc x]
  K_len := fun h => by rw [h]; rfl
  K_one := fun h u hu => by
    rw [h] at hu
    rw [List.mem_singleton.1 hu]
    exact h1 _
  K_below := fun _ h => h
  K_of_M := fun h => h
  M_mono := fun _ h => h
  M_bound := fun h => h
  M_move := fun _ h => h
  M_lower := fun _ h => h
def int (k : IntKind) : Kd Int := scalar (Value.int k) (fun _ => rfl)
def bool : Kd Bool := scalar Value.bool (fun _ => rfl)
def string : Kd ByteArray := scalar Value.string (fun _ => rfl)
def slice {α : Type} (e : Nat) (d : Kd α) : Kd (List α) where
  sz := 1
  E := e :: d.E
  K := fun w xs cs => ∃ A c, cs = [.slice A xs.length c] ∧ xs.length ≤ c ∧ d.C w A xs.length xs
  M := fun w base ok xs cs => ∃ v, cs = [v] ∧ d.R e w base ok v xs
  K_len := by
    rintro w x cs ⟨A, c, rfl, _⟩
    rfl
  K_one := by
    rintro w x cs ⟨A, c, rfl, _⟩ u hu
    rw [List.mem_singleton.1 hu]
    rfl
  K_below := by
    rintro w w1 x cs hb ⟨A, c, rfl, hl, hr⟩
    exact ⟨A, c, rfl, hl, C_below hr hb⟩
  K_of_M := by
    rintro w base ok x cs ⟨v, rfl, h⟩
    obtain ⟨A, c, rfl, hl, hr⟩ := R_reads h
    exact ⟨A, c, rfl, hl, hr⟩
  M_mono := by
    rintro w base ok ok' x cs hok ⟨v, rfl, h⟩
    exact ⟨v, rfl, R_mono h hok⟩
  M_bound := by
    rintro w base ok x cs ⟨v, rfl, h⟩
    exact ⟨v, rfl, R_bound h⟩
  M_move := by
    rintro w w1 base ok x cs hm ⟨v, rfl, h⟩
    exact ⟨v, rfl, R_move h hm⟩
  M_lower := by
    rintro w base base' ok x cs hb ⟨v, rfl, h⟩
    exact ⟨v, rfl, R_lower h hb⟩
/-- Two in line. -/
def pair {α β : Type} (a : Kd α) (b : Kd β) : Kd (α × β) where
  sz := a.sz + b.sz
  E := a.E ++ b.E
  K := fun w x cs => ∃ c0 c1, cs = c0 ++ c1 ∧ a.K w x.1 c0 ∧ b.K w x.2 c1
  M := fun w base ok x cs => ∃ c0 c1, cs = c0 ++ c1 ∧ a.M w base ok x.1 c0 ∧ b.M w base ok x.2 c1
  K_len := by
    rintro w x cs ⟨c0, c1, rfl, h0, h1⟩
    rw [List.length_append, a.K_len h0, b.K_len h1]
  K_one := by
    rintro w x cs ⟨c0, c1, rfl, h0, h1⟩ u hu
    rcases List.mem_append.1 hu with hu | hu
    · exact a.K_one h0 u hu
    · exact b.K_one h1 u hu
  K_below := by
    rintro w w1 x cs hb ⟨c0, c1, rfl, h0, h1⟩
    exact ⟨c0, c1, rfl, a.K_below hb h0, b.K_below hb h1⟩
  K_of_M := by
    rintro w base ok x cs ⟨c0, c1, rfl, h0, h1⟩
    exact ⟨c0, c1, rfl, a.K_of_M h0, b.K_of_M h1⟩
  M_mono := by
    rintro w base ok ok' x cs hok ⟨c0, c1, rfl, h0, h1⟩
    exact ⟨c0, c1, rfl, a.M_mono hok h0, b.M_mono hok h1⟩
  M_bound := by
    rintro w base ok x cs ⟨c0, c1, rfl, h0, h1⟩
    refine ⟨c0, c1, rfl, a.M_mono ?_ (a.M_bound h0), b.M_mono ?_ (b.M_bound h1)⟩
    · rintro k ⟨h2, h3, h4, q, hq, hc⟩
      exact ⟨h2, h3, h4, q, List.mem_append_left _ hq, hc⟩
    · rintro k ⟨h2, h3, h4, q, hq, hc⟩
      exact ⟨h2, h3, h4, q, List.mem_append_right _ hq, hc⟩
  M_move := by
    rintro w w1 base ok x cs hm ⟨c0, c1, rfl, h0, h1⟩
    exact ⟨c0, c1, rfl, a.M_move hm h0, b.M_move hm h1⟩
  M_lower := by
    rintro w base base' ok x cs hb ⟨c0, c1, rfl, h0, h1⟩
    exact ⟨c0, c1, rfl, a.M_lower hb h0, b.M_lower hb h1⟩
/-- A Lean structure by its fields. -/
def iso {α β : Type} (d : Kd α) (f : β → α) : Kd β where
  sz := d.sz
  E := d.E
  K := fun w x cs => d.K w (f x) cs
  M := fun w base ok x cs => d.M w base ok (f x) cs
  K_len := d.K_len
  K_one := d.K_one
  K_below := d.K_below
  K_of_M := d.K_of_M
  M_mono := d.M_mono
  M_bound := d.M_bound
  M_move := d.M_move
  M_lower := d.M_lower
/-- Nothing is of this kind: where the nesting's depth is used up. -/
def bot {α : Type} (sz : Nat) (E : List Nat) : Kd α where
  sz := sz
  E := E
  K := fun _ _ _ => False
  M := fun _ _ _ _ _ => False
  K_len := fun h => h.elim
  K_one := fun h => h.elim
  K_below := fun _ h => h
  K_of_M := fun h => h
  M_mono := fun _ h => h
  M_bound := fun h => h
  M_move := fun _ h => h
  M_lower := fun _ h => h
/-- A type nested in itself: nested at most n deep .. -/
def upto {α : Type} (F : Kd α → Kd α) (sz : Nat) (E : List Nat) : Nat → Kd α
  | 0 => bot sz E
  | n + 1 => F (upto F sz E n)
theorem C_get {α : Type} {d : Kd α} {w : World} {A : Option Addr} {n : Nat} {xs : List α} (h : d.C w A n xs) (z : α) (i : Int) (h0 : 0 ≤ i) (h1 : i < n) :
    ∃ ad c, A = some ad ∧ c.length = d.sz ∧ d.K w (xs.getD i.toNat z) c ∧ ∀ j u, c[j]? = some u → w.cell? (ad.add (i.toNat * d.sz + j)) = some u := ReadsRow.get_ h z i h0 h1
/-- What an append leaves: the old elements' rows and the new one's are not the new row's block. -/
theorem R_appended {α : Type} {d : Kd α} {e base : Nat} {ok okp : Nat → Prop} {W w1 : World} {v v1 : Value} {xs : List α} {p : α} {inner cs : List Value} (h0 : ∀ k, v.ownBlock = some k → ok k) (hr : Reps (d.M W base (fun k => ok k ∧ some k ≠ v.ownBlock)) d.sz xs inner) (hp : d.M W base okp p cs) (hokp : ∀ k, okp k → ok k ∧ some k ≠ v.ownBlock) (hfresh : ∀ k, W.heap.size ≤ k → ok k)
    (hown : w1.ownsRow base e d.sz v1 (xs.length + 1) (inner ++ cs)) (hg : W.grownBy w1 v.ownBlock) (hat : v1.ownBlock = v.ownBlock ∨ ∃ b, v1.ownBlock = some b ∧ W.heap.size ≤ b) : d.R e w1 base ok v1 (xs ++ [p]) := by
  have hne : ∀ k, some k ≠ v.ownBlock → k < W.heap.size → some k ≠ v1.ownBlock := by
    intro k hk hlt
    rcases hat with hat | ⟨b, hb, hle⟩
    · rw [hat]; exact hk
    · rw [hb]
      intro he
      injection he with he
      omega
  have step : ∀ {q : α} {c : List Value} {o : Nat → Prop}, d.M W base o q c → (∀ k, o k → ok k ∧ some k ≠ v.ownBlock) → d.M w1 base (fun k => ok k ∧ some k ≠ v1.ownBlock) q c := by
    intro q c o hq ho
    have h1 := d.M_move (w1 := w1) (fun k hk => hg.block k hk.2.2.1 (ho k hk.1).2) (d.M_bound hq)
    exact d.M_mono (fun k hk => ⟨(ho k hk.1).1, hne k (ho k hk.1).2 hk.2.2.1⟩) h1
  refine ⟨fun k hk => ?_, inner ++ cs, by rw [List.length_append, List.length_singleton]; exact hown, ?_⟩
  · rcases hat with hat | ⟨b, hb, hle⟩
    · exact h0 k (hat ▸ hk)
    · rw [hb] at hk
      injection hk with hk
      exact hfresh k (by omega)
  · exact (hr.imp_ (fun _ _ hq => step hq (fun _ hk => hk))).snoc (step hp hokp) (d.K_len (d.K_of_M hp))
section
variable {P : Program} {ops : Array Oper} {rest : List Oper} {o : Oper} {a : Act} {Q : Exit → Act → World → Prop} {α : Type}
/-- append(v, x), behind 'at_builtin'; the goal's world is 'W.alloc' of the variadic's box; x's cells are cs, made (its rows satisfy okp). hfresh: a block that is new at W is ok. -/
theorem R_append (d : Kd α) {w0 W : World} (base : Nat) (hgd : o.guard = none) (s x : Operand) (t e : TypeId) (z : Value) (bytes : Nat)
    (ho : o.op = .call { callee := .builtin .append, args := #[s, x], argTypes := #[t, t] })
    (ht : P.underlying t = some (.slice e)) (hinfo : (P.info? e).map (fun i => (i.zero, i.size, i.bytes)) = some (some z, d.sz, bytes)) (hz : z.cells.size = d.sz) (hs0 : 0 < d.sz) (hb0 : 0 < bytes)
    (v : Value) (xs : List α) (p : α) (cs : List Value) (ok okp : Nat → Prop) (hs : a.eval s = v) (hx : a.eval x = .slice (some ⟨W.heap.size, 0, none⟩) 1 1) (hp : d.M W base okp p cs) (hokp : ∀ k, okp k → ok k ∧ some k ≠ v.ownBlock) (hfresh : ∀ k, W.heap.size ≤ k → ok k)
    (HO : d.R e W base ok v xs) (HB : Below base w0 W) (hbase : base ≤ W.heap.size) (hl : (xs.length + 1) * bytes ≤ 140737488355328)
    (h : ∀ v1 w1, d.R e w1 base ok v1 (xs ++ [p]) → Below base w0 w1 → W.grownBy w1 v.ownBlock → (v1.ownBlock = v.ownBlock ∨ ∃ b, v1.ownBlock = some b ∧ W.heap.size ≤ b) → wpList P ops Q rest (a.put o.dst v1) w1) :
    wpList P ops Q (o :: rest) a (W.alloc (.cells cs.toArray e)) := by
  obtain ⟨h0, inner, hown, hr⟩ := HO
  refine print_append_cells base hgd s x t e z d.sz bytes ho ht hinfo hz hs0 hb0 v xs.length inner cs hs hx (d.K_len (d.K_of_M hp)) (d.K_one (d.K_of_M hp)) hown HB hbase hl ?_
  intro v1 w1 hown1 hb1 hg1 hat1
  exact h v1 w1 (R_appended h0 hr hp hokp hfresh hown1 hg1 hat1) hb1 hg1 hat1
end
section
variable {P : Program} {ops : Array Oper} {o : Oper} {a : Act} {Q : Exit → Act → World → Prop} {Kc : Act → World → Prop} {α : Type}
end
/-- A row of scalars is the elder form. -/
theorem reps_scalar {α : Type} {enc : α → Value} (xs : List α) : Reps (fun (x : α) (cs : List Value) => cs = [enc x]) 1 xs (encs enc xs) := by
  refine ⟨by simp [encs], fun j p hj => ?_⟩
  obtain ⟨hl, hp⟩ := List.getElem?_eq_some_iff.1 hj
  have hl' : j < (encs enc xs).length := by rw [encs_length]; exact hl
  rw [Nat.mul_one, List.drop_eq_getElem_cons hl']
  simp [encs, hp]
theorem R_of_own {α : Type} {enc : α → Value} {h1 : ∀ x, (enc x).oneCell' = true} {e : Nat} {w : World} {base : Nat} {ok : Nat → Prop} {v : Value} {xs : List α} (ho : w.ownsRow base e 1 v xs.length (encs enc xs)) (hok : ∀ k, v.ownBlock = some k → ok k) : (scalar enc h1).R e w base ok v xs := ⟨hok, encs enc xs, ho, reps_scalar xs⟩
theorem C_of_reads {α : Type} {enc : α → Value} {d : α} {h1 : ∀ x, (enc x).oneCell' = true} {w : World} {A : Option Addr} {n : Nat} {xs : List α} (h : ReadsOf enc d w A n xs) : (scalar enc h1).C w A n xs := by
  refine ⟨h.1, h.2.1, fun hn => ?_⟩
  obtain ⟨ad, e, hc⟩ := h.2.2 hn
  refine ⟨ad, e, fun j p hj => ⟨[enc p], rfl, rfl, fun i u hu => ?_⟩⟩
  obtain ⟨hl, hp⟩ := List.getElem?_eq_some_iff.1 hj
  have h2 := hc j (by have := h.1; omega)
  rw [List.getD_eq_getElem?_getD, hj] at h2
  cases i with
  | zero =>
    have : enc p = u := by simpa using hu
    subst this
    simpa [scalar] using h2
  | succ i => simp at hu
theorem reads_of_C {α : Type} {enc : α → Value} {d : α} {h1 : ∀ x, (enc x).oneCell' = true} {w : World} {A : Option Addr} {n : Nat} {xs : List α} (h : (scalar enc h1).C w A n xs) : ReadsOf enc d w A n xs := by
  refine ⟨h.1, h.2.1, fun hn => ?_⟩
  obtain ⟨ad, e, hc⟩ := h.2.2 hn
  refine ⟨ad, e, fun j hj => ?_⟩
  have hl : j < xs.length := by have := h.1; omega
  obtain ⟨c, _, hK, hcell⟩ := hc j _ (List.getElem?_eq_getElem hl)
  have hK' : c = [enc xs[j]] := hK
  subst hK'
  have := hcell 0 _ rfl
  simpa [scalar, List.getD_eq_getElem?_getD, List.getElem?_eq_getElem hl] using this
end Kd
namespace Kd
section
variable {α : Type} {F : Kd α → Kd α} {sz : Nat} {E : List Nat} {hs : ∀ n, (upto F sz E n).sz = sz} {hE : ∀ n q, q ∈ (upto F sz E n).E → q ∈ E}
end
end Kd
namespace Kd
/-- Behind an append to v (it left v1): what is held apart from v is held apart from v1. -/
theorem R_after {α : Type} {d : Kd α} {e base : Nat} {ok : Nat → Prop} {W w1 : World} {u v v1 : Value} {xs : List α} (h : d.R e W base (fun k => ok k ∧ some k ≠ v.ownBlock) u xs) (hg : W.grownBy w1 v.ownBlock) (hat : v1.ownBlock = v.ownBlock ∨ ∃ b, v1.ownBlock = some b ∧ W.heap.size ≤ b) : d.R e w1 base (fun k => ok k ∧ some k ≠ v1.ownBlock) u xs := by
  refine R_mono (R_move (R_bound h) (fun k hk => hg.block k hk.2.2.1 hk.1.2)) (fun k hk => ⟨hk.1.1, ?_⟩)
  rcases hat with hat | ⟨b, hb, hle⟩
  · rw [hat]; exact hk.1.2
  · rw [hb]
    intro he
    injection he with he
    have := hk.2.2.1
    omega
end Kd
namespace Kd
section
variable {α β : Type} {d : Kd α} {d' : Kd β} {e e' : Nat} {w w1 W : World} {base b b' : Nat} {ok ok' okv oku : Nat → Prop} {v u : Value} {xs : List α} {ys : List β}
theorem R_alloc (h : d.R e w base ok v xs) (o : Obj) : d.R e (w.alloc o) base ok v xs := R_below h (below_alloc (Below.refl _ _) o)
theorem R_drew (h : d.R e w base ok v xs) : d.R e w.drew base ok v xs := R_below h (below_drew (Below.refl _ _))
theorem R_drewN (h : d.R e w base ok v xs) (m : Nat) : d.R e (w.drewN m) base ok v xs := R_below h (pw_below_drewN (Below.refl _ _) m)
theorem C_alloc {A : Option Addr} {n : Nat} (h : d.C w A n xs) (o : Obj) : d.C (w.alloc o) A n xs := C_below h (below_alloc (Below.refl _ _) o)
theorem C_drew {A : Option Addr} {n : Nat} (h : d.C w A n xs) : d.C w.drew A n xs := C_below h (below_drew (Below.refl _ _))
theorem C_drewN {A : Option Addr} {n : Nat} (h : d.C w A n xs) (m : Nat) : d.C (w.drewN m) A n xs := C_below h (pw_below_drewN (Below.refl _ _) m)
theorem C_nil (d : Kd α) (w : World) : d.C w none ([] : List α).length [] := ⟨rfl, by simp, fun h => absurd h (Nat.lt_irrefl 0)⟩
theorem R_reads' {A : Option Addr} {n c : Nat} (h : d.R e w base ok (.slice A n c) xs) : n = xs.length ∧ n ≤ c ∧ d.C w A xs.length xs := by
  obtain ⟨A', c', he, hl, hr⟩ := R_reads h
  injection he with h1 h2 h3
  subst h1
  exact ⟨h2, by omega, hr⟩
theorem R_lt (h : d.R e w base ok v xs) : ∀ k, v.ownBlock = some k → k < w.heap.size := by
  obtain ⟨inner, ho⟩ := R_own h
  exact own_lt ho
theorem R_base (h : d.R e w base ok v xs) : ∀ k, v.ownBlock = some k → base ≤ k := by
  obtain ⟨inner, ho⟩ := R_own h
  exact own_base ho
end
section
variable {w W : World} {A : Option Addr} {n : Nat}
theorem at_int {k : IntKind} {xs : List Int} (h : (Kd.int k).C w A n xs) (i : Int) (h0 : 0 ≤ i) (h1 : i < n) : ∃ ad, A = some ad ∧ w.cell? (ad.add i.toNat) = some (.int k (rd xs i)) :=
  ReadsOf.at_ (reads_of_C (enc := Value.int k) (d := (0 : Int)) (h1 := fun _ => rfl) h) i h0 h1
theorem at_string {xs : List ByteArray} (h : Kd.string.C w A n xs) (i : Int) (h0 : 0 ≤ i) (h1 : i < n) : ∃ ad, A = some ad ∧ w.cell? (ad.add i.toNat) = some (.string (rdOf ByteArray.empty xs i)) :=
  ReadsOf.at_ (reads_of_C (enc := Value.string) (d := ByteArray.empty) (h1 := fun _ => rfl) h) i h0 h1
variable {α : Type} {enc : α → Value} {h1 : ∀ x, (enc x).oneCell' = true} {e base g cap : Nat} {ok : Nat → Prop} {xs : List α}
end
section
variable {P : Program} {ops : Array Oper} {rest : List Oper} {o : Oper} {a : Act} {Q : Exit → Act → World → Prop}
theorem event_run {W w1 : World} {v : Value} (hgd : o.guard = none) (hrun : (execOp a.eval o).run P W = .ok (.value v) w1) (h : wpList P ops Q rest (a.put o.dst v) w1) : wpList P ops Q (o :: rest) a W := by
  refine wpList_plain hgd fun K hK => ?_
  unfold Oper.wp
  rw [hrun]
  exact hK _ _ h
variable {α : Type}
/-- A literal '[]T{..}': inner its cells. 'hd' picks the operation; 'hrun' by '(by go_simp; rfl)'. -/
theorem R_lit (d : Kd α) {w0 W : World} (base e : Nat) (hgd : o.guard = none) {N : Tmp} (_hd : o.dst = some N) {xs : List α} {inner : List Value} {ok okp : Nat → Prop}
    (hrun : (execOp a.eval o).run P W = .ok (.value (.slice (some ⟨W.heap.size, 0, none⟩) xs.length xs.length)) (W.alloc (.cells inner.toArray e)))
    (hrep : Reps (d.M W base okp) d.sz xs inner) (hok : ∀ k, okp k → ok k) (hfresh : ok W.heap.size) (HB : Below base w0 W) (hbase : base ≤ W.heap.size) (hm : xs.length ≤ 9223372036854775807)
    (h : ∀ v1 w1, d.R e w1 base ok v1 xs → Below base w0 w1 → W.grownBy w1 none → (∃ b, v1.ownBlock = some b ∧ W.heap.size ≤ b) → wpList P ops Q rest (a.put o.dst v1) w1) : wpList P ops Q (o :: rest) a W := by
  refine event_run hgd hrun (h _ _ ⟨fun k hk => ?_, inner, ?_, ?_⟩ (HB.alloc hbase _) (World.grownBy_alloc W _ none) ⟨W.heap.size, by simp [Value.ownBlock], Nat.le_refl _⟩)
  · have : W.heap.size = k := by simpa [Value.ownBlock] using hk
    subst this
    exact hfresh
  · have h2 := World.ownsRow_lit (base := base) (e := e) (size := d.sz) W inner.toArray xs.length hbase (by simpa [maxLen] using hm) (by simpa using hrep.1)
    simpa using h2
  · refine hrep.imp_ (fun p c hp => d.M_mono (fun k hk => ⟨hok k hk.1, fun he => ?_⟩) (M_below (d.M_bound hp) (below_alloc (Below.refl _ _) _)))
    have h3 : k = W.heap.size := by simpa [Value.ownBlock] using he
    have := hk.2.2.1
    omega
end
end Kd
section
variable {P : Program}
theorem cut_to (t e : TypeId) (kh : IntKind) {i : TypeInfo} (ht : P.underlying t = some (.slice e)) (hi : P.info? e = some i) (A : Option Addr) (n c : Nat) (j : Int) (h0 : 0 ≤ j) (hm : j ≤ n) (hc : n ≤ c) :
    ∀ W : World, (Instr.slice t (.slice A n c) none (some (.int kh j)) none).run P W = .ok (.slice A j.toNat c) W := by
  intro W
  have hel : P.elem t = e := by simp [Program.elem, ht]
  have hu : P.underlying t = some (.slice (P.elem t)) := by rw [hel]; exact ht
  have ha : (A.map fun x => x.add 0) = A := by cases A <;> simp [Addr.add]
  rw [run_slice_h W t A n c hu kh j h0 (by omega), hel]
  simp [sizeOf, typeInfo, hi, sliced, Result.andThen, ha]
theorem cut_from (t e : TypeId) (kl : IntKind) {i : TypeInfo} (ht : P.underlying t = some (.slice e)) (hi : P.info? e = some i) (size : Nat) (hsz : i.size = size) (A : Option Addr) (n c : Nat) (j : Int) (h0 : 0 ≤ j) (hm : j ≤ n) :
    ∀ W : World, (Instr.slice t (.slice A n c) (some (.int kl j)) none none).run P W = .ok (.slice (if c = j.toNat then A else A.map (·.add (j.toNat * size))) (n - j.toNat) (c - j.toNat)) W := by
  intro W
  have hel : P.elem t = e := by simp [Program.elem, ht]
  have hu : P.underlying t = some (.slice (P.elem t)) := by rw [hel]; exact ht
  rw [run_slice_l W t A n c hu kl j h0 hm, hel]
  simp [sizeOf, typeInfo, hi, hsz, sliced, Result.andThen]
end
/-- A row of one's own that may begin inside its block. -/
def QRow (w : World) (base : Nat) (e : TypeId) (size : Nat) (v : Value) (n : Nat) (xs : List Value) : Prop :=
  xs.length = n * size ∧
  ((n = 0 ∧ ∃ A, v = .slice A 0 0 ∧ ∀ a, A = some a → base ≤ a.block ∧ ∃ cur, w.heap[a.block]? = some (.cells cur e (0, 0))) ∨
   ∃ g off cap cur, v = .slice (some ⟨g, off * size, none⟩) n cap ∧ base ≤ g ∧ w.heap[g]? = some (.cells cur e (0, 0)) ∧ n ≤ cap ∧ off + cap ≤ maxLen ∧ cur.size = (off + cap) * size ∧ (cur.toList.drop (off * size)).take (n * size) = xs)
section
variable {w w1 : World} {base n size : Nat} {e : TypeId} {v : Value} {xs : List Value}
theorem q_of_own (h : w.ownsRow base e size v n xs) : QRow w base e size v n xs := by
  obtain ⟨h1, h2⟩ := h
  refine ⟨h1, ?_⟩
  rcases h2 with ⟨rfl, h0⟩ | ⟨g, cap, cur, rfl, hb, hh, hnc, hcm, hcs, ht⟩
  · exact .inl ⟨h0, none, rfl, fun a ha => by cases ha⟩
  · exact .inr ⟨g, 0, cap, cur, by rw [Nat.zero_mul], hb, hh, hnc, by rw [Nat.zero_add]; exact hcm, by rw [Nat.zero_add]; exact hcs, by rw [Nat.zero_mul, List.drop_zero]; exact ht⟩
theorem add_at (g o j : Nat) : (⟨g, o, none⟩ : Addr).add j = ⟨g, o + j, none⟩ := by unfold Addr.add; split <;> simp_all
end
section
variable {P : Program}
end
namespace Kd
def Q {α : Type} (d : Kd α) (e : Nat) (w : World) (base : Nat) (ok : Nat → Prop) (v : Value) (xs : List α) : Prop :=
  (∀ k, v.ownBlock = some k → ok k) ∧ ∃ inner, QRow w base e d.sz v xs.length inner ∧ Reps (d.M w base (fun k => ok k ∧ some k ≠ v.ownBlock)) d.sz xs inner
section
variable {α : Type} {d : Kd α} {e : Nat} {w w1 W : World} {base : Nat} {ok ok' : Nat → Prop} {v : Value} {xs : List α}
theorem Q_of_R (h : d.R e w base ok v xs) : d.Q e w base ok v xs := by
  obtain ⟨h0, inner, ho, hr⟩ := h
  exact ⟨h0, inner, q_of_own ho, hr⟩
theorem Q_nil (d : Kd α) (e : Nat) (w : World) (base : Nat) (ok : Nat → Prop) : d.Q e w base ok (.slice none 0 0) [] := Q_of_R (R_nil d e w base ok)
end
section
variable {P : Program} {ops : Array Oper} {rest : List Oper} {o : Oper} {a : Act} {Q' : Exit → Act → World → Prop} {Kc : Act → World → Prop} {α : Type}
end
end Kd
namespace Kd
section
variable {α : Type} {d : Kd α} {e e' : Nat} {w w1 W : World} {base : Nat} {ok : Nat → Prop} {u v : Value} {xs : List α}
theorem R_typed (h : d.R e w base ok v xs) : ∀ k, v.ownBlock = some k → ∃ cells, w.heap[k]? = some (.cells cells e (0, 0)) := by
  obtain ⟨inner, ho⟩ := R_own h
  exact fun k hk => own_typed ho k hk
theorem R_elder' (hu : d.R e W base ok u xs) (hbase : ∀ k, v.ownBlock = some k → W.heap.size ≤ k) (hb : Below W.heap.size W w1) : d.R e w1 base (fun k => ok k ∧ some k ≠ v.ownBlock) u xs :=
  R_mono (R_move (R_bound hu) (fun k hk => hb.block k hk.2.2.1)) (fun k hk => ⟨hk.1, fun he => by have := hbase k he.symm; have := hk.2.2.1; omega⟩)
theorem R_new' (h : d.R e w1 W.heap.size ok v xs) (hlt : ∀ k, u.ownBlock = some k → k < W.heap.size) : d.R e w1 W.heap.size (fun k => ok k ∧ some k ≠ u.ownBlock) v xs :=
  R_mono (R_bound h) (fun k hk => ⟨hk.1, fun he => by have := hlt k he.symm; have := hk.2.1; omega⟩)
theorem fresh' (hlt : ∀ k, u.ownBlock = some k → k < W.heap.size) : ∀ k, W.heap.size ≤ k → some k ≠ u.ownBlock := fun k hk he => by have := hlt k he.symm; omega
end
end Kd
namespace Kd
section
variable {α : Type} {d : Kd α} {e base g n cap : Nat} {ok okp : Nat → Prop} {W : World} {xs : List α}
/-- Element i of a row of one's own: its cells. -/
theorem R_elem (h : d.R e W base ok (.slice (some ⟨g, 0, none⟩) n cap) xs) (z : α) (i : Int) (h0 : 0 ≤ i) (h1 : i < n) :
    ∃ c, c.length = d.sz ∧ d.M W base (fun k => ok k ∧ k ≠ g) (xs.getD i.toNat z) c ∧ (∀ j u, c[j]? = some u → W.cell? ⟨g, i.toNat * d.sz + j, none⟩ = some u) ∧ ∀ j, W.frozen? ⟨g, i.toNat * d.sz + j, none⟩ = false := by
  obtain ⟨hn, hnc, hC⟩ := R_reads' h
  obtain ⟨_, inner, ho, hr⟩ := h
  have hil : i.toNat < xs.length := by omega
  have hseg : i.toNat * d.sz + d.sz ≤ inner.length := by rw [hr.1, ← Nat.succ_mul]; exact Nat.mul_le_mul_right _ hil
  have hM := hr.2 i.toNat _ (List.getElem?_eq_getElem hil)
  refine ⟨(inner.drop (i.toNat * d.sz)).take d.sz, by rw [List.length_take, List.length_drop]; omega, ?_, fun j u hu => ?_, fun j => ?_⟩
  · rw [List.getD_eq_getElem?_getD, List.getElem?_eq_getElem hil]
    exact d.M_mono (fun k hk => ⟨hk.1, fun he => hk.2 (by rw [he]; simp [Value.ownBlock])⟩) hM
  · rw [List.getElem?_take] at hu
    split at hu
    · rw [List.getElem?_drop] at hu
      have := ho.cells (g := g) (by simp [Value.ownBlock]) _ u hu
      rwa [add_plain] at this
    · cases hu
  · obtain ⟨cells, hc⟩ := own_typed ho g (by simp [Value.ownBlock])
    exact blk_frozen hc _
end
end Kd
namespace Kd
section
variable {α : Type} {F : Kd α → Kd α} {sz : Nat} {E : List Nat} {hs : ∀ n, (upto F sz E n).sz = sz} {hE : ∀ n q, q ∈ (upto F sz E n).E → q ∈ E}
end
end Kd
namespace Kd
theorem reps_append {α : Type} {R : α → List Value → Prop} {size : Nat} {ps qs : List α} {cs ds : List Value} (h : Reps R size ps cs) (h' : Reps R size qs ds) : Reps R size (ps ++ qs) (cs ++ ds) := by
  refine ⟨by rw [List.length_append, List.length_append, h.1, h'.1, Nat.add_mul], fun j p hj => ?_⟩
  rcases Nat.lt_or_ge j ps.length with hlt | hge
  · rw [List.getElem?_append_left hlt] at hj
    have hle : j * size + size ≤ cs.length := by rw [h.1, ← Nat.succ_mul]; exact Nat.mul_le_mul_right _ hlt
    rw [List.drop_append_of_le_length (by omega), List.take_append_of_le_length (by rw [List.length_drop]; omega)]
    exact h.2 j p hj
  · rw [List.getElem?_append_right hge] at hj
    have h2 := h'.2 (j - ps.length) p hj
    have hle : ps.length * size ≤ j * size := Nat.mul_le_mul_right _ hge
    rw [List.drop_append, List.drop_eq_nil_of_le (by rw [h.1]; exact hle), List.nil_append, h.1, ← Nat.sub_mul]
    exact h2
section
variable {P : Program} {ops : Array Oper} {rest : List Oper} {o : Oper} {a : Act} {Q : Exit → Act → World → Prop} {α : Type}
/-- append(v, ys...): Rr is what is known of a read element's cells (d.K W; or k<T>.K w0 for a row that came in), hKM: it may stand as_ made. -/
theorem R_append_rows (d : Kd α) {Rr : α → List Value → Prop} {w0 W : World} (base : Nat) (hgd : o.guard = none) (s x : Operand) (t e : TypeId) (z : Value) (bytes : Nat)
    (ho : o.op = .call { callee := .builtin .append, args := #[s, x], argTypes := #[t, t] })
    (ht : P.underlying t = some (.slice e)) (hinfo : (P.info? e).map (fun i => (i.zero, i.size, i.bytes)) = some (some z, d.sz, bytes)) (hz : z.cells.size = d.sz) (hs0 : 0 < d.sz) (hb0 : 0 < bytes)
    (v : Value) (xs ys : List α) (A : Option Addr) (m c : Nat) (ok okp : Nat → Prop) (hs : a.eval s = v) (hx : a.eval x = .slice A m c)
    (HO : d.R e W base ok v xs) (HR : ReadsRow Rr d.sz W A m ys) (hKM : ∀ x cs, Rr x cs → d.M W base okp x cs) (hokp : ∀ k, okp k → ok k ∧ some k ≠ v.ownBlock) (hfresh : ∀ k, W.heap.size ≤ k → ok k)
    (HB : Below base w0 W) (hbase : base ≤ W.heap.size) (hl : (xs.length + m) * bytes ≤ 140737488355328)
    (h : ∀ v1 w1, d.R e w1 base ok v1 (xs ++ ys) → Below base w0 w1 → W.grownBy w1 v.ownBlock → (v1.ownBlock = v.ownBlock ∨ ∃ b, v1.ownBlock = some b ∧ W.heap.size ≤ b) → wpList P ops Q rest (a.put o.dst v1) w1) :
    wpList P ops Q (o :: rest) a W := by
  obtain ⟨i0, hi, hzz⟩ := Option.map_eq_some_iff.1 hinfo
  simp only [Prod.mk.injEq] at hzz
  obtain ⟨hz0, hz1, hz2⟩ := hzz
  have hm : ys.length = m := HR.1
  have hlen : xs.length + m ≤ 140737488355328 := Nat.le_trans (Nat.le_mul_of_pos_right _ hb0) hl
  obtain ⟨hok, inner, hown, hr⟩ := HO
  have hrun : ∃ v1 w1, (Builtin.append_ #[t, t] o.type #[v, .slice A m c]).run P W = .ok v1 w1 ∧ d.R e w1 base ok v1 (xs ++ ys) ∧ W.grownBy w1 v.ownBlock ∧ (v1.ownBlock = v.ownBlock ∨ ∃ b, v1.ownBlock = some b ∧ W.heap.size ≤ b) := by
    rcases A with _ | ad
    · have h0 : m = 0 := by
        rcases Nat.eq_zero_or_pos m with h0 | h0
        · exact h0
        · obtain ⟨ad, h, _⟩ := HR.2.2 h0
          cases h
      subst h0
      obtain rfl : ys = [] := List.eq_nil_of_length_eq_zero hm
      refine ⟨v, W, ?_, by rw [List.append_nil]; exact ⟨hok, inner, hown, hr⟩, World.grownBy.refl W _, .inl rfl⟩
      rcases hown.2 with ⟨rfl, hn⟩ | ⟨g, cap, cur, rfl, _, _, hnc, _⟩
      · simp [Builtin.append_, run_underlying ht, sizeOf, typeInfo, hi, Builtin.lenOf, Builtin.firstCells]
      · simp [Builtin.append_, run_underlying ht, sizeOf, typeInfo, hi, Builtin.lenOf, Builtin.firstCells, hnc, storeCells]
    · obtain ⟨news, hnr, hnc⟩ := ReadsRow.inner_ HR
      have hnM : Reps (d.M W base okp) d.sz ys news := hnr.imp_ (fun p c hp => hKM p c hp)
      have hone : ∀ u ∈ news, u.oneCell' = true := by
        intro u hu
        obtain ⟨q, hq, rfl⟩ := List.mem_iff_getElem.1 hu
        have hql : q / d.sz < ys.length := by
          rw [Nat.div_lt_iff_lt_mul hs0]
          rw [← hnM.1]
          exact hq
        have hc := hnM.2 (q / d.sz) _ (List.getElem?_eq_getElem hql)
        refine d.K_one (d.K_of_M hc) _ ?_
        rw [List.mem_iff_getElem?]
        refine ⟨q % d.sz, ?_⟩
        rw [List.getElem?_take, if_pos (Nat.mod_lt _ hs0), List.getElem?_drop, Nat.mul_comm, Nat.div_add_mod, List.getElem?_eq_getElem hq]
      obtain ⟨v1, w1, hrun, h2, hg, _, hat⟩ := run_append_own_at (P := P) W base t o.type e i0 z d.sz bytes ht hi hz0 hz1 hz2 hz hs0 v xs.length inner hown ad m c news (by rw [hnM.1, hm]) hnc hone (by simp only [maxLen]; omega) hl hbase
      have hat' : v1.ownBlock = v.ownBlock ∨ ∃ b, v1.ownBlock = some b ∧ W.heap.size ≤ b := by
        rcases hat with hat | hat
        · exact .inl hat
        · exact .inr ⟨_, hat, Nat.le_refl _⟩
      have hne : ∀ k, some k ≠ v.ownBlock → k < W.heap.size → some k ≠ v1.ownBlock := by
        intro k hk hlt
        rcases hat' with hat | ⟨b, hb, hle⟩
        · rw [hat]; exact hk
        · rw [hb]
          intro he
          injection he with he
          omega
      have step : ∀ {q : α} {c : List Value} {o : Nat → Prop}, d.M W base o q c → (∀ k, o k → ok k ∧ some k ≠ v.ownBlock) → d.M w1 base (fun k => ok k ∧ some k ≠ v1.ownBlock) q c := by
        intro q c o hq ho
        have h1 := d.M_move (w1 := w1) (fun k hk => hg.block k hk.2.2.1 (ho k hk.1).2) (d.M_bound hq)
        exact d.M_mono (fun k hk => ⟨(ho k hk.1).1, hne k (ho k hk.1).2 hk.2.2.1⟩) h1
      refine ⟨v1, w1, hrun, ⟨fun k hk => ?_, inner ++ news, by rw [List.length_append, hm]; exact h2, reps_append (hr.imp_ (fun _ _ hq => step hq (fun _ hk => hk))) (hnM.imp_ (fun _ _ hq => step hq hokp))⟩, hg, hat'⟩
      rcases hat' with hat | ⟨b, hb, hle⟩
      · exact hok k (hat ▸ hk)
      · rw [hb] at hk
        injection hk with hk
        exact hfresh k (by omega)
  obtain ⟨v1, w1, hr1, h1, hg, hat⟩ := hrun
  refine wpList_plain hgd fun K hK => ?_
  unfold Oper.wp execOp
  simp only [ho, resolve, invoke, builtin, Sem.run_bind, Sem.run_pure, Result.andThen_ok, List.map_toArray, List.map_cons, List.map_nil, hs, hx, hr1]
  exact hK _ _ (h v1 w1 h1 (HB.grown hg hbase (own_base hown)) hg hat)
end
end Kd
namespace Kd
section
variable {P : Program} {ops : Array Oper} {rest : List Oper} {o : Oper} {a : Act} {Q : Exit → Act → World → Prop} {α : Type}
end
end Kd
theorem add_add (a : Addr) (i j : Nat) : (a.add i).add j = a.add (i + j) := by
  unfold Addr.add
  by_cases h1 : i = 0 <;> by_cases h2 : j = 0 <;> simp [h1, h2, Nat.add_assoc]
namespace Kd
section
variable {α : Type} {k : Kd α} {w : World} {A : Option Addr} {xs : List α} {m c : Nat}
theorem C_take (h : k.C w A xs.length xs) (hm : m ≤ xs.length) : k.C w A (xs.take m).length (xs.take m) := by
  have hl : (xs.take m).length = m := by rw [List.length_take]; omega
  refine ⟨rfl, by rw [hl]; have := h.2.1; omega, fun hp => ?_⟩
  obtain ⟨ad, e, hc⟩ := h.2.2 (by omega)
  refine ⟨ad, e, fun j p hj => hc j p ?_⟩
  rw [List.getElem?_take] at hj
  split at hj
  · exact hj
  · cases hj
theorem C_drop (h : k.C w A xs.length xs) (hm : m ≤ xs.length) (hc : xs.length ≤ c) : k.C w (if c = m then A else A.map (·.add (m * k.sz))) (xs.drop m).length (xs.drop m) := by
  have hl : (xs.drop m).length = xs.length - m := List.length_drop
  refine ⟨rfl, by rw [hl]; have := h.2.1; omega, fun hp => ?_⟩
  rw [hl] at hp
  obtain ⟨ad, rfl, hcell⟩ := h.2.2 (by omega)
  rw [if_neg (by omega)]
  refine ⟨ad.add (m * k.sz), rfl, fun j p hj => ?_⟩
  rw [List.getElem?_drop] at hj
  obtain ⟨cs, h1, h2, h3⟩ := hcell (m + j) p hj
  refine ⟨cs, h1, h2, fun i u hu => ?_⟩
  rw [add_add, show m * k.sz + (j * k.sz + i) = (m + j) * k.sz + i by rw [Nat.add_mul]; omega]
  exact h3 i u hu
end
end Kd
section
variable {P : Program}
end
theorem string_of_reads {P : Program} {w : World} {src dst e : TypeId} {A : Option Addr} {n c : Nat} {xs : List Int} (hs : P.underlying src = some (.slice e)) (he : P.underlying e = some (.int .u8)) (hd : P.underlying dst = some .string)
    (h : ReadsInt w .u8 A n xs) : (convert src dst (.slice A n c)).run P w = .ok (.string (strOfNums xs)) w := by
  have hn : xs.length = n := h.1
  rcases A with _ | ad
  · have h0 : n = 0 := by
      rcases Nat.eq_zero_or_pos n with h0 | h0
      · exact h0
      · obtain ⟨ad, h', _⟩ := h.2.2 h0
        cases h'
    subst h0
    obtain rfl : xs = [] := List.eq_nil_of_length_eq_zero hn
    exact run_convert_bytes_nil w src e hs he 0 c dst hd
  · have hl : (loadCells ad n).run P w = .ok (xs.map (Value.int .u8)).toArray w := by
      have := run_loadCells_list (P := P) w ad (xs.map (Value.int .u8)) (fun j v hj => by
        have hjl : j < xs.length := by
          rcases Nat.lt_or_ge j xs.length with h' | h'
          · exact h'
          · rw [List.getElem?_eq_none (by rw [List.length_map]; exact h')] at hj
            cases hj
        obtain ⟨ad', he', hc⟩ := h.2.2 (by omega)
        injection he' with he'
        subst he'
        rw [hc j (by omega)]
        rw [List.getElem?_map, List.getElem?_eq_getElem hjl] at hj
        simp at hj
        subst hj
        simp [List.getD_eq_getElem?_getD, List.getElem?_eq_getElem hjl])
      simpa [hn] using this
    rw [run_convert_bytes_string w src dst e _ n c hs he hd, run_bytesToString w ad n c xs hl, foldl_push_bytes]
    simp [strOfNums, ByteArray.empty, ByteArray.emptyWithCapacity]
    rfl
theorem Kd.C_string {P : Program} {w : World} {src dst e : TypeId} {A : Option Addr} {n c : Nat} {xs : List Int} (hs : P.underlying src = some (.slice e)) (he : P.underlying e = some (.int .u8)) (hd : P.underlying dst = some .string)
    (h : (Kd.int .u8).C w A n xs) : (convert src dst (.slice A n c)).run P w = .ok (.string (strOfNums xs)) w :=
  string_of_reads hs he hd (Kd.reads_of_C (enc := Value.int .u8) (d := (0 : Int)) (h1 := fun _ => rfl) h)
theorem below_size {w W : World} (h : Below w.heap.size w W) : w.heap.size ≤ W.heap.size := h.size
theorem below_step {w W w2 : World} (h : Below w.heap.size w W) (k : Below W.heap.size W w2) : Below w.heap.size w w2 := below_then h h.size k
theorem ReadsInt.nil (W : World) (k : IntKind) : ReadsInt W k none ([] : List Int).length [] := ⟨rfl, by simp, fun h => absurd h (Nat.lt_irrefl 0)⟩
theorem ReadsInt.drewN {W : World} {k : IntKind} {A : Option Addr} {n : Nat} {xs : List Int} (h : ReadsInt W k A n xs) (m : Nat) : ReadsInt (W.drewN m) k A n xs := h
theorem below_set {w W : World} {g j : Nat} {v : Value} (h : Below w.heap.size w W) (hg : w.heap.size ≤ g) : Below w.heap.size w (W.setCell ⟨g, j, none⟩ v) := h.setCell hg _
theorem add_block (a : Addr) (i : Nat) : (a.add i).block = a.block := by unfold Addr.add; split <;> rfl
theorem ReadsOf.nil {α : Type} (enc : α → Value) (d : α) (W : World) : ReadsOf enc d W none ([] : List α).length [] := ⟨rfl, by simp, fun h => absurd h (Nat.lt_irrefl 0)⟩
theorem ReadsOf.drewN {α : Type} {enc : α → Value} {d : α} {W : World} {A : Option Addr} {n : Nat} {xs : List α} (h : ReadsOf enc d W A n xs) (m : Nat) : ReadsOf enc d (W.drewN m) A n xs := h
theorem cell_far {W : World} {p a : Addr} (h : a.block ≠ p.block) (u : Value) : (W.setCell p u).cell? a = W.cell? a := by
  have := Below.heap_setCell W p u a.block h
  simp [World.cell?, this]
theorem blk_put {w : World} {g : Nat} {t : TypeId} {cs cs' : Array Value} (h : w.heap[g]? = some (.cells cs t (0, 0))) (i : Nat) (u : Value) (e : cs.setIfInBounds i u = cs') : (w.setCell ⟨g, i, none⟩ u).heap[g]? = some (.cells cs' t (0, 0)) := e ▸ blk_set h i u
theorem below_drew1 {base : Nat} {w W : World} (h : Below base w W) : Below base w W.drew := h.drew
namespace Kd
section
variable {α β : Type} {d : Kd α} {d' : Kd β} {e e' base base' n : Nat} {ok ok' : Nat → Prop} {w W w1 W1 : World} {v u : Value} {xs : List α} {ys : List β} {A : Option Addr} {c : Nat}
end
section
variable {α : Type} {enc : α → Value} {h1 : ∀ x, (enc x).oneCell' = true} {w W : World} {A : Option Addr} {n g : Nat} {xs : List α}
end
end Kd
namespace Kd
section
variable {α : Type} {d : Kd α} {e base g : Nat} {ok : Nat → Prop} {w w1 : World} {v : Value} {xs : List α} {o : Obj}
theorem R_newB (h : d.R e w1 w.heap.size ok v xs) (hb : w.heap[g]? = some o) : d.R e w1 w.heap.size (fun k => ok k ∧ k ≠ g) v xs := R_mono (R_bound h) (fun k hk => ⟨hk.1, by have := blk_lt hb; have := hk.2.1; omega⟩)
theorem freshB (hb : w.heap[g]? = some o) : ∀ k, w.heap.size ≤ k → k ≠ g := fun k hk => by have := blk_lt hb; omega
end
end Kd
section
variable {P : Program} {ops : Array Oper} {rest : List Oper} {o : Oper} {a : Act} {Q : Exit → Act → World → Prop}
theorem box_event {W : World} (hgd : o.guard = none) {N : Tmp} (_hd : o.dst = some N) {cs : Array Value} {t : TypeId}
    (hrun : (execOp a.eval o).run P W = .ok (.value (.pointer (some ⟨W.heap.size, 0, none⟩))) (W.alloc (.cells cs t (0, 0))))
    (h : ∀ g, g = W.heap.size → ∀ w1, w1.heap[g]? = some (.cells cs t (0, 0)) → Below W.heap.size W w1 → wpList P ops Q rest (a.put o.dst (.pointer (some ⟨g, 0, none⟩))) w1) : wpList P ops Q (o :: rest) a W :=
  Kd.event_run hgd hrun (h _ rfl _ (blk_new W _) (below_alloc (Below.refl _ _) _))
end
namespace Kd
section
variable {α : Type} {enc : α → Value} {h1 : ∀ x, (enc x).oneCell' = true} {e base g n cap : Nat} {ok : Nat → Prop} {W : World} {xs : List α}
end
end Kd
section
variable {P : Program} {ops : Array Oper} {rest : List Oper} {o : Oper} {a : Act} {Q : Exit → Act → World → Prop}
end
namespace Kd
section
variable {α : Type} {enc : α → Value} {h1 : ∀ x, (enc x).oneCell' = true} {e base g n cap : Nat} {ok : Nat → Prop} {W : World} {xs : List α}
end
end Kd
section
variable {P : Program} {ops : Array Oper} {rest : List Oper} {o : Oper} {a : Act} {Q : Exit → Act → World → Prop} {W : World}
theorem gate_dst {N : Tmp} (_hN : o.dst = some N) (h : wpList P ops Q (o :: rest) a W) : wpList P ops Q (o :: rest) a W := h
end
section
variable {P : Program} {ops : Array Oper} {o : Oper} {a : Act} {Q : Exit → Act → World → Prop} {Kc : Act → World → Prop}
theorem event_step {W w1 : World} {v : Value} (hw : Region.wanted o (yielded ops a.tmps) = true) (hrun : (execOp a.eval o).run P W = .ok (.value v) w1) (h : Kc (a.put o.dst v) w1) : if Region.wanted o (yielded ops a.tmps) = true then Oper.wp P o a W Kc Q else Kc (a.put o.dst undef) W := by
  rw [if_pos hw]
  unfold Oper.wp
  rw [hrun]
  exact h
theorem box_step {W : World} (hw : Region.wanted o (yielded ops a.tmps) = true) {N : Tmp} (_hd : o.dst = some N) {cs : Array Value} {t : TypeId}
    (hrun : (execOp a.eval o).run P W = .ok (.value (.pointer (some ⟨W.heap.size, 0, none⟩))) (W.alloc (.cells cs t (0, 0))))
    (h : ∀ g, g = W.heap.size → ∀ w1, w1.heap[g]? = some (.cells cs t (0, 0)) → Below W.heap.size W w1 → Kc (a.put o.dst (.pointer (some ⟨g, 0, none⟩))) w1) : if Region.wanted o (yielded ops a.tmps) = true then Oper.wp P o a W Kc Q else Kc (a.put o.dst undef) W :=
  event_step hw hrun (h _ rfl _ (blk_new W _) (below_alloc (Below.refl _ _) _))
namespace Kd
variable {α : Type}
theorem R_append_rows_step (d : Kd α) {Rr : α → List Value → Prop} {w0 W : World} (base : Nat) (hw : Region.wanted o (yielded ops a.tmps) = true) (s x : Operand) (t e : TypeId) (z : Value) (bytes : Nat)
    (ho : o.op = .call { callee := .builtin .append, args := #[s, x], argTypes := #[t, t] })
    (ht : P.underlying t = some (.slice e)) (hinfo : (P.info? e).map (fun i => (i.zero, i.size, i.bytes)) = some (some z, d.sz, bytes)) (hz : z.cells.size = d.sz) (hs0 : 0 < d.sz) (hb0 : 0 < bytes)
    (v : Value) (xs ys : List α) (A : Option Addr) (m c : Nat) (ok okp : Nat → Prop) (hs : a.eval s = v) (hx : a.eval x = .slice A m c)
    (HO : d.R e W base ok v xs) (HR : ReadsRow Rr d.sz W A m ys) (hKM : ∀ x cs, Rr x cs → d.M W base okp x cs) (hokp : ∀ k, okp k → ok k ∧ some k ≠ v.ownBlock) (hfresh : ∀ k, W.heap.size ≤ k → ok k)
    (HB : Below base w0 W) (hbase : base ≤ W.heap.size) (hl : (xs.length + m) * bytes ≤ 140737488355328)
    (h : ∀ v1 w1, d.R e w1 base ok v1 (xs ++ ys) → Below base w0 w1 → W.grownBy w1 v.ownBlock → (v1.ownBlock = v.ownBlock ∨ ∃ b, v1.ownBlock = some b ∧ W.heap.size ≤ b) → Kc (a.put o.dst v1) w1) :
    if Region.wanted o (yielded ops a.tmps) = true then Oper.wp P o a W Kc Q else Kc (a.put o.dst undef) W := by
  obtain ⟨i0, hi, hzz⟩ := Option.map_eq_some_iff.1 hinfo
  simp only [Prod.mk.injEq] at hzz
  obtain ⟨hz0, hz1, hz2⟩ := hzz
  have hm : ys.length = m := HR.1
  have hlen : xs.length + m ≤ 140737488355328 := Nat.le_trans (Nat.le_mul_of_pos_right _ hb0) hl
  obtain ⟨hok, inner, hown, hr⟩ := HO
  have hrun : ∃ v1 w1, (Builtin.append_ #[t, t] o.type #[v, .slice A m c]).run P W = .ok v1 w1 ∧ d.R e w1 base ok v1 (xs ++ ys) ∧ W.grownBy w1 v.ownBlock ∧ (v1.ownBlock = v.ownBlock ∨ ∃ b, v1.ownBlock = some b ∧ W.heap.size ≤ b) := by
    rcases A with _ | ad
    · have h0 : m = 0 := by
        rcases Nat.eq_zero_or_pos m with h0 | h0
        · exact h0
        · obtain ⟨ad, h, _⟩ := HR.2.2 h0
          cases h
      subst h0
      obtain rfl : ys = [] := List.eq_nil_of_length_eq_zero hm
      refine ⟨v, W, ?_, by rw [List.append_nil]; exact ⟨hok, inner, hown, hr⟩, World.grownBy.refl W _, .inl rfl⟩
      rcases hown.2 with ⟨rfl, hn⟩ | ⟨g, cap, cur, rfl, _, _, hnc, _⟩
      · simp [Builtin.append_, run_underlying ht, sizeOf, typeInfo, hi, Builtin.lenOf, Builtin.firstCells]
      · simp [Builtin.append_, run_underlying ht, sizeOf, typeInfo, hi, Builtin.lenOf, Builtin.firstCells, hnc, storeCells]
    · obtain ⟨news, hnr, hnc⟩ := ReadsRow.inner_ HR
      have hnM : Reps (d.M W base okp) d.sz ys news := hnr.imp_ (fun p c hp => hKM p c hp)
      have hone : ∀ u ∈ news, u.oneCell' = true := by
        intro u hu
        obtain ⟨q, hq, rfl⟩ := List.mem_iff_getElem.1 hu
        have hql : q / d.sz < ys.length := by
          rw [Nat.div_lt_iff_lt_mul hs0]
          rw [← hnM.1]
          exact hq
        have hc := hnM.2 (q / d.sz) _ (List.getElem?_eq_getElem hql)
        refine d.K_one (d.K_of_M hc) _ ?_
        rw [List.mem_iff_getElem?]
        refine ⟨q % d.sz, ?_⟩
        rw [List.getElem?_take, if_pos (Nat.mod_lt _ hs0), List.getElem?_drop, Nat.mul_comm, Nat.div_add_mod, List.getElem?_eq_getElem hq]
      obtain ⟨v1, w1, hrun, h2, hg, _, hat⟩ := run_append_own_at (P := P) W base t o.type e i0 z d.sz bytes ht hi hz0 hz1 hz2 hz hs0 v xs.length inner hown ad m c news (by rw [hnM.1, hm]) hnc hone (by simp only [maxLen]; omega) hl hbase
      have hat' : v1.ownBlock = v.ownBlock ∨ ∃ b, v1.ownBlock = some b ∧ W.heap.size ≤ b := by
        rcases hat with hat | hat
        · exact .inl hat
        · exact .inr ⟨_, hat, Nat.le_refl _⟩
      have hne : ∀ k, some k ≠ v.ownBlock → k < W.heap.size → some k ≠ v1.ownBlock := by
        intro k hk hlt
        rcases hat' with hat | ⟨b, hb, hle⟩
        · rw [hat]; exact hk
        · rw [hb]
          intro he
          injection he with he
          omega
      have step : ∀ {q : α} {c : List Value} {o : Nat → Prop}, d.M W base o q c → (∀ k, o k → ok k ∧ some k ≠ v.ownBlock) → d.M w1 base (fun k => ok k ∧ some k ≠ v1.ownBlock) q c := by
        intro q c o hq ho
        have h1 := d.M_move (w1 := w1) (fun k hk => hg.block k hk.2.2.1 (ho k hk.1).2) (d.M_bound hq)
        exact d.M_mono (fun k hk => ⟨(ho k hk.1).1, hne k (ho k hk.1).2 hk.2.2.1⟩) h1
      refine ⟨v1, w1, hrun, ⟨fun k hk => ?_, inner ++ news, by rw [List.length_append, hm]; exact h2, reps_append (hr.imp_ (fun _ _ hq => step hq (fun _ hk => hk))) (hnM.imp_ (fun _ _ hq => step hq hokp))⟩, hg, hat'⟩
      rcases hat' with hat | ⟨b, hb, hle⟩
      · exact hok k (hat ▸ hk)
      · rw [hb] at hk
        injection hk with hk
        exact hfresh k (by omega)
  obtain ⟨v1, w1, hr1, h1, hg, hat⟩ := hrun
  rw [if_pos hw]
  unfold Oper.wp execOp
  simp only [ho, resolve, invoke, builtin, Sem.run_bind, Sem.run_pure, Result.andThen_ok, List.map_toArray, List.map_cons, List.map_nil, hs, hx, hr1]
  exact h v1 w1 h1 (HB.grown hg hbase (own_base hown)) hg hat
end Kd
end
section
variable {P : Program} {tmps : Array Value} {w : World}
end
namespace Kd
section
variable {P : Program} {α : Type}
end
section
variable {P : Program} {ops : Array Oper} {rest : List Oper} {o : Oper} {a : Act} {Q : Exit → Act → World → Prop} {Kc : Act → World → Prop} {α : Type}
end
end Kd
end Go.Proofs.YtkgbflcbeeghoaaW.PrintWords

-- PRINTED BY print.sh 35421559b90ae4d0a3588c463048766b98c2df88dd9212a6774a882060cdf62d: not written by this session
namespace Go.Proofs.YtkgbflcbeeghoaaW.PrintLast
section
variable {P : Program} {ops : Array Oper} {Q : Exit → Act → World → Prop} {md : Region.Mode} {S : World → Prop} {ds : List Nat}
/-- Operation d waits for operation i, by a chain of at most 'fuel' edges. -/
def Region.reachB (md : Region.Mode) (ops : Array Oper) (i : Nat) : Nat → Nat → Bool
  | 0, _ => false
  | fuel + 1, d => match ops[d]? with
    | some o => o.after.any fun e => Region.binds md e && (e.on == i || Region.reachB md ops i fuel e.on)
    | none => false
/-- What is listed is closed under the edges. -/
def Region.closedB (md : Region.Mode) (ops : Array Oper) (listed : Array Bool) : Bool :=
  (List.range ops.size).all fun j => !listed.getD j false || match ops[j]? with
    | some o => o.after.all fun e => !Region.binds md e || listed.getD e.on false
    | none => true
/-- Each of ds that has not come up yet waits for number i. -/
def Region.lastB (md : Region.Mode) (ops : Array Oper) (listed : Array Bool) (ds : List Nat) (i : Nat) : Bool :=
  ds.all fun d => listed.getD d true || Region.reachB md ops i ops.size d
def ListedClosed (md : Region.Mode) (ops : Array Oper) (listed : Array Bool) : Prop :=
  ∀ j oj, ops[j]? = some oj → listed.getD j false = true → ∀ e ∈ oj.after, Region.binds md e = true → listed.getD e.on false = true
theorem Region.closedB_spec {listed : Array Bool} (h : Region.closedB md ops listed = true) : ListedClosed md ops listed := by
  intro j oj hj hl e he hb
  have hlt : j < ops.size := (Array.getElem?_eq_some_iff.1 hj).1
  have h1 := List.all_eq_true.1 h j (List.mem_range.2 hlt)
  simp only [hl, hj, Bool.not_true, Bool.false_or] at h1
  have h2 := Array.all_eq_true_iff_forall_mem.1 h1 e he
  simpa [hb] using h2
theorem ListedClosed.set {listed : Array Bool} {i : Nat} (h : ListedClosed md ops listed) (hi : i ∈ Region.ready md ops listed) : ListedClosed md ops (listed.setIfInBounds i true) := by
  obtain ⟨_, oi, hoi, hall⟩ := mem_ready.1 hi
  intro j oj hj hl e he hb
  by_cases hij : i = j
  · subst hij
    have : oj = oi := Option.some.inj (hj.symm.trans hoi)
    subst this
    exact getD_set_true (hall e he hb)
  · rw [getD_set_ne false hij] at hl
    exact getD_set_true (h j oj hj hl e he hb)
theorem Region.reach_listed {listed : Array Bool} {i : Nat} (hc : ListedClosed md ops listed) : ∀ (fuel d : Nat), Region.reachB md ops i fuel d = true → listed.getD d false = true → listed.getD i false = true
  | 0, _, h, _ => by simp [Region.reachB] at h
  | fuel + 1, d, h, hl => by
    unfold Region.reachB at h
    cases ho : ops[d]? with
    | none => rw [ho] at h; simp at h
    | some o =>
      rw [ho] at h
      obtain ⟨e, he, h1⟩ := Array.any_eq_true'.1 h
      simp only [Bool.and_eq_true, Bool.or_eq_true, beq_iff_eq] at h1
      have hle := hc d o ho hl e he h1.1
      rcases h1.2 with h2 | h2
      · rw [← h2]; exact hle
      · exact Region.reach_listed hc fuel e.on h2 hle
/-- What waits for i cannot come up before i is listed. -/
theorem Region.reach_not_ready {listed : Array Bool} {i d fuel : Nat} (hc : ListedClosed md ops listed) (hr : Region.reachB md ops i fuel d = true) (hun : listed.getD i true = false) : d ∉ Region.ready md ops listed := by
  intro hd
  obtain ⟨_, o, ho, hall⟩ := mem_ready.1 hd
  have hi : listed.getD i false = true := by
    cases fuel with
    | zero => simp [Region.reachB] at hr
    | succ n =>
      unfold Region.reachB at hr
      rw [ho] at hr
      obtain ⟨e, he, h1⟩ := Array.any_eq_true'.1 hr
      simp only [Bool.and_eq_true, Bool.or_eq_true, beq_iff_eq] at h1
      have hle := hall e he h1.1
      rcases h1.2 with h2 | h2
      · rw [← h2]; exact hle
      · exact Region.reach_listed hc n e.on h2 hle
  rcases Nat.lt_or_ge i listed.size with h' | h'
  · simp [h'] at hun hi
    rw [hun] at hi
    cases hi
  · simp [Array.getElem?_eq_none h'] at hun
/-- Whatever order is picked from here on, AND 'S' HOLDS BEHIND EVERY OPERATION THAT IS CARRIED OUT, those of ds apart. -/
def wpAnyLast (P : Program) (md : Region.Mode) (ops : Array Oper) (Q : Exit → Act → World → Prop) (S : World → Prop) (ds : List Nat) : Nat → Array Bool → Act → World → Prop
  | 0, listed, a, w => Region.ready md ops listed = [] ∧ Q .normal a w
  | fuel + 1, listed, a, w =>
    (Region.ready md ops listed = [] → Q .normal a w) ∧
    ∀ i ∈ Region.ready md ops listed, wpOp P ops Q i (fun a' w' => (i ∉ ds → S w → S w') ∧ wpAnyLast P md ops Q S ds fuel (listed.setIfInBounds i true) a' w') a w
theorem wpAny_of_last : ∀ (fuel : Nat) (listed : Array Bool) (a : Act) (w : World), wpAnyLast P md ops Q S ds fuel listed a w → wpAny P md ops Q fuel listed a w
  | 0, _, _, _, h => h
  | fuel + 1, _, _, _, h => ⟨h.1, fun i hi => wpOp_mono (fun a' w' h' => wpAny_of_last fuel _ a' w' h'.2) (h.2 i hi)⟩
theorem wpAnyLast_first {i : Nat} {oi : Oper} {v : Value} (hi : ops[i]? = some oi) (hsel : ∀ (j : Nat) (o : Oper) cs b, ops[j]? = some o → o.op ≠ .select cs b)
    (hQ : ∀ c a w, Q (.panic c) (a.put oi.dst v) w → Q (.panic c) a w) (n : Nat) :
    ∀ (fuel : Nat) (listed : Array Bool) (a : Act) (w : World),
      (∀ j oj, ops[j]? = some oj → j ≠ i → listed.getD j true = false → (∀ e ∈ oj.after, Region.binds md e = true → e.on ≠ i) → oi.apart ops oj = true) →
      ListedClosed md ops listed → (∀ d ∈ ds, listed.getD d true = false → Region.reachB md ops i n d = true) →
      i ∈ Region.ready md ops listed → YieldsIf P ops S oi v a → S w →
      wpAnyLast P md ops Q S ds fuel (listed.setIfInBounds i true) (a.put oi.dst v) w → wpAnyLast P md ops Q S ds (fuel + 1) listed a w := by
  intro fuel
  induction fuel with
  | zero =>
    intro listed a w _ _ _ hr hy hS H
    refine ⟨fun h => (by rw [h] at hr; cases hr), fun j hj => ?_⟩
    by_cases hji : j = i
    · subst hji; exact hy.wpOp hi hS ⟨fun _ h => h, H⟩
    · have := ready_mono hj hji
      rw [H.1] at this
      cases this
  | succ fuel ih =>
    intro listed a w hfree hc hd hr hy hS H
    refine ⟨fun h => (by rw [h] at hr; cases hr), fun j hj => ?_⟩
    by_cases hji : j = i
    · subst hji; exact hy.wpOp hi hS ⟨fun _ h => h, H⟩
    · have h1 := H.2 j (ready_mono hj hji)
      obtain ⟨hjun, oj, hoj, hall⟩ := mem_ready.1 hj
      have hiun := (mem_ready.1 hr).1
      have hnot : ∀ e ∈ oj.after, Region.binds md e = true → e.on ≠ i := fun e he hb heq => by
        have h1 := hall e he hb
        rw [heq] at h1
        rcases Nat.lt_or_ge i listed.size with h' | h'
        · simp [h'] at hiun h1; rw [hiun] at h1; cases h1
        · simp [Array.getElem?_eq_none h'] at h1
      have hjd : j ∉ ds := fun hm => Region.reach_not_ready hc (hd j hm hjun) hiun hj
      have h2 := wpOp_putIf hoj (hfree j oj hoj hji hjun hnot) (fun cs b => hsel i oi cs b hi) (fun cs b => hsel j oj cs b hoj) hQ hy h1
      have hfree' : ∀ k ok, ops[k]? = some ok → k ≠ i → (listed.setIfInBounds j true).getD k true = false →
          (∀ e ∈ ok.after, Region.binds md e = true → e.on ≠ i) → oi.apart ops ok = true := fun k ok hk hki hun hno => by
        refine hfree k ok hk hki ?_ hno
        by_cases hjk : j = k
        · subst hjk; exact hjun
        · rw [getD_set_ne true hjk] at hun; exact hun
      have hd' : ∀ d ∈ ds, (listed.setIfInBounds j true).getD d true = false → Region.reachB md ops i n d = true := fun d hm hun => by
        refine hd d hm ?_
        by_cases hjk : j = d
        · subst hjk; exact hjun
        · rw [getD_set_ne true hjk] at hun; exact hun
      refine wpOp_mono (fun a' w' h3 => ⟨h3.2.1, ih (listed.setIfInBounds j true) a' w' hfree' (hc.set hj) hd' (ready_mono hr (Ne.symm hji)) h3.1 (h3.2.1 hjd hS) ?_⟩) h2
      rw [Array.setIfInBounds_comm _ _ hji]
      exact h3.2.2
/-- Take number 'i' first, which yields whatever the world: no S is asked for, nor that anything waits for it. -/
theorem wpAnyLast_any {i : Nat} {oi : Oper} {v : Value} (hi : ops[i]? = some oi) (hsel : ∀ (j : Nat) (o : Oper) cs b, ops[j]? = some o → o.op ≠ .select cs b)
    (hQ : ∀ c a w, Q (.panic c) (a.put oi.dst v) w → Q (.panic c) a w) :
    ∀ (fuel : Nat) (listed : Array Bool) (a : Act) (w : World),
      (∀ j oj, ops[j]? = some oj → j ≠ i → listed.getD j true = false → (∀ e ∈ oj.after, Region.binds md e = true → e.on ≠ i) → oi.apart ops oj = true) →
      i ∈ Region.ready md ops listed → Yields P ops oi v a →
      wpAnyLast P md ops Q S ds fuel (listed.setIfInBounds i true) (a.put oi.dst v) w → wpAnyLast P md ops Q S ds (fuel + 1) listed a w := by
  intro fuel
  induction fuel with
  | zero =>
    intro listed a w _ hr hy H
    refine ⟨fun h => (by rw [h] at hr; cases hr), fun j hj => ?_⟩
    by_cases hji : j = i
    · subst hji; exact (hy.yieldsIf (S := fun _ => True)).wpOp hi trivial ⟨fun _ h => h, H⟩
    · have := ready_mono hj hji
      rw [H.1] at this
      cases this
  | succ fuel ih =>
    intro listed a w hfree hr hy H
    refine ⟨fun h => (by rw [h] at hr; cases hr), fun j hj => ?_⟩
    by_cases hji : j = i
    · subst hji; exact (hy.yieldsIf (S := fun _ => True)).wpOp hi trivial ⟨fun _ h => h, H⟩
    · have h1 := H.2 j (ready_mono hj hji)
      obtain ⟨hjun, oj, hoj, hall⟩ := mem_ready.1 hj
      have hiun := (mem_ready.1 hr).1
      have hnot : ∀ e ∈ oj.after, Region.binds md e = true → e.on ≠ i := fun e he hb heq => by
        have h1 := hall e he hb
        rw [heq] at h1
        rcases Nat.lt_or_ge i listed.size with h' | h'
        · simp [h'] at hiun h1; rw [hiun] at h1; cases h1
        · simp [Array.getElem?_eq_none h'] at h1
      have h2 := wpOp_put hoj (hfree j oj hoj hji hjun hnot) (fun cs b => hsel i oi cs b hi) (fun cs b => hsel j oj cs b hoj) hQ hy h1
      have hfree' : ∀ k ok, ops[k]? = some ok → k ≠ i → (listed.setIfInBounds j true).getD k true = false →
          (∀ e ∈ ok.after, Region.binds md e = true → e.on ≠ i) → oi.apart ops ok = true := fun k ok hk hki hun hno => by
        refine hfree k ok hk hki ?_ hno
        by_cases hjk : j = k
        · subst hjk; exact hjun
        · rw [getD_set_ne true hjk] at hun; exact hun
      refine wpOp_mono (fun a' w' h3 => ⟨h3.2.1, ih (listed.setIfInBounds j true) a' w' hfree' (ready_mono hr (Ne.symm hji)) h3.1 ?_⟩) h2
      rw [Array.setIfInBounds_comm _ _ hji]
      exact h3.2.2
/-- Take number 'i' first. -/
theorem wpAnyLast_take {i : Nat} {oi : Oper} {v : Value} {fuel : Nat} {listed : Array Bool} {a : Act} {w : World} (hi : ops[i]? = some oi)
    (hs : Region.noSelect ops = true) (hf : Region.free md ops listed i = true) (hr : (Region.ready md ops listed).contains i = true)
    (hc : Region.closedB md ops listed = true) (hl : Region.lastB md ops listed ds i = true)
    (hQ : ∀ c a w, Q (.panic c) (a.put oi.dst v) w → Q (.panic c) a w) (hy : YieldsIf P ops S oi v a) (hS : S w)
    (h : wpAnyLast P md ops Q S ds fuel (listed.setIfInBounds i true) (a.put oi.dst v) w) : wpAnyLast P md ops Q S ds (fuel + 1) listed a w :=
  wpAnyLast_first hi (Region.noSelect_spec hs) hQ ops.size fuel listed a w (Region.free_spec hi hf) (Region.closedB_spec hc)
    (fun d hm hun => by have := List.all_eq_true.1 hl d hm; rw [hun] at this; simpa using this) (by simpa using hr) hy hS h
theorem wpAnyLast_all {rs : List Nat} {fuel : Nat} {listed : Array Bool} {a : Act} {w : World} (hr : Region.ready md ops listed = rs) (hne : rs ≠ [])
    (h : ∀ i ∈ rs, wpOp P ops Q i (fun a' w' => (i ∉ ds → S w → S w') ∧ wpAnyLast P md ops Q S ds fuel (listed.setIfInBounds i true) a' w') a w) : wpAnyLast P md ops Q S ds (fuel + 1) listed a w :=
  ⟨fun h0 => absurd (hr ▸ h0) hne, hr ▸ h⟩
theorem wpAnyLast_done {listed : Array Bool} {a : Act} {w : World} (hr : Region.ready md ops listed = []) (h : Q .normal a w) :
    ∀ fuel, wpAnyLast P md ops Q S ds fuel listed a w
  | 0 => ⟨hr, h⟩
  | _ + 1 => ⟨fun _ => h, by rw [hr]; simp⟩
theorem wp_region_last {id : Nat} {a : Act} {w : World} (hm : P.follows .mixedOrders = true)
    (h : wpAnyLast P .any ops Q S ds ops.size (Array.replicate ops.size false) a { w with drawn := w.drawn + 1 }) : (Code.region id ops true).wp P Q a w :=
  wp_region_any hm (wpAny_of_last _ _ _ _ h)
end
section
variable {P : Program} {ops : Array Oper} {Q : Exit → Act → World → Prop} {md : Region.Mode} {S : World → Prop} {ds : List Nat}
def AllReadyL (P : Program) (md : Region.Mode) (ops : Array Oper) (Q : Exit → Act → World → Prop) (S : World → Prop) (ds : List Nat) (fuel : Nat) (listed : Array Bool) (a : Act) (w : World) (rs : List Nat) : Prop :=
  ∀ i ∈ rs, wpOp P ops Q i (fun a' w' => (i ∉ ds → S w → S w') ∧ wpAnyLast P md ops Q S ds fuel (listed.setIfInBounds i true) a' w') a w
theorem AllReadyL.nil {fuel : Nat} {listed : Array Bool} {a : Act} {w : World} : AllReadyL P md ops Q S ds fuel listed a w [] := fun _ h => by cases h
theorem AllReadyL.cons {fuel : Nat} {listed : Array Bool} {a : Act} {w : World} {i : Nat} {o : Oper} {rs : List Nat} (ho : ops[i]? = some o) (hd : i ∉ ds)
    (h : ∀ K' : Act → World → Prop, Shut (∀ a w, S w → (S w → wpAnyLast P md ops Q S ds fuel (listed.setIfInBounds i true) a w) → K' a w) → if Region.wanted o (yielded ops a.tmps) = true then Oper.wp P o a w K' Q else K' (a.put o.dst undef) w)
    (hs : AllReadyL P md ops Q S ds fuel listed a w rs) : AllReadyL P md ops Q S ds fuel listed a w (i :: rs) := fun j hj => by
  rcases List.mem_cons.1 hj with rfl | hj
  · exact wpOp_step ho (fun K' hK => h K' (fun a w hS hW => hK a w ⟨fun _ _ => hS, hW hS⟩))
  · exact hs j hj
/-- Behind an operation of ds nothing is shown. -/
theorem AllReadyL.cons_last {fuel : Nat} {listed : Array Bool} {a : Act} {w : World} {i : Nat} {o : Oper} {rs : List Nat} (ho : ops[i]? = some o) (hd : i ∈ ds)
    (h : ∀ K' : Act → World → Prop, Shut (∀ a w, wpAnyLast P md ops Q S ds fuel (listed.setIfInBounds i true) a w → K' a w) → if Region.wanted o (yielded ops a.tmps) = true then Oper.wp P o a w K' Q else K' (a.put o.dst undef) w)
    (hs : AllReadyL P md ops Q S ds fuel listed a w rs) : AllReadyL P md ops Q S ds fuel listed a w (i :: rs) := fun j hj => by
  rcases List.mem_cons.1 hj with rfl | hj
  · exact wpOp_step ho (fun K' hK => h K' (fun a w hW => hK a w ⟨fun hn => absurd hd hn, hW⟩))
  · exact hs j hj
theorem wpAnyLast_ready {rs : List Nat} {fuel : Nat} {listed : Array Bool} {a : Act} {w : World} (hr : Region.ready md ops listed = rs) (hne : rs ≠ [])
    (h : AllReadyL P md ops Q S ds fuel listed a w rs) : wpAnyLast P md ops Q S ds (fuel + 1) listed a w := wpAnyLast_all hr hne h
/-- THE SAME STEPS WITH WHAT HAS COME UP WRITTEN OUT (a literal array of Bools) and one check a step: quicker, and what is printed stays short. -/
theorem start_ {id n : Nat} {a : Act} {w : World} (l : Array Bool) (hm : P.follows .mixedOrders = true) (hn : ops.size = n) (hl : Array.replicate n false = l) (hS : S w.drew)
    (h : S w.drew → wpAnyLast P .any ops Q S ds n l a w.drew) : (Code.region id ops true).wp P Q a w := by
  subst hn
  subst hl
  exact wp_region_last hm (h hS)
def takeB (md : Region.Mode) (ops : Array Oper) (ds : List Nat) (l l' : Array Bool) (i : Nat) : Bool :=
  Region.noSelect ops && Region.free md ops l i && (Region.ready md ops l).contains i && Region.closedB md ops l && Region.lastB md ops l ds i && (l.setIfInBounds i true == l')
theorem take_ {i : Nat} {N : Option Tmp} {oi : Oper} {v : Value} {fuel : Nat} {l : Array Bool} {a : Act} {w : World} (l' : Array Bool) (hi : ops[i]? = some oi) (hN : oi.dst = N) (hc : takeB md ops ds l l' i = true)
    (hQ : ∀ c a w, Q (.panic c) (a.put oi.dst v) w → Q (.panic c) a w) (hy : YieldsIf P ops S oi v a) (hS : S w) {a' : Act} (ha : a.put N v = a')
    (h : wpAnyLast P md ops Q S ds fuel l' a' w) : wpAnyLast P md ops Q S ds (fuel + 1) l a w := by
  subst ha
  subst hN
  simp only [takeB, Bool.and_eq_true, beq_iff_eq] at hc
  obtain ⟨⟨⟨⟨⟨h1, h2⟩, h3⟩, h4⟩, h5⟩, h6⟩ := hc
  subst h6
  exact wpAnyLast_take hi h1 h2 h3 h4 h5 hQ hy hS h
def anyB (md : Region.Mode) (ops : Array Oper) (l l' : Array Bool) (i : Nat) : Bool :=
  Region.noSelect ops && Region.free md ops l i && (Region.ready md ops l).contains i && (l.setIfInBounds i true == l')
/-- An operation that yields in every world (a move, a number, an address): taken first wherever it may come up, behind a store too. -/
theorem pure_ {i : Nat} {N : Option Tmp} {oi : Oper} {v : Value} {fuel : Nat} {l : Array Bool} {a : Act} {w : World} (l' : Array Bool) (hi : ops[i]? = some oi) (hN : oi.dst = N) (hc : anyB md ops l l' i = true)
    (hQ : ∀ c a w, Q (.panic c) (a.put oi.dst v) w → Q (.panic c) a w) (hy : Yields P ops oi v a) {a' : Act} (ha : a.put N v = a')
    (h : wpAnyLast P md ops Q S ds fuel l' a' w) : wpAnyLast P md ops Q S ds (fuel + 1) l a w := by
  subst ha
  subst hN
  simp only [anyB, Bool.and_eq_true, beq_iff_eq] at hc
  obtain ⟨⟨⟨h1, h2⟩, h3⟩, h6⟩ := hc
  subst h6
  exact wpAnyLast_any hi (Region.noSelect_spec h1) hQ fuel l a w (Region.free_spec hi h2) (by simpa using h3) hy h
def readyB (md : Region.Mode) (ops : Array Oper) (l l' : Array Bool) (i : Nat) : Bool := (Region.ready md ops l == [i]) && (l.setIfInBounds i true == l')
/-- One operation alone may come up now (a call, a build, an append ..): it is run, S is shown behind it. -/
theorem one_ {i : Nat} {N : Option Tmp} {oi : Oper} {fuel : Nat} {l : Array Bool} {a : Act} {w : World} (l' : Array Bool) (hi : ops[i]? = some oi) (hN : oi.dst = N) (hc : readyB md ops l l' i = true) (hd : i ∉ ds)
    (h : ∀ K : Act → World → Prop, Shut (∀ a' w', S w' → (S w' → wpAnyLast P md ops Q S ds fuel l' a' w') → K a' w') → if Region.wanted oi (yielded ops a.tmps) = true then Oper.wp P oi a w K Q else K (a.put N undef) w) :
    wpAnyLast P md ops Q S ds (fuel + 1) l a w := by
  subst hN
  simp only [readyB, Bool.and_eq_true, beq_iff_eq] at hc
  obtain ⟨h1, h2⟩ := hc
  subst h2
  exact wpAnyLast_ready h1 (by simp) (AllReadyL.cons hi hd (fun K hK => h K hK) AllReadyL.nil)
/-- The same for one of ds: nothing is shown behind it. -/
theorem last_ {i : Nat} {N : Option Tmp} {oi : Oper} {fuel : Nat} {l : Array Bool} {a : Act} {w : World} (l' : Array Bool) (hi : ops[i]? = some oi) (hN : oi.dst = N) (hc : readyB md ops l l' i = true) (hd : i ∈ ds)
    (h : ∀ K : Act → World → Prop, Shut (∀ a' w', wpAnyLast P md ops Q S ds fuel l' a' w' → K a' w') → if Region.wanted oi (yielded ops a.tmps) = true then Oper.wp P oi a w K Q else K (a.put N undef) w) :
    wpAnyLast P md ops Q S ds (fuel + 1) l a w := by
  subst hN
  simp only [readyB, Bool.and_eq_true, beq_iff_eq] at hc
  obtain ⟨h1, h2⟩ := hc
  subst h2
  exact wpAnyLast_ready h1 (by simp) (AllReadyL.cons_last hi hd (fun K hK => h K hK) AllReadyL.nil)
theorem done_ {l : Array Bool} {a : Act} {w : World} {n : Nat} (hr : (Region.ready md ops l == []) = true) (h : Q .normal a w) : wpAnyLast P md ops Q S ds n l a w := wpAnyLast_done (by simpa using hr) h n
theorem two_ {i j : Nat} {Ni Nj : Option Tmp} {oi oj : Oper} {fuel : Nat} {l : Array Bool} {a : Act} {w : World} (li lj : Array Bool) (hi : ops[i]? = some oi) (hj : ops[j]? = some oj) (hNi : oi.dst = Ni) (hNj : oj.dst = Nj)
    (hc : (Region.ready md ops l == [i, j] && l.setIfInBounds i true == li && l.setIfInBounds j true == lj) = true) (hdi : i ∉ ds) (hdj : j ∉ ds)
    (h1 : ∀ K : Act → World → Prop, Shut (∀ a' w', S w' → (S w' → wpAnyLast P md ops Q S ds fuel li a' w') → K a' w') → if Region.wanted oi (yielded ops a.tmps) = true then Oper.wp P oi a w K Q else K (a.put Ni undef) w)
    (h2 : ∀ K : Act → World → Prop, Shut (∀ a' w', S w' → (S w' → wpAnyLast P md ops Q S ds fuel lj a' w') → K a' w') → if Region.wanted oj (yielded ops a.tmps) = true then Oper.wp P oj a w K Q else K (a.put Nj undef) w) :
    wpAnyLast P md ops Q S ds (fuel + 1) l a w := by
  subst hNi
  subst hNj
  simp only [Bool.and_eq_true, beq_iff_eq] at hc
  obtain ⟨⟨h3, h4⟩, h5⟩ := hc
  subst h4
  subst h5
  exact wpAnyLast_ready h3 (by simp) (AllReadyL.cons hi hdi (fun K hK => h1 K hK) (AllReadyL.cons hj hdj (fun K hK => h2 K hK) AllReadyL.nil))
theorem three_ {i j k : Nat} {Ni Nj Nk : Option Tmp} {oi oj ok : Oper} {fuel : Nat} {l : Array Bool} {a : Act} {w : World} (li lj lk : Array Bool) (hi : ops[i]? = some oi) (hj : ops[j]? = some oj) (hk : ops[k]? = some ok) (hNi : oi.dst = Ni) (hNj : oj.dst = Nj) (hNk : ok.dst = Nk)
    (hc : (Region.ready md ops l == [i, j, k] && l.setIfInBounds i true == li && l.setIfInBounds j true == lj && l.setIfInBounds k true == lk) = true) (hdi : i ∉ ds) (hdj : j ∉ ds) (hdk : k ∉ ds)
    (h1 : ∀ K : Act → World → Prop, Shut (∀ a' w', S w' → (S w' → wpAnyLast P md ops Q S ds fuel li a' w') → K a' w') → if Region.wanted oi (yielded ops a.tmps) = true then Oper.wp P oi a w K Q else K (a.put Ni undef) w)
    (h2 : ∀ K : Act → World → Prop, Shut (∀ a' w', S w' → (S w' → wpAnyLast P md ops Q S ds fuel lj a' w') → K a' w') → if Region.wanted oj (yielded ops a.tmps) = true then Oper.wp P oj a w K Q else K (a.put Nj undef) w)
    (h3 : ∀ K : Act → World → Prop, Shut (∀ a' w', S w' → (S w' → wpAnyLast P md ops Q S ds fuel lk a' w') → K a' w') → if Region.wanted ok (yielded ops a.tmps) = true then Oper.wp P ok a w K Q else K (a.put Nk undef) w) :
    wpAnyLast P md ops Q S ds (fuel + 1) l a w := by
  subst hNi
  subst hNj
  subst hNk
  simp only [Bool.and_eq_true, beq_iff_eq] at hc
  obtain ⟨⟨⟨h4, h5⟩, h6⟩, h7⟩ := hc
  subst h5
  subst h6
  subst h7
  exact wpAnyLast_ready h4 (by simp) (AllReadyL.cons hi hdi (fun K hK => h1 K hK) (AllReadyL.cons hj hdj (fun K hK => h2 K hK) (AllReadyL.cons hk hdk (fun K hK => h3 K hK) AllReadyL.nil)))
/-- The act with some destinations filled. -/
def putAll : Act → List (Tmp × Value) → Act
  | a, [] => a
  | a, (n, v) :: r => putAll (a.put (some n) v) r
/-- What follows, once: s the values that the orders leave, F what is known of them and of the world. -/
theorem join_ {σ : Type} {fuel : Nat} {l : Array Bool} {a : Act} {w : World} (fuel' : Nat) (l' : Array Bool) (ns : σ → List (Tmp × Value)) (F : σ → World → Prop)
    (hcont : ∀ s w', F s w' → wpAnyLast P md ops Q S ds fuel' l' (putAll a (ns s)) w')
    (h : (∀ s w', F s w' → wpAnyLast P md ops Q S ds fuel' l' (putAll a (ns s)) w') → wpAnyLast P md ops Q S ds fuel l a w) : wpAnyLast P md ops Q S ds fuel l a w := h hcont
/-- The act written out. -/
theorem norm_ {fuel : Nat} {l : Array Bool} {a a' : Act} {w : World} (ha : a = a') (h : wpAnyLast P md ops Q S ds fuel l a' w) : wpAnyLast P md ops Q S ds fuel l a w := by
  subst ha
  exact h
/-- A call of a Go function, by its contract. -/
theorem call_ {oi : Oper} {N : Option Tmp} {a : Act} {w : World} {K : Act → World → Prop} (f : FuncId) (args : Array Value) (hw : Region.wanted oi (yielded ops a.tmps) = true) (hN : oi.dst = N) (hrun : (execOp a.eval oi).run P w = .ok (.enter f args) w)
    (h : Calls P f args w fun e w' => ∃ v, e = .returned v ∧ K (a.put N v) w') : if Region.wanted oi (yielded ops a.tmps) = true then Oper.wp P oi a w K Q else K (a.put N undef) w := by
  rw [if_pos hw]
  subst hN
  unfold Oper.wp
  rw [hrun, Oper.upon_enter]
  refine h.mono fun e w'' hh => ?_
  obtain ⟨v, rfl, hk⟩ := hh
  exact hk
theorem enters_ {f : FuncId} {fn : Func} (hf : P.funcs[f]? = some fn) (hname : (fn.name == "runtime.NumGoroutine") = false) (hb : fn.body.isSome = true) (args : Array Value) (w : World) : (callFunc f args).run P w = .ok (.enter f args) w := by
  have h1 : fn.name ≠ "runtime.NumGoroutine" := by simpa using hname
  obtain ⟨c, hc⟩ := Option.isSome_iff_exists.1 hb
  simp [callFunc, hf, h1, hc]
/-- The same, the operation's run shown here: 'goes_ A.func3 (by kernel_rfl) rfl #[..] (by rfl) rfl rfl (by rfl) ?_'. -/
theorem goes_ {oi : Oper} {N : Option Tmp} {a : Act} {w : World} {K : Act → World → Prop} {f : FuncId} {fn : Func} {as_ : Array Operand} {ts : Array TypeId} (hf : P.funcs[f]? = some fn) (hname : (fn.name == "runtime.NumGoroutine") = false) (hb : fn.body.isSome = true) (args : Array Value)
    (hw : Region.wanted oi (yielded ops a.tmps) = true) (hN : oi.dst = N) (hop : oi.op = .call { callee := .value (.func f), args := as_, argTypes := ts }) (hargs : as_.map a.eval = args)
    (h : Calls P f args w fun e w' => ∃ v, e = .returned v ∧ K (a.put N v) w') : if Region.wanted oi (yielded ops a.tmps) = true then Oper.wp P oi a w K Q else K (a.put N undef) w := by
  refine call_ f args hw hN ?_ h
  have he := enters_ hf hname hb args w
  unfold execOp
  simp [hop, resolve, Deferred.ofValue, invoke, Act.eval, hargs, he]
/-- A call in a plain region, as_ an arm of go_wp2_with ('hd' first: it fails at once at another operation). -/
theorem goesL_ {rest : List Oper} {oi : Oper} {a : Act} {w : World} (N : Option Tmp) (hd : oi.dst = N) (hg : oi.guard = none) {f : FuncId} {fn : Func} {as_ : Array Operand} {ts : Array TypeId} (hf : P.funcs[f]? = some fn) (hname : (fn.name == "runtime.NumGoroutine") = false) (hb : fn.body.isSome = true) (args : Array Value)
    (hop : oi.op = .call { callee := .value (.func f), args := as_, argTypes := ts }) (hargs : as_.map a.eval = args)
    (h : Calls P f args w fun e w' => ∃ v, e = .returned v ∧ wpList P ops Q rest (a.put N v) w') : wpList P ops Q (oi :: rest) a w := by
  refine wpList_plain hg fun K hK => ?_
  have he := enters_ hf hname hb args w
  have hrun : (execOp a.eval oi).run P w = .ok (.enter f args) w := by
    unfold execOp
    simp [hop, resolve, Deferred.ofValue, invoke, Act.eval, hargs, he]
  unfold Oper.wp
  rw [hrun, Oper.upon_enter]
  refine h.mono fun e w'' hh => ?_
  obtain ⟨v, rfl, hk⟩ := hh
  subst hd
  exact hK _ _ hk
/-- An operation that yields a value (and may make memory). -/
theorem value_ {oi : Oper} {N : Option Tmp} {a : Act} {w w1 : World} {v : Value} {K : Act → World → Prop} (hw : Region.wanted oi (yielded ops a.tmps) = true) (hN : oi.dst = N) (hrun : (execOp a.eval oi).run P w = .ok (.value v) w1)
    (h : K (a.put N v) w1) : if Region.wanted oi (yielded ops a.tmps) = true then Oper.wp P oi a w K Q else K (a.put N undef) w := by
  rw [if_pos hw]
  subst hN
  unfold Oper.wp
  rw [hrun]
  exact h
/-- A store. -/
theorem skip_ {oi : Oper} {a : Act} {w w1 : World} {K : Act → World → Prop} (hw : Region.wanted oi (yielded ops a.tmps) = true) (hN : oi.dst = none) (hrun : (execOp a.eval oi).run P w = .ok .skip w1)
    (h : K a w1) : if Region.wanted oi (yielded ops a.tmps) = true then Oper.wp P oi a w K Q else K (a.put none undef) w := by
  rw [if_pos hw]
  unfold Oper.wp
  rw [hrun]
  show K (a.put oi.dst undef) w1
  rw [hN]
  exact h
theorem i64_w (n : Int) : IntKind.i64.wrap n = Go.RowKit.wrap64 n := by unfold Go.RowKit.wrap64; exact IntKind.wrap_i64 n
theorem i32_w (n : Int) : IntKind.i32.wrap n = Go.RowKit.wrap32 n := by unfold Go.RowKit.wrap32; exact IntKind.wrap_i32 n
end
end Go.Proofs.YtkgbflcbeeghoaaW.PrintLast

-- PRINTED BY print.sh 35421559b90ae4d0a3588c463048766b98c2df88dd9212a6774a882060cdf62d: not written by this session
namespace Go.Proofs.YtkgbflcbeeghoaaW.PrintLast
open Go.Proofs.YtkgbflcbeeghoaaW.PrintWords (Aside0)
def needsOf (md : Region.Mode) (o : Oper) : List Nat := (o.after.toList.filter (fun e => Region.binds md e)).map (fun e => e.on)
def clashOf (md : Region.Mode) (ops : Array Oper) (i : Nat) (oi : Oper) : List Nat := (List.range ops.size).filter fun j => !(j == i) && match ops[j]? with
  | some oj => !(oj.after.any (fun e => Region.binds md e && e.on == i) || oi.apart ops oj)
  | none => false
/-- No select in it; for each operation: what must have come up before it, and what may not come up behind it if it is taken first. -/
def rtab (md : Region.Mode) (ops : Array Oper) : Bool × List (List Nat × List Nat) := (Region.noSelect ops, (List.range ops.size).map fun i => match ops[i]? with
  | some o => (needsOf md o, clashOf md ops i o)
  | none => ([], []))
def readyAt (T : List (List Nat × List Nat)) (l : List Bool) (i : Nat) : Bool := !l.getD i true && match T[i]? with
  | some r => r.1.all (fun j => l.getD j false)
  | none => false
def readyT (T : List (List Nat × List Nat)) (l : List Bool) : List Nat := (List.range T.length).filter (readyAt T l)
def freeT (T : List (List Nat × List Nat)) (l : List Bool) (i : Nat) : Bool := match T[i]? with
  | some r => r.2.all (fun j => l.getD j true)
  | none => false
def closedT (T : List (List Nat × List Nat)) (l : List Bool) : Bool := (List.range T.length).all fun j => !l.getD j false || match T[j]? with
  | some r => r.1.all (fun k => l.getD k false)
  | none => true
def reachT (T : List (List Nat × List Nat)) (i : Nat) : Nat → Nat → Bool
  | 0, _ => false
  | fuel + 1, d => match T[d]? with
    | some r => r.1.any fun j => j == i || reachT T i fuel j
    | none => false
def lastT (T : List (List Nat × List Nat)) (l : List Bool) (ds : List Nat) (i : Nat) : Bool := ds.all fun d => l.getD d true || reachT T i T.length d
section
variable {md : Region.Mode} {ops : Array Oper} {T : Bool × List (List Nat × List Nat)} {l l' li lj lk : Array Bool} {ds : List Nat} {i j k : Nat}
theorem gd (l : Array Bool) (j : Nat) (b : Bool) : l.getD j b = l.toList.getD j b := by simp [Array.getD_eq_getD_getElem?, List.getD_eq_getElem?_getD]
theorem needs_all (o : Oper) (p : Nat → Bool) : o.after.all (fun e => !Region.binds md e || p e.on) = (needsOf md o).all p := by
  unfold needsOf
  rw [← Array.all_toList]
  induction o.after.toList with
  | nil => rfl
  | cons e r ih =>
    rw [List.all_cons, ih, List.filter_cons]
    cases h : Region.binds md e <;> simp
theorem needs_any (o : Oper) (p : Nat → Bool) : o.after.any (fun e => Region.binds md e && p e.on) = (needsOf md o).any p := by
  unfold needsOf
  rw [← Array.any_toList]
  induction o.after.toList with
  | nil => rfl
  | cons e r ih =>
    rw [List.any_cons, ih, List.filter_cons]
    cases h : Region.binds md e <;> simp
theorem rtab_length : (rtab md ops).2.length = ops.size := by simp [rtab]
theorem rtab_some {o : Oper} (h : ops[i]? = some o) : (rtab md ops).2[i]? = some (needsOf md o, clashOf md ops i o) := by
  have hi := (Array.getElem?_eq_some_iff.1 h).1
  unfold rtab
  rw [List.getElem?_map, List.getElem?_range hi, Option.map_some, h]
theorem rtab_none (h : ops[i]? = none) : (rtab md ops).2[i]? = none := by
  have hi : ops.size ≤ i := Array.getElem?_eq_none_iff.1 h
  exact List.getElem?_eq_none (by rw [rtab_length]; exact hi)
theorem readyAt_eq : readyAt (rtab md ops).2 l.toList i = (!l.getD i true && ((ops[i]?).map (·.after.all fun e => !Region.binds md e || l.getD e.on false)).getD false) := by
  unfold readyAt
  rw [gd]
  cases h : ops[i]? with
  | none => rw [rtab_none h]; rfl
  | some o =>
    rw [rtab_some h]
    simp only [Option.map_some, Option.getD_some]
    rw [← needs_all]
    simp only [gd]
theorem ready_eq : Region.ready md ops l = readyT (rtab md ops).2 l.toList := by
  unfold Region.ready readyT
  rw [rtab_length]
  refine List.filter_congr (fun i _ => ?_)
  rw [readyAt_eq]
theorem free_eq : Region.free md ops l i = freeT (rtab md ops).2 l.toList i := by
  unfold Region.free freeT
  cases h : ops[i]? with
  | none => rw [rtab_none h]
  | some oi =>
    rw [rtab_some h]
    simp only [clashOf]
    rw [List.all_filter]
    congr 1
    funext j
    rw [gd]
    cases hj : ops[j]? with
    | none => cases (j == i) <;> cases (l.toList.getD j true) <;> simp
    | some oj =>
      cases (j == i) <;> cases (l.toList.getD j true) <;> cases (oj.after.any (fun e => Region.binds md e && e.on == i) || oi.apart ops oj) <;> simp_all
theorem closed_eq : Region.closedB md ops l = closedT (rtab md ops).2 l.toList := by
  unfold Region.closedB closedT
  rw [rtab_length]
  congr 1
  funext j
  rw [gd]
  cases h : ops[j]? with
  | none => rw [rtab_none h]
  | some o =>
    rw [rtab_some h]
    simp only
    rw [← needs_all]
    simp only [gd]
theorem reach_eq : ∀ (fuel d : Nat), Region.reachB md ops i fuel d = reachT (rtab md ops).2 i fuel d
  | 0, _ => rfl
  | fuel + 1, d => by
    unfold Region.reachB reachT
    cases h : ops[d]? with
    | none => rw [rtab_none h]
    | some o =>
      rw [rtab_some h]
      simp only
      rw [← needs_any]
      congr 1
      funext e
      rw [reach_eq fuel]
theorem last_eq : Region.lastB md ops l ds i = lastT (rtab md ops).2 l.toList ds i := by
  unfold Region.lastB lastT
  rw [rtab_length]
  congr 1
  funext d
  rw [gd, reach_eq]
theorem readyAt_mem (h : readyAt T.2 l.toList i = true) (hT : rtab md ops = T) : (Region.ready md ops l).contains i = true := by
  subst hT
  rw [ready_eq]
  unfold readyT
  rw [List.contains_iff_mem, List.mem_filter, List.mem_range]
  refine ⟨?_, h⟩
  unfold readyAt at h
  rw [Bool.and_eq_true] at h
  cases hq : (rtab md ops).2[i]? with
  | none => rw [hq] at h; simp at h
  | some r => exact (List.getElem?_eq_some_iff.1 hq).1
theorem set_of (h : (l.toList.set i true == l'.toList) = true) : (l.setIfInBounds i true == l') = true := by
  rw [beq_iff_eq] at h ⊢
  apply Array.ext'
  rw [Array.toList_setIfInBounds]
  exact h
def anyT (T : Bool × List (List Nat × List Nat)) (l l' : List Bool) (i : Nat) : Bool := T.1 && freeT T.2 l i && readyAt T.2 l i && (l.set i true == l')
/-- pure_'s condition out of the table. -/
theorem any_of (hT : rtab md ops = T) (h : anyT T l.toList l'.toList i = true) : anyB md ops l l' i = true := by
  simp only [anyT, Bool.and_eq_true] at h
  obtain ⟨⟨⟨h1, h2⟩, h3⟩, h4⟩ := h
  have h5 := readyAt_mem h3 hT
  have h6 := set_of h4
  subst hT
  simp only [anyB, Bool.and_eq_true]
  exact ⟨⟨⟨h1, by rw [free_eq]; exact h2⟩, h5⟩, h6⟩
def takeT (T : Bool × List (List Nat × List Nat)) (ds : List Nat) (l l' : List Bool) (i : Nat) : Bool := T.1 && freeT T.2 l i && readyAt T.2 l i && closedT T.2 l && lastT T.2 l ds i && (l.set i true == l')
/-- take_'s. -/
theorem take_of (hT : rtab md ops = T) (h : takeT T ds l.toList l'.toList i = true) : takeB md ops ds l l' i = true := by
  simp only [takeT, Bool.and_eq_true] at h
  obtain ⟨⟨⟨⟨⟨h1, h2⟩, h3⟩, h4⟩, h5⟩, h6⟩ := h
  have h7 := readyAt_mem h3 hT
  have h8 := set_of h6
  subst hT
  simp only [takeB, Bool.and_eq_true]
  exact ⟨⟨⟨⟨⟨h1, by rw [free_eq]; exact h2⟩, h7⟩, by rw [closed_eq]; exact h4⟩, by rw [last_eq]; exact h5⟩, h8⟩
/-- one_'s and last_'s. -/
theorem one_of (hT : rtab md ops = T) (h : (readyT T.2 l.toList == [i] && l.toList.set i true == l'.toList) = true) : readyB md ops l l' i = true := by
  simp only [Bool.and_eq_true] at h
  obtain ⟨h1, h2⟩ := h
  subst hT
  simp only [readyB, Bool.and_eq_true]
  exact ⟨by rw [ready_eq]; exact h1, set_of h2⟩
theorem two_of (hT : rtab md ops = T) (h : (readyT T.2 l.toList == [i, j] && l.toList.set i true == li.toList && l.toList.set j true == lj.toList) = true) : (Region.ready md ops l == [i, j] && l.setIfInBounds i true == li && l.setIfInBounds j true == lj) = true := by
  simp only [Bool.and_eq_true] at h ⊢
  obtain ⟨⟨h1, h2⟩, h3⟩ := h
  subst hT
  exact ⟨⟨by rw [ready_eq]; exact h1, set_of h2⟩, set_of h3⟩
theorem three_of (hT : rtab md ops = T) (h : (readyT T.2 l.toList == [i, j, k] && l.toList.set i true == li.toList && l.toList.set j true == lj.toList && l.toList.set k true == lk.toList) = true) :
    (Region.ready md ops l == [i, j, k] && l.setIfInBounds i true == li && l.setIfInBounds j true == lj && l.setIfInBounds k true == lk) = true := by
  simp only [Bool.and_eq_true] at h ⊢
  obtain ⟨⟨⟨h1, h2⟩, h3⟩, h4⟩ := h
  subst hT
  exact ⟨⟨⟨by rw [ready_eq]; exact h1, set_of h2⟩, set_of h3⟩, set_of h4⟩
/-- done_'s. -/
theorem done_of (hT : rtab md ops = T) (h : (readyT T.2 l.toList == []) = true) : (Region.ready md ops l == []) = true := by
  subst hT
  rw [ready_eq]
  exact h
/-- What d waits for, as_ bits: told in the table (B), checked in one pass: each bit is a need of d, or a bit of an earlier need's. -/
def upM (B : List Nat) (d : Nat) : List Nat → Nat
  | [] => 0
  | n :: r => (2 ^ n ||| (if n < d then B.getD n 0 else 0)) ||| upM B d r
def waitsOk (T : List (List Nat × List Nat)) (B : List Nat) : Bool := (List.range T.length).all fun d => match T[d]? with
  | some r => (B.getD d 0 ||| upM B d r.1) == upM B d r.1
  | none => false
theorem upM_bit {B : List Nat} {d i : Nat} : ∀ {ns : List Nat}, (upM B d ns).testBit i = true → ∃ n ∈ ns, n = i ∨ (n < d ∧ (B.getD n 0).testBit i = true)
  | [], h => by simp [upM] at h
  | n :: r, h => by
    unfold upM at h
    rw [Nat.testBit_or, Nat.testBit_or, Bool.or_eq_true, Bool.or_eq_true] at h
    rcases h with (h | h) | h
    · rw [Nat.testBit_two_pow] at h
      exact ⟨n, List.mem_cons_self, .inl (by simpa using h)⟩
    · by_cases hn : n < d
      · rw [if_pos hn] at h
        exact ⟨n, List.mem_cons_self, .inr ⟨hn, h⟩⟩
      · rw [if_neg hn] at h
        simp at h
    · obtain ⟨m, hm, h2⟩ := upM_bit h
      exact ⟨m, List.mem_cons_of_mem _ hm, h2⟩
theorem reach_bit {T : List (List Nat × List Nat)} {B : List Nat} (hB : waitsOk T B = true) : ∀ (fuel d : Nat), d < fuel → d < T.length → (B.getD d 0).testBit i = true → reachT T i fuel d = true
  | 0, d, h, _, _ => by omega
  | fuel + 1, d, h, hd, hb => by
    have h1 := List.all_eq_true.1 hB d (List.mem_range.2 hd)
    cases hr : T[d]? with
    | none => rw [hr] at h1; simp at h1
    | some r =>
      rw [hr] at h1
      simp only [beq_iff_eq] at h1
      have h2 : (upM B d r.1).testBit i = true := by rw [← h1, Nat.testBit_or, hb, Bool.true_or]
      obtain ⟨n, hn, h3⟩ := upM_bit h2
      unfold reachT
      rw [hr]
      simp only
      rw [List.any_eq_true]
      refine ⟨n, hn, ?_⟩
      rcases h3 with rfl | ⟨h4, h5⟩
      · simp
      · rw [reach_bit hB fuel n (by omega) (by omega) h5, Bool.or_true]
def lastW (T : List (List Nat × List Nat)) (B : List Nat) (l : List Bool) (ds : List Nat) (i : Nat) : Bool := ds.all fun d => l.getD d true || (decide (d < T.length) && (B.getD d 0).testBit i)
def takeW (T : Bool × List (List Nat × List Nat)) (B : List Nat) (ds : List Nat) (l l' : List Bool) (i : Nat) : Bool := T.1 && freeT T.2 l i && readyAt T.2 l i && closedT T.2 l && lastW T.2 B l ds i && (l.set i true == l')
/-- take_'s, by the bits. -/
theorem take_ofW {B : List Nat} (hT : rtab md ops = T) (hB : waitsOk T.2 B = true) (h : takeW T B ds l.toList l'.toList i = true) : takeB md ops ds l l' i = true := by
  refine take_of hT ?_
  simp only [takeW, takeT, Bool.and_eq_true] at h ⊢
  obtain ⟨⟨⟨⟨⟨h1, h2⟩, h3⟩, h4⟩, h5⟩, h6⟩ := h
  refine ⟨⟨⟨⟨⟨h1, h2⟩, h3⟩, h4⟩, ?_⟩, h6⟩
  unfold lastW at h5
  unfold lastT
  rw [List.all_eq_true] at h5 ⊢
  intro d hd
  have h7 := h5 d hd
  rw [Bool.or_eq_true, Bool.and_eq_true, decide_eq_true_eq] at h7
  rcases h7 with h7 | ⟨h8, h9⟩
  · rw [h7, Bool.true_or]
  · rw [reach_bit hB _ d h8 h8 h9, Bool.or_true]
theorem with_tabW {P : Program} {Q : Exit → Act → World → Prop} {S : World → Prop} {n : Nat} {a : Act} {w : World} {B : List Nat} (hT : rtab md ops = T) (hB : waitsOk T.2 B = true) (h : Aside0 (rtab md ops = T) → Aside0 (waitsOk T.2 B = true) → wpAnyLast P md ops Q S ds n l a w) : wpAnyLast P md ops Q S ds n l a w := h ⟨hT⟩ ⟨hB⟩
end
/-- The operations of a region, by its number. -/
def opsIn : Code → Nat → Option (Array Oper)
  | .region id ops _, k => if id == k then some ops else none
  | .seq a b, k => match opsIn a k with
    | some o => some o
    | none => opsIn b k
  | .cond _ a b, k => match opsIn a k with
    | some o => some o
    | none => opsIn b k
  | .block _ c, k => opsIn c k
  | .loop c, k => opsIn c k
  | .scope c, k => opsIn c k
  | .rangeFunc _ _ a b, k => match opsIn a k with
    | some o => some o
    | none => opsIn b k
  | _, _ => none
def opsOf (f : Func) (k : Nat) : Array Oper := ((f.body.bind fun c => opsIn c k)).getD #[]
end Go.Proofs.YtkgbflcbeeghoaaW.PrintLast

-- PRINTED BY print.sh 35421559b90ae4d0a3588c463048766b98c2df88dd9212a6774a882060cdf62d: not written by this session
namespace Go.Proofs.YtkgbflcbeeghoaaW.PrintLast
section
variable {P : Program} {ops : Array Oper} {Q : Exit → Act → World → Prop} {md : Region.Mode} {S : World → Prop} {ds : List Nat} {T : Bool × List (List Nat × List Nat)}
end
end Go.Proofs.YtkgbflcbeeghoaaW.PrintLast

-- PRINTED BY print.sh 35421559b90ae4d0a3588c463048766b98c2df88dd9212a6774a882060cdf62d: not written by this session
namespace Go.Proofs.YtkgbflcbeeghoaaW.PrintWords
open Go.RowKit
namespace Kd
section
variable {α : Type} {d : Kd α} {e base g o n cap : Nat} {ok okp : Nat → Prop} {w W : World} {v : Value} {xs : List α}
end
section
variable {α : Type} {enc : α → Value} {h1 : ∀ x, (enc x).oneCell' = true} {e base g o n cap : Nat} {ok : Nat → Prop} {W : World} {xs : List α}
end
end Kd
end Go.Proofs.YtkgbflcbeeghoaaW.PrintWords

-- PRINTED BY print.sh 35421559b90ae4d0a3588c463048766b98c2df88dd9212a6774a882060cdf62d: not written by this session
namespace Go.Proofs.YtkgbflcbeeghoaaW.PrintWords
open Go.RowKit
namespace Kd
/-- An element with its index: its blocks are those that f gives to it. -/
def tag {α : Type} (f : Nat → Nat) (d : Kd α) : Kd (α × Nat) where
  sz := d.sz
  E := d.E
  K := fun w x cs => d.K w x.1 cs
  M := fun w base ok x cs => d.M w base (fun k => ok k ∧ f k = x.2) x.1 cs
  K_len := fun h => d.K_len h
  K_one := fun h => d.K_one h
  K_below := fun hb h => d.K_below hb h
  K_of_M := fun h => d.K_of_M h
  M_mono := fun hok h => d.M_mono (fun k hk => ⟨hok k hk.1, hk.2⟩) h
  M_bound := fun h => d.M_mono (fun _ hk => ⟨⟨hk.1.1, hk.2⟩, hk.1.2⟩) (d.M_bound h)
  M_move := fun hm h => d.M_move (fun k hk => hm k hk.1) h
  M_lower := fun hb h => d.M_lower hb h
/-- The cells themselves. -/
def raw (sz : Nat) : Kd (List Value) where
  sz := sz
  E := []
  K := fun _ x cs => cs = x ∧ cs.length = sz ∧ ∀ u ∈ cs, u.oneCell' = true
  M := fun _ _ _ x cs => cs = x ∧ cs.length = sz ∧ ∀ u ∈ cs, u.oneCell' = true
  K_len := fun h => h.2.1
  K_one := fun h => h.2.2
  K_below := fun _ h => h
  K_of_M := fun h => h
  M_mono := fun _ h => h
  M_bound := fun h => h
  M_move := fun _ h => h
  M_lower := fun _ h => h
/-- A row of elements (type e) of the call's own, no two of which lead to one block. -/
def S {α : Type} (d : Kd α) (e : Nat) (w : World) (base : Nat) (ok : Nat → Prop) (v : Value) (xs : List α) : Prop := ∃ f, (tag f d).R e w base ok v xs.zipIdx
section
variable {α β : Type} {d : Kd α} {d' : Kd β} {e e' : Nat} {w w1 W : World} {base b : Nat} {ok ok' okv oku : Nat → Prop} {u v : Value} {xs : List α} {ys : List β}
theorem zip_at {xs : List α} {j : Nat} {p : α} (h : xs[j]? = some p) : xs.zipIdx[j]? = some (p, j) := by rw [List.getElem?_zipIdx, h, Nat.zero_add]; rfl
theorem S_R (h : S d e w base ok v xs) : d.R e w base ok v xs := by
  obtain ⟨f, h0, inner, ho, hr⟩ := h
  rw [List.length_zipIdx] at ho
  exact ⟨h0, inner, ho, by have := hr.1; rw [List.length_zipIdx] at this; exact this, fun j p hj => d.M_mono (fun _ hk => hk.1) (hr.2 j (p, j) (zip_at hj))⟩
/-- Where a row begins (any row of one's own begins at its block's head). -/
theorem R_head {ad : Addr} {n cap : Nat} (h : d.R e w base ok (.slice (some ad) n cap) xs) : ∃ g, ad = ⟨g, 0, none⟩ := by
  obtain ⟨_, inner, ho, hr⟩ := h
  rcases ho.2 with ⟨hv, _⟩ | ⟨g, cap', cur, hv, _⟩
  · cases hv
  · injection hv with ha _ _
    injection ha with ha
    exact ⟨g, ha⟩
theorem R_getA {ad : Addr} {n cap : Nat} (h : d.R e W base ok (.slice (some ad) n cap) xs) (z : α) (i : Int) (h0 : 0 ≤ i) (h1 : i < n) :
    ∃ c, c.length = d.sz ∧ d.M W base (fun k => ok k ∧ some k ≠ (Value.slice (some ad) n cap).ownBlock) (xs.getD i.toNat z) c ∧ ∀ j u, c[j]? = some u → W.cell? (ad.add (i.toNat * d.sz + j)) = some u := by
  obtain ⟨g, rfl⟩ := R_head h
  obtain ⟨c, hcl, hM, hcc, _⟩ := R_elem h z i h0 h1
  refine ⟨c, hcl, d.M_mono (fun k hk => ⟨hk.1, fun he => hk.2 (by simpa [Value.ownBlock] using he)⟩) hM, fun j u hu => ?_⟩
  rw [add_at, Nat.zero_add]
  exact hcc j u hu
/-- A row whose elements lead to nothing: its blocks are its own one. -/
theorem R_tight (hE : d.E = []) (h : d.R e w base ok v xs) : d.R e w base (fun k => some k = v.ownBlock) v xs := by
  obtain ⟨h0, inner, ho, hr⟩ := h
  refine ⟨fun k hk => hk.symm, inner, ho, hr.imp_ (fun p c hp => d.M_mono (fun k hk => ?_) (d.M_bound hp))⟩
  obtain ⟨_, _, _, q, hq, _⟩ := hk
  rw [hE] at hq
  cases hq
theorem S_nil (d : Kd α) (e : Nat) (w : World) (base : Nat) (ok : Nat → Prop) : S d e w base ok (.slice none 0 0) [] := ⟨fun _ => 0, R_nil _ _ _ _ _⟩
theorem S_mono (h : S d e w base ok v xs) (hok : ∀ k, ok k → ok' k) : S d e w base ok' v xs := by
  obtain ⟨f, h⟩ := h
  exact ⟨f, R_mono h hok⟩
theorem S_bound (h : S d e w base ok v xs) : S d e w base (fun k => ok k ∧ base ≤ k ∧ k < w.heap.size ∧ ∃ q, q ∈ e :: d.E ∧ ∃ cells, w.heap[k]? = some (.cells cells q (0, 0))) v xs := by
  obtain ⟨f, h⟩ := h
  exact ⟨f, R_bound h⟩
theorem S_move (h : S d e w base ok v xs) (hm : ∀ k, ok k → w1.heap[k]? = w.heap[k]?) : S d e w1 base ok v xs := by
  obtain ⟨f, h⟩ := h
  exact ⟨f, R_move h hm⟩
theorem S_lower {base' : Nat} (h : S d e w base ok v xs) (hb : base' ≤ base) : S d e w base' ok v xs := by
  obtain ⟨f, h⟩ := h
  exact ⟨f, R_lower h hb⟩
theorem S_step (h : S d e w base ok v xs) (hm : ∀ k, ok k → k < w.heap.size → w1.heap[k]? = w.heap[k]?) : S d e w1 base ok v xs :=
  S_mono (S_move (S_bound h) (fun k hk => hm k hk.1 hk.2.2.1)) (fun _ hk => hk.1)
theorem S_below (h : S d e w base ok v xs) (hb : Below w.heap.size w w1) : S d e w1 base ok v xs := S_step h (fun k _ hk => hb.block k hk)
theorem S_lt (h : S d e w base ok v xs) : ∀ k, v.ownBlock = some k → k < w.heap.size := R_lt (S_R h)
/-- The owner may be told anew where nothing is said. -/
theorem R_tag {f f' : Nat → Nat} {zs : List (α × Nat)} (h : (tag f d).R e w base ok v zs) (hf : ∀ k, ok k → k < w.heap.size → f' k = f k) : (tag f' d).R e w base ok v zs := by
  obtain ⟨h0, inner, ho, hr⟩ := R_bound h
  exact ⟨fun k hk => (h0 k hk).1, inner, ho, hr.1, fun j p hj => d.M_mono (fun k hk => ⟨⟨hk.1.1.1, hk.1.2⟩, (hf k hk.1.1.1 hk.1.1.2.2.1).trans hk.2⟩) (hr.2 j p hj)⟩
end
section
variable {α β : Type} {d : Kd α} {d' : Kd β} {e e' g : Nat} {w w1 W : World} {base b : Nat} {ok ok' okv oku : Nat → Prop} {u v : Value} {xs : List α} {ys : List β}
theorem S_slice (h : S d e w base ok v xs) : ∃ A c, v = .slice A xs.length c := R_slice (S_R h)
theorem S_reads' {A : Option Addr} {n c : Nat} (h : S d e w base ok (.slice A n c) xs) : n = xs.length ∧ n ≤ c ∧ d.C w A xs.length xs := R_reads' (S_R h)
/-- Only read: its cells and what it leads to, as_ the row has them. -/
theorem S_get {ad : Addr} {n cap : Nat} (h : S d e W base ok (.slice (some ad) n cap) xs) (z : α) (i : Int) (h0 : 0 ≤ i) (h1 : i < n) :
    ∃ c, c.length = d.sz ∧ d.M W base (fun k => ok k ∧ some k ≠ (Value.slice (some ad) n cap).ownBlock) (xs.getD i.toNat z) c ∧ ∀ j u, c[j]? = some u → W.cell? (ad.add (i.toNat * d.sz + j)) = some u := R_getA (S_R h) z i h0 h1
theorem S_newB {o : Obj} (h : S d e w1 w.heap.size ok v xs) (hb : w.heap[g]? = some o) : S d e w1 w.heap.size (fun k => ok k ∧ k ≠ g) v xs := S_mono (S_bound h) (fun k hk => ⟨hk.1, by have := blk_lt hb; have := hk.2.1; omega⟩)
theorem zip_snoc (xs : List α) (p : α) : (xs ++ [p]).zipIdx = xs.zipIdx ++ [(p, xs.length)] := by rw [List.zipIdx_append]; simp
end
section
open Classical in
/-- The next element's blocks are okp: none is one of v's (okv). -/
theorem S_tag {α : Type} {d : Kd α} {e base : Nat} {okv : Nat → Prop} {w : World} {v : Value} {xs : List α} (h : S d e w base okv v xs) (m : Nat) (okp : Nat → Prop) (hap : ∀ k, okp k → ¬ okv k) : ∃ f, (∀ k, okp k → f k = m) ∧ (tag f d).R e w base okv v xs.zipIdx := by
  obtain ⟨f, h⟩ := h
  exact ⟨fun k => if okp k then m else f k, fun k hk => if_pos hk, R_tag h (fun k hk _ => if_neg (fun h2 => hap k h2 hk))⟩
variable {P : Program} {ops : Array Oper} {rest : List Oper} {o : Oper} {a : Act} {Q : Exit → Act → World → Prop} {Kc : Act → World → Prop} {α : Type}
/-- append(v, x), behind 'at_builtin': x's blocks are okp, none of them v's. -/
theorem S_append (d : Kd α) {w0 W : World} (base : Nat) (hgd : o.guard = none) (s x : Operand) (t e : TypeId) (z : Value) (bytes : Nat)
    (ho : o.op = .call { callee := .builtin .append, args := #[s, x], argTypes := #[t, t] })
    (ht : P.underlying t = some (.slice e)) (hinfo : (P.info? e).map (fun i => (i.zero, i.size, i.bytes)) = some (some z, d.sz, bytes)) (hz : z.cells.size = d.sz) (hs0 : 0 < d.sz) (hb0 : 0 < bytes)
    (v : Value) (xs : List α) (p : α) (cs : List Value) (ok okp : Nat → Prop) (hs : a.eval s = v) (hx : a.eval x = .slice (some ⟨W.heap.size, 0, none⟩) 1 1) (hp : d.M W base okp p cs) (hokp : ∀ k, okp k → ok k ∧ some k ≠ v.ownBlock) (hfresh : ∀ k, W.heap.size ≤ k → ok k)
    (HO : S d e W base (fun k => ok k ∧ ¬ okp k) v xs) (HB : Below base w0 W) (hbase : base ≤ W.heap.size) (hl : (xs.length + 1) * bytes ≤ 140737488355328)
    (h : ∀ v1 w1, S d e w1 base ok v1 (xs ++ [p]) → Below base w0 w1 → W.grownBy w1 v.ownBlock → (v1.ownBlock = v.ownBlock ∨ ∃ b, v1.ownBlock = some b ∧ W.heap.size ≤ b) → wpList P ops Q rest (a.put o.dst v1) w1) :
    wpList P ops Q (o :: rest) a (W.alloc (.cells cs.toArray e)) := by
  obtain ⟨f, hf, hR⟩ := S_tag HO xs.length okp (fun _ hk h2 => h2.2 hk)
  refine R_append (tag f d) base hgd s x t e z bytes ho ht hinfo hz hs0 hb0 v xs.zipIdx (p, xs.length) cs ok okp hs hx (d.M_mono (fun k hk => ⟨hk, hf k hk⟩) hp) hokp hfresh (R_mono hR (fun _ hk => hk.1)) HB hbase (by rw [List.length_zipIdx]; exact hl) ?_
  intro v1 w1 hr
  rw [← zip_snoc] at hr
  exact h v1 w1 ⟨f, hr⟩
end
/-- Element i is these cells; the others are d's. -/
def gap {α : Type} (f : Nat → Nat) (d : Kd α) (i : Nat) (c : List Value) : Kd (α × Nat) where
  sz := d.sz
  E := d.E
  K := fun w x cs => (x.2 = i → cs = c ∧ cs.length = d.sz ∧ ∀ u ∈ cs, u.oneCell' = true) ∧ (x.2 ≠ i → d.K w x.1 cs)
  M := fun w base ok x cs => (x.2 = i → cs = c ∧ cs.length = d.sz ∧ ∀ u ∈ cs, u.oneCell' = true) ∧ (x.2 ≠ i → d.M w base (fun k => ok k ∧ f k = x.2) x.1 cs)
  K_len := fun {w x cs} h => by
    by_cases hx : x.2 = i
    · exact (h.1 hx).2.1
    · exact d.K_len (h.2 hx)
  K_one := fun {w x cs} h => by
    by_cases hx : x.2 = i
    · exact (h.1 hx).2.2
    · exact d.K_one (h.2 hx)
  K_below := fun hb h => ⟨h.1, fun hx => d.K_below hb (h.2 hx)⟩
  K_of_M := fun h => ⟨h.1, fun hx => d.K_of_M (h.2 hx)⟩
  M_mono := fun hok h => ⟨h.1, fun hx => d.M_mono (fun k hk => ⟨hok k hk.1, hk.2⟩) (h.2 hx)⟩
  M_bound := fun h => ⟨h.1, fun hx => d.M_mono (fun _ hk => ⟨⟨hk.1.1, hk.2⟩, hk.1.2⟩) (d.M_bound (h.2 hx))⟩
  M_move := fun hm h => ⟨h.1, fun hx => d.M_move (fun k hk => hm k hk.1) (h.2 hx)⟩
  M_lower := fun hb h => ⟨h.1, fun hx => d.M_lower hb (h.2 hx)⟩
def H {α : Type} (d : Kd α) (e : Nat) (w : World) (base : Nat) (ok : Nat → Prop) (v : Value) (xs : List α) (i : Int) (oki : Nat → Prop) (c : List Value) : Prop :=
  (∀ k, oki k → ok k) ∧ ∃ f, (gap f d i.toNat c).R e w base (fun k => ok k ∧ ¬ oki k) v xs.zipIdx
section
variable {α β : Type} {d : Kd α} {e e' g n cap : Nat} {w w1 W : World} {base : Nat} {ok ok' oki okp : Nat → Prop} {u v : Value} {xs : List α} {i : Int} {c : List Value}
open Classical in
end
section
variable {P : Program} {ops : Array Oper} {rest : List Oper} {o : Oper} {a : Act} {Q : Exit → Act → World → Prop} {α : Type}
end
end Kd
end Go.Proofs.YtkgbflcbeeghoaaW.PrintWords

-- PRINTED BY print.sh 35421559b90ae4d0a3588c463048766b98c2df88dd9212a6774a882060cdf62d: not written by this session
namespace Go.Proofs.YtkgbflcbeeghoaaW.PrintWords
open Go.RowKit
namespace Kd
section
variable {α : Type} {n : Nat} {d : Kd α} {hs : 0 < d.sz} {w : World} {base : Nat} {ok : Nat → Prop} {xs : List α} {cs : List Value}
end
section
variable {α : Type} {n : Nat} {enc : α → Value} {h1 : ∀ x, (enc x).oneCell' = true} {hs : 0 < (scalar enc h1).sz} {w : World} {base : Nat} {ok : Nat → Prop} {xs : List α} {cs : List Value}
end
end Kd
end Go.Proofs.YtkgbflcbeeghoaaW.PrintWords

-- PRINTED BY print.sh 35421559b90ae4d0a3588c463048766b98c2df88dd9212a6774a882060cdf62d: not written by this session
namespace Go.Proofs.YtkgbflcbeeghoaaW.PrintWords
open Go.RowKit
section
variable {P : Program}
end
namespace Kd
section
variable {P : Program} {ops : Array Oper} {rest : List Oper} {o : Oper} {a : Act} {Q : Exit → Act → World → Prop} {Kc : Act → World → Prop} {α : Type}
end
section
variable {α : Type} {d : Kd α} {e : Nat} {w : World} {base : Nat} {ok : Nat → Prop} {v : Value} {xs : List α}
end
section
variable {P : Program} {ops : Array Oper} {rest : List Oper} {o : Oper} {a : Act} {Q : Exit → Act → World → Prop} {Kc : Act → World → Prop} {α : Type}
end
end Kd
end Go.Proofs.YtkgbflcbeeghoaaW.PrintWords

-- PRINTED BY print.sh 35421559b90ae4d0a3588c463048766b98c2df88dd9212a6774a882060cdf62d: not written by this session
namespace Go.Proofs.YtkgbflcbeeghoaaW.PrintWords
open Go.RowKit
namespace Kd
/-- What a kind reads lies in the blocks: nothing else of the world is looked at. -/
structure Heap {α : Type} (d : Kd α) : Prop where
  K : ∀ {w w1 : World} {x : α} {cs : List Value}, (∀ k, k < w.heap.size → w1.heap[k]? = w.heap[k]?) → d.K w x cs → d.K w1 x cs
theorem cell_heap {w w1 : World} (hb : ∀ k, k < w.heap.size → w1.heap[k]? = w.heap[k]?) {a : Addr} {v : Value} (h : w.cell? a = some v) : w1.cell? a = some v := by
  have := hb a.block (World.block_lt_of_cell? w a h)
  simpa [World.cell?, this] using h
theorem Heap.C {α : Type} {d : Kd α} (hd : Heap d) {w w1 : World} {A : Option Addr} {n : Nat} {xs : List α} (hb : ∀ k, k < w.heap.size → w1.heap[k]? = w.heap[k]?) (h : d.C w A n xs) : d.C w1 A n xs :=
  ⟨h.1, h.2.1, fun hn => by
    obtain ⟨ad, e, hc⟩ := h.2.2 hn
    refine ⟨ad, e, fun j p hj => ?_⟩
    obtain ⟨c, hs, hr, hcell⟩ := hc j p hj
    exact ⟨c, hs, hd.K hb hr, fun i u hu => cell_heap hb (hcell i u hu)⟩⟩
section
variable {α : Type} {d : Kd α} {e base g n c : Nat} {ok : Nat → Prop} {w w0 W : World} {A : Option Addr} {xs : List α}
end
end Kd
end Go.Proofs.YtkgbflcbeeghoaaW.PrintWords

-- PRINTED BY print.sh 35421559b90ae4d0a3588c463048766b98c2df88dd9212a6774a882060cdf62d: not written by this session
namespace Go.Proofs.YtkgbflcbeeghoaaW.PrintWords
open Go.RowKit
def Kept (w W : World) (S : Nat → Prop) : Prop := w.heap.size ≤ W.heap.size ∧ ∀ i, i < w.heap.size → ¬ S i → W.heap[i]? = w.heap[i]?
section
variable {w W W2 : World} {S S2 S' : Nat → Prop}
theorem Kept.refl (w : World) (S : Nat → Prop) : Kept w w S := ⟨Nat.le_refl _, fun _ _ _ => rfl⟩
theorem Kept.of_below (h : Below w.heap.size w W) (S : Nat → Prop) : Kept w W S := ⟨h.size, fun i hi _ => h.block i hi⟩
theorem Kept.mono (h : Kept w W S) (hs : ∀ k, S k → S' k) : Kept w W S' := ⟨h.1, fun i hi hn => h.2 i hi (fun hk => hn (hs i hk))⟩
theorem Kept.then_ (h : Kept w W S) (k : Kept W W2 S2) (hs : ∀ k, S2 k → S k ∨ w.heap.size ≤ k) : Kept w W2 S :=
  ⟨Nat.le_trans h.1 k.1, fun i hi hn => (k.2 i (Nat.lt_of_lt_of_le hi h.1) (fun h2 => (hs i h2).elim hn (fun h3 => by omega))).trans (h.2 i hi hn)⟩
theorem Kept.of_grown {row : Option Nat} (hg : W.grownBy W2 row) (h : Kept w W S) (hr : ∀ k, row = some k → S k ∨ w.heap.size ≤ k) : Kept w W2 S :=
  h.then_ (S2 := fun k => row = some k) ⟨hg.size, fun i hi hn => hg.block i hi (fun he => hn he.symm)⟩ hr
theorem Kept.below (h : Kept w W S) (hb : Below W.heap.size W W2) : Kept w W2 S := h.then_ (Kept.of_below hb (fun _ => False)) (fun _ hk => hk.elim)
theorem Kept.alloc (h : Kept w W S) (o : Obj) : Kept w (W.alloc o) S := h.below (below_alloc (Below.refl _ _) o)
theorem Kept.drew (h : Kept w W S) : Kept w W.drew S := h
theorem Kept.drewN (h : Kept w W S) (m : Nat) : Kept w (W.drewN m) S := h
theorem Kept.setCell (h : Kept w W S) {p : Addr} (hp : S p.block ∨ w.heap.size ≤ p.block) (u : Value) : Kept w (W.setCell p u) S :=
  h.then_ (S2 := fun k => k = p.block) ⟨by simp [World.setCell], fun i _ hn => Below.heap_setCell W p u i hn⟩ (fun k hk => by rw [hk]; exact hp)
end
namespace Kd
section
variable {α : Type} {d : Kd α} {e base n c : Nat} {ok oki S S2 : Nat → Prop} {w w0 W W1 W2 : World} {v : Value} {A : Option Addr} {xs : List α} {i : Int} {cs : List Value}
end
end Kd
end Go.Proofs.YtkgbflcbeeghoaaW.PrintWords

-- PRINTED BY print.sh 35421559b90ae4d0a3588c463048766b98c2df88dd9212a6774a882060cdf62d: not written by this session
namespace Go.Proofs.YtkgbflcbeeghoaaW.PrintWords
open Go.RowKit
/-- P holds in W and in every world that has W's blocks of ok. -/
def Foot (P : World → Prop) (W : World) (ok : Nat → Prop) : Prop := ∀ W' : World, (∀ k, ok k → k < W.heap.size → W'.heap[k]? = W.heap[k]?) → P W'
theorem heap_lt {W W1 : World} {k : Nat} (h : W1.heap[k]? = W.heap[k]?) (hlt : k < W.heap.size) : k < W1.heap.size := by
  rw [Array.getElem?_eq_getElem hlt] at h
  exact (Array.getElem?_eq_some_iff.1 h).1
namespace Foot
variable {P Q : World → Prop} {W W1 : World} {ok ok' : Nat → Prop}
theorem now (h : Foot P W ok) : P W := h W (fun _ _ _ => rfl)
theorem mono (h : Foot P W ok) (hok : ∀ k, ok k → ok' k) : Foot P W ok' := fun W' hW => h W' (fun k hk hlt => hW k (hok k hk) hlt)
theorem bound (h : Foot P W ok) : Foot P W (fun k => ok k ∧ k < W.heap.size) := fun W' hW => h W' (fun k hk hlt => hW k ⟨hk, hlt⟩ hlt)
theorem step (h : Foot P W ok) (hm : ∀ k, ok k → k < W.heap.size → W1.heap[k]? = W.heap[k]?) : Foot P W1 ok := fun W' hW => h W' (fun k hk hlt => (hW k hk (heap_lt (hm k hk hlt) hlt)).trans (hm k hk hlt))
theorem imp (h : Foot P W ok) (hi : ∀ W', P W' → Q W') : Foot Q W ok := fun W' hW => hi W' (h W' hW)
/-- Moved, and still elder than what is new since W. -/
theorem old (h : Foot P W ok) (hb : Below W.heap.size W W1) : Foot P W1 (fun k => ok k ∧ k < W.heap.size) := (h.bound).step (fun k _ hlt => hb.block k hlt)
end Foot
namespace Kd
/-- A row that is only read: what it leads to lies in ok. -/
def F {α : Type} (d : Kd α) (W : World) (ok : Nat → Prop) (A : Option Addr) (n : Nat) (xs : List α) : Prop := Foot (fun W => d.C W A n xs) W ok
/-- An element's cells: what they lead to lies in ok. -/
def FK {α : Type} (d : Kd α) (W : World) (ok : Nat → Prop) (x : α) (c : List Value) : Prop := Foot (fun W => d.K W x c) W ok
section
variable {α β : Type} {d : Kd α} {e base n n' cc g N : Nat} {ok ok' okp S : Nat → Prop} {w w0 w1 W W1 : World} {A A' : Option Addr} {u v v1 : Value} {xs : List α} {xs' : List β} {d' : Kd β} {x : α} {c : List Value}
theorem F_now (h : F d W ok A n xs) : d.C W A n xs := Foot.now h
theorem F_mono (h : F d W ok A n xs) (hok : ∀ k, ok k → ok' k) : F d W ok' A n xs := Foot.mono h hok
theorem F_bound (h : F d W ok A n xs) : F d W (fun k => ok k ∧ k < W.heap.size) A n xs := Foot.bound h
theorem F_step (h : F d W ok A n xs) (hm : ∀ k, ok k → k < W.heap.size → W1.heap[k]? = W.heap[k]?) : F d W1 ok A n xs := Foot.step h hm
theorem F_imp (h : F d W ok A n xs) (hi : ∀ W', d.C W' A n xs → d'.C W' A' n' xs') : F d' W ok A' n' xs' := Foot.imp h hi
theorem F_below (h : F d W ok A n xs) (hb : Below W.heap.size W W1) : F d W1 ok A n xs := F_step h (fun k _ hlt => hb.block k hlt)
theorem F_alloc (h : F d W ok A n xs) (o : Obj) : F d (W.alloc o) ok A n xs := F_below h (below_alloc (Below.refl _ _) o)
theorem F_drew (h : F d W ok A n xs) : F d W.drew ok A n xs := F_below h (below_drew (Below.refl _ _))
theorem F_drewN (h : F d W ok A n xs) (m : Nat) : F d (W.drewN m) ok A n xs := F_below h (pw_below_drewN (Below.refl _ _) m)
theorem F_far (h : F d W ok A n xs) {p : Addr} (hok : ∀ k, ok k → k ≠ p.block) (u : Value) : F d (W.setCell p u) ok A n xs := F_step h (fun k hk _ => Below.heap_setCell W p u k (hok k hk))
theorem F_nil (d : Kd α) (W : World) (ok : Nat → Prop) : F d W ok none ([] : List α).length [] := fun W' _ => C_nil d W'
/-- A new row's block is none of an elder one's. -/
theorem F_elder' (h : F d W ok A n xs) (hbase : ∀ k, v.ownBlock = some k → W.heap.size ≤ k) (hb : Below W.heap.size W W1) : F d W1 (fun k => ok k ∧ some k ≠ v.ownBlock) A n xs :=
  F_mono (Foot.old h hb) (fun k hk => ⟨hk.1, fun he => by have := hbase k he.symm; have := hk.2; omega⟩)
theorem F_elderB (h : F d W ok A n xs) (a : Nat) (ha : W.heap.size ≤ a) : F d W (fun k => ok k ∧ k ≠ a) A n xs := F_mono (F_bound h) (fun k hk => ⟨hk.1, by have := hk.2; omega⟩)
/-- Behind an append to v (it left v1): what lies apart from v lies apart from v1. -/
theorem F_after (h : F d W (fun k => ok k ∧ some k ≠ v.ownBlock) A n xs) (hg : W.grownBy W1 v.ownBlock) (hat : v1.ownBlock = v.ownBlock ∨ ∃ b, v1.ownBlock = some b ∧ W.heap.size ≤ b) : F d W1 (fun k => ok k ∧ some k ≠ v1.ownBlock) A n xs := by
  refine F_mono (Foot.step (F_bound h) (fun k hk hlt => hg.block k hlt hk.1.2)) (fun k hk => ⟨hk.1.1, ?_⟩)
  rcases hat with hat | ⟨b, hb, hle⟩
  · rw [hat]; exact hk.1.2
  · rw [hb]
    intro he
    injection he with he
    have := hk.2
    omega
theorem R_F (h : d.R e W base ok (.slice A n cc) xs) : F d W ok A n xs := fun W' hW => by
  have h2 := R_reads' (R_step h hW)
  rw [h2.1]
  exact h2.2.2
theorem FK_of_M (h : d.M W base ok x c) : FK d W ok x c := fun _ hW => d.K_of_M (M_step h hW)
end
end Kd
end Go.Proofs.YtkgbflcbeeghoaaW.PrintWords

-- PRINTED BY print.sh 35421559b90ae4d0a3588c463048766b98c2df88dd9212a6774a882060cdf62d: not written by this session
namespace Go.Proofs.YtkgbflcbeeghoaaW.PrintWords
open Go.RowKit
namespace Kd
/-- The cells one behind the other, element by element. -/
def chunks (sz : Nat) (n : Nat) (inner : List Value) : List (List Value) := (List.range n).map fun j => (inner.drop (j * sz)).take sz
theorem chunks_length (sz n : Nat) (inner : List Value) : (chunks sz n inner).length = n := by simp [chunks]
theorem chunks_at {sz n : Nat} {inner : List Value} {j : Nat} (hj : j < n) : (chunks sz n inner)[j]? = some ((inner.drop (j * sz)).take sz) := by simp [chunks, hj]
theorem chunks_get {sz n : Nat} {inner : List Value} {j : Nat} {c : List Value} (h : (chunks sz n inner)[j]? = some c) : c = (inner.drop (j * sz)).take sz := by
  have hj : j < n := by have := (List.getElem?_eq_some_iff.1 h).1; rwa [chunks_length] at this
  rw [chunks_at hj] at h
  injection h with h
  exact h.symm
theorem reps_raw {α : Type} {Rr : α → List Value → Prop} {sz : Nat} {xs : List α} {inner : List Value} (h : Reps Rr sz xs inner) (hR : ∀ x c, Rr x c → c.length = sz ∧ ∀ u ∈ c, u.oneCell' = true) : Reps (fun x cs => cs = x ∧ cs.length = sz ∧ ∀ u ∈ cs, u.oneCell' = true) sz (chunks sz xs.length inner) inner := by
  refine ⟨by rw [chunks_length]; exact h.1, fun j p hj => ?_⟩
  have hjl : j < xs.length := by have := (List.getElem?_eq_some_iff.1 hj).1; rwa [chunks_length] at this
  have hp := chunks_get hj
  exact ⟨hp.symm, hR _ _ (h.2 j _ (List.getElem?_eq_getElem hjl))⟩
section
variable {α : Type} {d : Kd α} {e base n cc g : Nat} {ok ok' okp S : Nat → Prop} {w w1 W W1 : World} {A : Option Addr} {u v v1 : Value} {xs : List α} {x : α} {c : List Value}
/-- A row of elements (type e) of the call's own; what the elements lead to is only read, and is not this row. -/
def N {α : Type} (d : Kd α) (e : Nat) (w : World) (base : Nat) (ok : Nat → Prop) (v : Value) (xs : List α) : Prop :=
  (∀ k, v.ownBlock = some k → ok k) ∧ ∃ rows : List (List Value), rows.length = xs.length ∧ (raw d.sz).R e w base (fun k => some k = v.ownBlock) v rows ∧ ∀ (j : Nat) (x : α) (c : List Value), xs[j]? = some x → rows[j]? = some c → FK d w (fun k => ok k ∧ some k ≠ v.ownBlock) x c
theorem R_N (h : d.R e w base ok v xs) : N d e w base ok v xs := by
  obtain ⟨h0, inner, ho, hr⟩ := h
  refine ⟨h0, chunks d.sz xs.length inner, chunks_length _ _ _, ⟨fun k hk => hk.symm, inner, by rw [chunks_length]; exact ho, reps_raw hr (fun x c hp => ⟨d.K_len (d.K_of_M hp), d.K_one (d.K_of_M hp)⟩)⟩, fun j x c hx hc => ?_⟩
  rw [chunks_get hc]
  exact FK_of_M (hr.2 j x hx)
theorem N_nil (d : Kd α) (e : Nat) (w : World) (base : Nat) (ok : Nat → Prop) : N d e w base ok (.slice none 0 0) [] := R_N (R_nil _ _ _ _ _)
end
end Kd
end Go.Proofs.YtkgbflcbeeghoaaW.PrintWords

-- PRINTED BY print.sh 35421559b90ae4d0a3588c463048766b98c2df88dd9212a6774a882060cdf62d: not written by this session
namespace Go.Proofs.YtkgbflcbeeghoaaW.PrintWords
open Go.RowKit
namespace Kd
section
variable {α : Type} {d : Kd α} {W : World} {g n : Nat} {S ok : Nat → Prop} {A : Option Addr} {ad : Addr} {xs : List α}
end
end Kd
end Go.Proofs.YtkgbflcbeeghoaaW.PrintWords

-- PRINTED BY print.sh 35421559b90ae4d0a3588c463048766b98c2df88dd9212a6774a882060cdf62d: not written by this session
namespace Go.Proofs.YtkgbflcbeeghoaaW.PrintWords
open Go.RowKit
section
variable {w w' u : World} {m B g : Nat} {o : Obj} {row : Option Nat} {S : Nat → Prop} {a : Addr} {v : Value}
theorem below_at (hq : w.drewN m = w') (h : Below B u w) : Below B u w' := by subst hq; exact pw_below_drewN h m
end
namespace Kd
section
variable {α : Type} {d : Kd α} {e base n m : Nat} {ok : Nat → Prop} {w w' : World} {v : Value} {A : Option Addr} {xs : List α}
end
end Kd
end Go.Proofs.YtkgbflcbeeghoaaW.PrintWords

-- PRINTED BY print.sh 35421559b90ae4d0a3588c463048766b98c2df88dd9212a6774a882060cdf62d: not written by this session
namespace Go.Proofs.YtkgbflcbeeghoaaW.PrintWords
open Go.RowKit
section
variable {P : Program} {d : Nat} {xs ys : Array Value} {f : Field} {fs : List Field} {a b : Value} {r s : Bool} {w : World}
end
end Go.Proofs.YtkgbflcbeeghoaaW.PrintWords

-- PRINTED BY print.sh 35421559b90ae4d0a3588c463048766b98c2df88dd9212a6774a882060cdf62d: not written by this session
namespace Go.Proofs.YtkgbflcbeeghoaaW.PrintWords
/-- One cell an element. -/
theorem Reps.one {α : Type} {R : α → List Value → Prop} {ps : List α} {cs : List Value} {p : α} {v : Value} (hp : R p [v]) (h : Reps R 1 ps cs) : Reps R 1 (p :: ps) (v :: cs) := by
  refine ⟨by simp [h.1], fun j q hq => ?_⟩
  cases j with
  | zero =>
    simp only [List.getElem?_cons_zero, Option.some.injEq] at hq
    subst hq
    simpa using hp
  | succ j =>
    simp only [List.getElem?_cons_succ] at hq
    have h1 := h.2 j q hq
    simpa [Nat.mul_one] using h1
/-- More cells an element: told apart by the cells' list. -/
theorem Reps.front {α : Type} {R : α → List Value → Prop} {size : Nat} {ps : List α} {cs c all : List Value} {p : α} (hp : R p c) (hc : c.length = size) (h : Reps R size ps cs) (ha : c ++ cs = all) : Reps R size (p :: ps) all := by
  subst ha
  refine ⟨by rw [List.length_append, hc, h.1, List.length_cons, Nat.succ_mul, Nat.add_comm], fun j q hq => ?_⟩
  cases j with
  | zero =>
    simp only [List.getElem?_cons_zero, Option.some.injEq] at hq
    subst hq
    rw [Nat.zero_mul, List.drop_zero, List.take_append_of_le_length (by omega), List.take_of_length_le (by omega)]
    exact hp
  | succ j =>
    simp only [List.getElem?_cons_succ] at hq
    have h1 := h.2 j q hq
    rw [Nat.succ_mul, List.drop_append, List.drop_of_length_le (by rw [hc]; exact Nat.le_add_left _ _), List.nil_append, hc, Nat.add_sub_cancel]
    exact h1
theorem Reps.c2 {α : Type} {R : α → List Value → Prop} {ps : List α} {cs : List Value} {p : α} {va vb : Value} (hp : R p [va, vb]) (h : Reps R 2 ps cs) : Reps R 2 (p :: ps) (va :: vb :: cs) := Reps.front hp rfl h rfl
theorem Reps.c3 {α : Type} {R : α → List Value → Prop} {ps : List α} {cs : List Value} {p : α} {va vb vc : Value} (hp : R p [va, vb, vc]) (h : Reps R 3 ps cs) : Reps R 3 (p :: ps) (va :: vb :: vc :: cs) := Reps.front hp rfl h rfl
theorem Reps.c4 {α : Type} {R : α → List Value → Prop} {ps : List α} {cs : List Value} {p : α} {va vb vc vd : Value} (hp : R p [va, vb, vc, vd]) (h : Reps R 4 ps cs) : Reps R 4 (p :: ps) (va :: vb :: vc :: vd :: cs) := Reps.front hp rfl h rfl
theorem Reps.c5 {α : Type} {R : α → List Value → Prop} {ps : List α} {cs : List Value} {p : α} {va vb vc vd ve : Value} (hp : R p [va, vb, vc, vd, ve]) (h : Reps R 5 ps cs) : Reps R 5 (p :: ps) (va :: vb :: vc :: vd :: ve :: cs) := Reps.front hp rfl h rfl
theorem Reps.c6 {α : Type} {R : α → List Value → Prop} {ps : List α} {cs : List Value} {p : α} {va vb vc vd ve vf : Value} (hp : R p [va, vb, vc, vd, ve, vf]) (h : Reps R 6 ps cs) : Reps R 6 (p :: ps) (va :: vb :: vc :: vd :: ve :: vf :: cs) := Reps.front hp rfl h rfl
theorem Reps.c7 {α : Type} {R : α → List Value → Prop} {ps : List α} {cs : List Value} {p : α} {va vb vc vd ve vf vg : Value} (hp : R p [va, vb, vc, vd, ve, vf, vg]) (h : Reps R 7 ps cs) : Reps R 7 (p :: ps) (va :: vb :: vc :: vd :: ve :: vf :: vg :: cs) := Reps.front hp rfl h rfl
theorem Reps.c8 {α : Type} {R : α → List Value → Prop} {ps : List α} {cs : List Value} {p : α} {va vb vc vd ve vf vg vh : Value} (hp : R p [va, vb, vc, vd, ve, vf, vg, vh]) (h : Reps R 8 ps cs) : Reps R 8 (p :: ps) (va :: vb :: vc :: vd :: ve :: vf :: vg :: vh :: cs) := Reps.front hp rfl h rfl
theorem Reps.c9 {α : Type} {R : α → List Value → Prop} {ps : List α} {cs : List Value} {p : α} {va vb vc vd ve vf vg vh vi : Value} (hp : R p [va, vb, vc, vd, ve, vf, vg, vh, vi]) (h : Reps R 9 ps cs) : Reps R 9 (p :: ps) (va :: vb :: vc :: vd :: ve :: vf :: vg :: vh :: vi :: cs) := Reps.front hp rfl h rfl
theorem Reps.c10 {α : Type} {R : α → List Value → Prop} {ps : List α} {cs : List Value} {p : α} {va vb vc vd ve vf vg vh vi vj : Value} (hp : R p [va, vb, vc, vd, ve, vf, vg, vh, vi, vj]) (h : Reps R 10 ps cs) : Reps R 10 (p :: ps) (va :: vb :: vc :: vd :: ve :: vf :: vg :: vh :: vi :: vj :: cs) := Reps.front hp rfl h rfl
end Go.Proofs.YtkgbflcbeeghoaaW.PrintWords

-- PRINTED BY print.sh 35421559b90ae4d0a3588c463048766b98c2df88dd9212a6774a882060cdf62d: not written by this session
namespace Go.Proofs.YtkgbflcbeeghoaaW.PrintLast
section
variable {P : Program} {ops : Array Oper} {Q : Exit → Act → World → Prop} {md : Region.Mode} {T : Bool × List (List Nat × List Nat)} {B : List Nat} {O : List Nat} {b : Nat → Bool} {i j n : Nat}
end
end Go.Proofs.YtkgbflcbeeghoaaW.PrintLast

-- PRINTED BY print.sh 35421559b90ae4d0a3588c463048766b98c2df88dd9212a6774a882060cdf62d: not written by this session
namespace Go.Proofs.YtkgbflcbeeghoaaW.PrintWords
open Go.RowKit
end Go.Proofs.YtkgbflcbeeghoaaW.PrintWords
namespace Go.Proofs.YtkgbflcbeeghoaaW.PrintLast
section
variable {ops : Array Oper} {a : Act} {o og : Oper} {g : Nat} {t : Tmp} {u : Bool}
end
end Go.Proofs.YtkgbflcbeeghoaaW.PrintLast

-- PRINTED BY print.sh 35421559b90ae4d0a3588c463048766b98c2df88dd9212a6774a882060cdf62d: not written by this session
namespace Go.Proofs.YtkgbflcbeeghoaaW.PrintWords
open Go.RowKit
section
variable {P : Program} {ops : Array Oper} {rest : List Oper} {o : Oper} {a : Act} {Q : Exit → Act → World → Prop} {W : World}
/-- The gate takes the guard off (hw: 'by rfl', 'by kernel_rfl': the guard's slot holds what is wanted). -/
theorem gate_guard (hw : Region.wanted o (yielded ops a.tmps) = true) (h : wpList P ops Q ({ o with guard := none } :: rest) a W) : wpList P ops Q (o :: rest) a W := by
  have h1 : Region.wanted { o with guard := none } (yielded ops a.tmps) = true := rfl
  unfold wpList at h ⊢
  rw [if_pos h1] at h
  rw [if_pos hw]
  exact h
end
end Go.Proofs.YtkgbflcbeeghoaaW.PrintWords

-- PRINTED BY print.sh 35421559b90ae4d0a3588c463048766b98c2df88dd9212a6774a882060cdf62d: not written by this session
namespace Go.Proofs.YtkgbflcbeeghoaaW.PrintWords
open Go.RowKit
namespace Kd
section
variable {α : Type} {d : Kd α} {e base n cap g : Nat} {ok ok' okp : Nat → Prop} {w w1 W : World} {v v1 : Value} {xs ys : List α}
end
section
variable {P : Program} {ops : Array Oper} {rest : List Oper} {o : Oper} {a : Act} {Q : Exit → Act → World → Prop} {Kc : Act → World → Prop} {α : Type}
end
end Kd
end Go.Proofs.YtkgbflcbeeghoaaW.PrintWords

-- PRINTED BY print.sh 35421559b90ae4d0a3588c463048766b98c2df88dd9212a6774a882060cdf62d: not written by this session
-- PRINTED WORDS (module Derived/Print/More.lean): go-gate-2's additions: an AI agent of Go's test side, Tue Nov 17 2026; no person has read it. Lean checks it.
namespace Go.Proofs.YtkgbflcbeeghoaaW.PrintMore
open Go.RowKit Go.Proofs.YtkgbflcbeeghoaaW.PrintWords
namespace Kd
open Go.Proofs.YtkgbflcbeeghoaaW.PrintWords.Kd
end Kd
namespace Kd
open Go.Proofs.YtkgbflcbeeghoaaW.PrintWords.Kd
section
variable {α : Type} {d : Kd α} {e base g N : Nat} {ok : Nat → Prop} {W w1 : World} {u v : Value} {xs : List α}
end
end Kd
/-- 'max' and 'min' of two whole numbers. -/
theorem max2_int (k k' : IntKind) (x y : Int) : Builtin.max2 (.int k x) (.int k' y) = pure (.int k (if x < y then y else x)) := by simp only [Builtin.max2, gt_iff_lt]
theorem min2_int (k k' : IntKind) (x y : Int) : Builtin.min2 (.int k x) (.int k' y) = pure (.int k (if y < x then y else x)) := by simp only [Builtin.min2]
theorem max_two (ats : Array TypeId) (ty : TypeId) (a b : Value) : Builtin.max_ ats ty #[a, b] = (Builtin.max2 a b >>= fun s => pure s) := by simp only [Builtin.max_, List.foldlM_cons, List.foldlM_nil]
theorem min_two (ats : Array TypeId) (ty : TypeId) (a b : Value) : Builtin.min_ ats ty #[a, b] = (Builtin.min2 a b >>= fun s => pure s) := by simp only [Builtin.min_, List.foldlM_cons, List.foldlM_nil]
theorem max_three (ats : Array TypeId) (ty : TypeId) (a b c : Value) : Builtin.max_ ats ty #[a, b, c] = (Builtin.max2 a b >>= fun s => Builtin.max2 s c >>= fun s => pure s) := by simp only [Builtin.max_, List.foldlM_cons, List.foldlM_nil]
theorem min_three (ats : Array TypeId) (ty : TypeId) (a b c : Value) : Builtin.min_ ats ty #[a, b, c] = (Builtin.min2 a b >>= fun s => Builtin.min2 s c >>= fun s => pure s) := by simp only [Builtin.min_, List.foldlM_cons, List.foldlM_nil]
theorem max_four (ats : Array TypeId) (ty : TypeId) (a b c d : Value) : Builtin.max_ ats ty #[a, b, c, d] = (Builtin.max2 a b >>= fun s => Builtin.max2 s c >>= fun s => Builtin.max2 s d >>= fun s => pure s) := by simp only [Builtin.max_, List.foldlM_cons, List.foldlM_nil]
theorem min_four (ats : Array TypeId) (ty : TypeId) (a b c d : Value) : Builtin.min_ ats ty #[a, b, c, d] = (Builtin.min2 a b >>= fun s => Builtin.min2 s c >>= fun s => Builtin.min2 s d >>= fun s => pure s) := by simp only [Builtin.min_, List.foldlM_cons, List.foldlM_nil]
end Go.Proofs.YtkgbflcbeeghoaaW.PrintMore
namespace Go.Proofs.YtkgbflcbeeghoaaW.PrintWords
open Go.RowKit
section
variable {P : Program} {ops : Array Oper} {rest : List Oper} {o : Oper} {a : Act} {Q : Exit → Act → World → Prop} {W : World}
/-- The operation is a call of this function (a cheap look ahead of a dear step). -/
theorem gate_callee {f : FuncId} {as_ : Array Operand} {ts : Array TypeId} (_ho : o.op = .call { callee := .value (.func f), args := as_, argTypes := ts }) (h : wpList P ops Q (o :: rest) a W) : wpList P ops Q (o :: rest) a W := h
/-- The operation is a builtin over these places. -/
theorem gate_builtin {b : Builtin} {xs : Array Operand} {ts : Array TypeId} (_ho : o.op = .call { callee := .builtin b, args := xs, argTypes := ts }) (h : wpList P ops Q (o :: rest) a W) : wpList P ops Q (o :: rest) a W := h
end
/-- It says x = x, and that is its use: 'rw [drewN_self w]' fails where the world was not drawn, and the row behind it is skipped. -/
theorem drewN_self (w : World) (n : Nat) : w.drewN n = w.drewN n := rfl
namespace Kd
section
variable {α : Type} {d : Kd α} {e base : Nat} {ok : Nat → Prop} {W w1 : World} {v : Value} {xs : List α}
end
section
variable {α : Type} {d : Kd α} {e base g n cap : Nat} {ok oki okp : Nat → Prop} {W : World} {xs : List α} {i : Int} {c : List Value}
end
section
variable {α : Type} {d : Kd α} {e base b b' g N : Nat} {ok ok1 : Nat → Prop} {W W2 w1 : World} {u v : Value} {xs ys : List α} {S : Nat → Prop}
theorem R_reok (hE : d.E = []) (h : d.R e W base ok1 v xs) (hok : ∀ k, v.ownBlock = some k → ok k) : d.R e W base ok v xs := R_mono (R_tight hE h) (fun k hk => hok k hk.symm)
end
end Kd
end Go.Proofs.YtkgbflcbeeghoaaW.PrintWords
namespace Go.Proofs.YtkgbflcbeeghoaaW.PrintWords
open Go.RowKit
namespace Kd
/-- A row that is only read, told by its value: its form, its length, what it leads to (in ok). e and base say nothing; they make it as_ the others are. -/
def V {α : Type} (d : Kd α) (_e : Nat) (W : World) (_base : Nat) (ok : Nat → Prop) (v : Value) (xs : List α) : Prop := ∃ A c, v = .slice A xs.length c ∧ xs.length ≤ c ∧ F d W ok A xs.length xs
section
variable {α β : Type} {d : Kd α} {e base base' n m c g N' lo hi : Nat} {ok ok' S : Nat → Prop} {w W w1 : World} {A : Option Addr} {ad : Addr} {u v v1 : Value} {xs : List α}
theorem V_map (h : V d e W base ok v xs) (hF : ∀ A, F d W ok A xs.length xs → F d w1 ok' A xs.length xs) : V d e w1 base' ok' v xs := by
  obtain ⟨A, c, hv, hl, hf⟩ := h
  exact ⟨A, c, hv, hl, hF A hf⟩
theorem V_mk (hl : xs.length ≤ c) (hf : F d W ok A xs.length xs) : V d e W base ok (.slice A xs.length c) xs := ⟨A, c, rfl, hl, hf⟩
theorem V_slice (h : V d e W base ok v xs) : ∃ A c, v = .slice A xs.length c := by
  obtain ⟨A, c, hv, _⟩ := h
  exact ⟨A, c, hv⟩
theorem V_at (h : V d e W base ok (.slice A n c) xs) : n = xs.length ∧ n ≤ c ∧ F d W ok A xs.length xs := by
  obtain ⟨A', c', hv, hl, hf⟩ := h
  injection hv with ha hn hc
  subst ha; subst hc
  exact ⟨hn, by rw [hn]; exact hl, hf⟩
theorem V_reads' (h : V d e W base ok (.slice A n c) xs) : n = xs.length ∧ n ≤ c ∧ d.C W A xs.length xs := ⟨(V_at h).1, (V_at h).2.1, F_now (V_at h).2.2⟩
theorem V_nil (d : Kd α) (e : Nat) (W : World) (base : Nat) (ok : Nat → Prop) : V d e W base ok (.slice none 0 0) [] := ⟨none, 0, rfl, Nat.le_refl _, F_nil d W ok⟩
theorem R_V (h : d.R e W base ok v xs) : V d e W base' ok v xs := by
  obtain ⟨A, c, rfl⟩ := R_slice h
  exact ⟨A, c, rfl, (R_reads' h).2.1, R_F h⟩
theorem V_mono (h : V d e W base ok v xs) (hok : ∀ k, ok k → ok' k) : V d e W base ok' v xs := V_map h (fun _ hf => F_mono hf hok)
theorem V_lower (h : V d e W base ok v xs) (_ : base' ≤ base) : V d e W base' ok v xs := h
theorem V_below (h : V d e W base ok v xs) (hb : Below W.heap.size W w1) : V d e w1 base ok v xs := V_map h (fun _ hf => F_below hf hb)
theorem V_alloc (h : V d e W base ok v xs) (o : Obj) : V d e (W.alloc o) base ok v xs := V_map h (fun _ hf => F_alloc hf o)
theorem V_drew (h : V d e W base ok v xs) : V d e W.drew base ok v xs := V_map h (fun _ hf => F_drew hf)
theorem V_drewN (h : V d e W base ok v xs) (m : Nat) : V d e (W.drewN m) base ok v xs := V_map h (fun _ hf => F_drewN hf m)
theorem V_far (h : V d e W base ok v xs) {p : Addr} (hok : ∀ k, ok k → k ≠ p.block) (u : Value) : V d e (W.setCell p u) base ok v xs := V_map h (fun _ hf => F_far hf hok u)
theorem V_after (h : V d e W base (fun k => ok k ∧ some k ≠ u.ownBlock) v xs) (hg : W.grownBy w1 u.ownBlock) (hat : v1.ownBlock = u.ownBlock ∨ ∃ b, v1.ownBlock = some b ∧ W.heap.size ≤ b) : V d e w1 base (fun k => ok k ∧ some k ≠ v1.ownBlock) v xs := V_map h (fun _ hf => F_after hf hg hat)
theorem V_afterv (h : V d e W base (fun k => ok k ∧ some k ≠ v.ownBlock) u xs) (hg : W.grownBy w1 v.ownBlock) (hat : v1.ownBlock = v.ownBlock ∨ ∃ b, v1.ownBlock = some b ∧ W.heap.size ≤ b) : V d e w1 base (fun k => ok k ∧ some k ≠ v1.ownBlock) u xs := V_after h hg hat
theorem V_elder' (h : V d e W base ok v xs) (hbase : ∀ k, u.ownBlock = some k → W.heap.size ≤ k) (hb : Below W.heap.size W w1) : V d e w1 base (fun k => ok k ∧ some k ≠ u.ownBlock) v xs := V_map h (fun _ hf => F_elder' hf hbase hb)
theorem V_elderB (h : V d e W base ok v xs) (a : Nat) (ha : W.heap.size ≤ a) : V d e W base (fun k => ok k ∧ k ≠ a) v xs := V_map h (fun _ hf => F_elderB hf a ha)
theorem F_take (h : F d W ok A xs.length xs) (hm : m ≤ xs.length) : F d W ok A (xs.take m).length (xs.take m) := F_imp h (fun _ hC => C_take hC hm)
theorem F_cut (h : F d W ok A xs.length xs) (hm : m ≤ xs.length) (hc : xs.length ≤ c) : F d W ok (if c = m then A else A.map (·.add (m * d.sz))) (xs.drop m).length (xs.drop m) := F_imp h (fun _ hC => C_drop hC hm hc)
theorem R_newM {M : Nat → Prop} (h : d.R e w1 W.heap.size ok v xs) (hle : w.heap.size ≤ W.heap.size) (hM : ∀ k, w.heap.size ≤ k → M k) : d.R e w1 W.heap.size (fun k => M k ∧ ok k) v xs := R_mono (R_bound h) (fun k hk => ⟨hM k (Nat.le_trans hle hk.2.1), hk.1⟩)
end
end Kd
end Go.Proofs.YtkgbflcbeeghoaaW.PrintWords

namespace Go.Proofs.Ytkgbflcbeeghoaa.QFnTrieUndo
open Go.RowKit Go.Proofs.YtkgbflcbeeghoaaW.PrintWords Go.Proofs.YtkgbflcbeeghoaaW.PrintLast Go.Proofs.YtkgbflcbeeghoaaW.PrintMore
attribute [local go_sem] max2_int min2_int max_two min_two max_three min_three max_four min_four   -- for this text's walks alone
set_option linter.unusedVariables false
set_option linter.unusedSimpArgs false
def errW : Option Int → Value
  | none => .nilIface
  | some c => .iface 0 (.int .i64 c)
theorem errW_none : errW none = .nilIface := rfl
theorem errW_some (c : Int) : errW (some c) = .iface 0 (.int .i64 c) := rfl
theorem info3 : (Try.prog.info? 3).map (fun i => (i.zero, i.size, i.bytes)) = some (some (.int .i64 0), 1, 8) := by kernel_rfl
theorem info9 : (Try.prog.info? 9).map (fun i => (i.zero, i.size, i.bytes)) = some (some (.string ⟨#[]⟩), 1, 16) := by kernel_rfl
theorem info30 : (Try.prog.info? 30).map (fun i => (i.zero, i.size, i.bytes)) = some (some (.agg #[(.int .i64 0), (.string ⟨#[]⟩), (.int .i64 0)]), 3, 32) := by kernel_rfl
-- the values' own types
structure S30 where
  f0 : Int
  f1 : ByteArray
  f2 : Int
def z30 : S30 := ⟨(0 : Int), (⟨#[]⟩ : ByteArray), (0 : Int)⟩
def k30 : Kd S30 := Kd.iso (Kd.pair (Kd.int .i64) (Kd.pair Kd.string (Kd.int .i64))) (fun x : S30 => (x.f0, x.f1, x.f2))
theorem k30_open {w : World} {x : S30} {cs : List Value} (h : k30.K w x cs) : cs = [.int .i64 x.f0, .string x.f1, .int .i64 x.f2] := by
  obtain ⟨_, _, rfl, rfl, ⟨_, _, rfl, rfl, rfl⟩⟩ := h
  exact rfl
theorem k30_mkM (w : World) (base : Nat) (ok : Nat → Prop) (x : S30)  : k30.M w base ok x [.int .i64 x.f0, .string x.f1, .int .i64 x.f2] := ⟨[.int .i64 x.f0], [.string x.f1, .int .i64 x.f2], rfl, rfl, ⟨[.string x.f1], [.int .i64 x.f2], rfl, rfl, rfl⟩⟩
def rd_T30 (xs : List S30) (i : Int) : S30 := xs.getD i.toNat z30
theorem at_T30 {w : World} {A : Option Addr} {n : Nat} {xs : List S30} (h : Kd.C k30 w A n xs) (i : Int) (h0 : 0 ≤ i) (h1 : i < n) : ∃ ad , A = some ad ∧ w.cell? (ad.add (i.toNat * 3)) = some (.int .i64 (rd_T30 xs i).f0) ∧ w.cell? ⟨(ad.add (i.toNat * 3)).block, (ad.add (i.toNat * 3)).off + 1, none⟩ = some (.string (rd_T30 xs i).f1) ∧ w.cell? ⟨(ad.add (i.toNat * 3)).block, (ad.add (i.toNat * 3)).off + 2, none⟩ = some (.int .i64 (rd_T30 xs i).f2) := by
  obtain ⟨ad, c, e, _, hK, hc0⟩ := Kd.C_get h z30 i h0 h1
  have hc : ∀ j u, c[j]? = some u → w.cell? (ad.add (i.toNat * 3 + j)) = some u := hc0
  obtain rfl := k30_open hK
  exact ⟨ad, e, hc 0 _ rfl, by rw [← add_field _ _ 1 (by omega)]; exact hc 1 _ rfl, by rw [← add_field _ _ 2 (by omega)]; exact hc 2 _ rfl⟩
structure S26 where
  f0 : Int
  f1 : Bool
  f2 : ByteArray
  f3 : (List ByteArray)
def z26 : S26 := ⟨(0 : Int), false, (⟨#[]⟩ : ByteArray), ([] : List ByteArray)⟩
def k26 : Kd S26 := Kd.iso (Kd.pair (Kd.int .i64) (Kd.pair Kd.bool (Kd.pair Kd.string (Kd.slice 9 Kd.string)))) (fun x : S26 => (x.f0, x.f1, x.f2, x.f3))
theorem k26_open {w : World} {x : S26} {cs : List Value} (h : k26.K w x cs) : ∃ A3 c3, cs = [.int .i64 x.f0, .bool x.f1, .string x.f2, .slice A3 x.f3.length c3] ∧ x.f3.length ≤ c3 ∧ Kd.string.C w A3 x.f3.length x.f3 := by
  obtain ⟨_, _, rfl, rfl, ⟨_, _, rfl, rfl, ⟨_, _, rfl, rfl, ⟨A3, c3, rfl, l3, g3⟩⟩⟩⟩ := h
  exact ⟨A3, c3, rfl, l3, g3⟩
theorem k26_openM {w : World} {base : Nat} {ok : Nat → Prop} {x : S26} {cs : List Value} (h : k26.M w base ok x cs) : ∃ v3, cs = [.int .i64 x.f0, .bool x.f1, .string x.f2, v3] ∧ Kd.string.R 9 w base ok v3 x.f3 := by
  obtain ⟨_, _, rfl, rfl, ⟨_, _, rfl, rfl, ⟨_, _, rfl, rfl, ⟨v3, rfl, g3⟩⟩⟩⟩ := h
  exact ⟨v3, rfl, g3⟩
def rd_T26 (xs : List S26) (i : Int) : S26 := xs.getD i.toNat z26
theorem at_T26 {w : World} {A : Option Addr} {n : Nat} {xs : List S26} (h : Kd.C k26 w A n xs) (i : Int) (h0 : 0 ≤ i) (h1 : i < n) : ∃ ad A3 c3, A = some ad ∧ w.cell? (ad.add (i.toNat * 4)) = some (.int .i64 (rd_T26 xs i).f0) ∧ w.cell? ⟨(ad.add (i.toNat * 4)).block, (ad.add (i.toNat * 4)).off + 1, none⟩ = some (.bool (rd_T26 xs i).f1) ∧ w.cell? ⟨(ad.add (i.toNat * 4)).block, (ad.add (i.toNat * 4)).off + 2, none⟩ = some (.string (rd_T26 xs i).f2) ∧ w.cell? ⟨(ad.add (i.toNat * 4)).block, (ad.add (i.toNat * 4)).off + 3, none⟩ = some (.slice A3 (rd_T26 xs i).f3.length c3) ∧ (rd_T26 xs i).f3.length ≤ c3 ∧ Kd.string.C w A3 (rd_T26 xs i).f3.length (rd_T26 xs i).f3 := by
  obtain ⟨ad, c, e, _, hK, hc0⟩ := Kd.C_get h z26 i h0 h1
  have hc : ∀ j u, c[j]? = some u → w.cell? (ad.add (i.toNat * 4 + j)) = some u := hc0
  obtain ⟨A3, c3, rfl, l3, g3⟩ := k26_open hK
  exact ⟨ad, A3, c3, e, hc 0 _ rfl, by rw [← add_field _ _ 1 (by omega)]; exact hc 1 _ rfl, by rw [← add_field _ _ 2 (by omega)]; exact hc 2 _ rfl, by rw [← add_field _ _ 3 (by omega)]; exact hc 3 _ rfl, l3, g3⟩
abbrev t_ : Bool := true
abbrev f_ : Bool := false
theorem obs_ {α β : Type} {a : α} {f : α → Option β} : (some a).bind f = f a := rfl
theorem A0_ {p : Prop} (h : p) : Aside0 p := ⟨h⟩
theorem od_ {p : Prop} [Decidable p] (h : decide p = true) : p := of_decide_eq_true h
theorem bl_ (w : Go.World) (p : Go.Addr) {v : Go.Value} (h : w.cell? p = some v) : p.block < w.heap.size := Go.World.block_lt_of_cell? w p h
theorem sl1_ : type_of% @List.setIfInBounds_toArray := @List.setIfInBounds_toArray
theorem sl2_ : type_of% @List.set_cons_zero := @List.set_cons_zero
theorem sl3_ : type_of% @List.set_cons_succ := @List.set_cons_succ
theorem sl4_ : type_of% @Nat.lt_of_lt_of_le := @Nat.lt_of_lt_of_le
theorem sl5_ : type_of% @Nat.ne_of_lt := @Nat.ne_of_lt
theorem sl6_ : type_of% @Kd.V_drewN := @Kd.V_drewN
theorem sl7_ : type_of% @Kd.V_alloc := @Kd.V_alloc
theorem sl8_ : type_of% @Kd.V_drew := @Kd.V_drew
theorem sl9_ : type_of% @pw_below_drewN := @pw_below_drewN
theorem sm1_ : type_of% @Kd.R_drewN := @Kd.R_drewN
theorem sm2_ : type_of% @Kd.R_alloc := @Kd.R_alloc
theorem sm3_ : type_of% @Kd.R_drew := @Kd.R_drew
theorem sm4_ : type_of% @below_alloc := @below_alloc
theorem sm5_ : type_of% @below_drew1 := @below_drew1
theorem sm6_ : type_of% @Nat.le_of_eq := @Nat.le_of_eq
theorem sm7_ : type_of% @blk_drewN := @blk_drewN
theorem sm8_ : type_of% @blk_drew := @blk_drew
theorem sm9_ : type_of% @blk_alloc := @blk_alloc
theorem sn1_ : type_of% @below_size := @below_size
theorem sn2_ : type_of% @below_step := @below_step
theorem sn3_ : type_of% @below_set := @below_set
theorem sn4_ : type_of% @blk_below := @blk_below
theorem sn5_ : type_of% @Kd.V_elderB := @Kd.V_elderB
theorem sn6_ : type_of% @Kd.V_below := @Kd.V_below
theorem sn7_ : type_of% @cell_far := @cell_far
theorem sn8_ : type_of% @Nat.ne_of_gt := @Nat.ne_of_gt
theorem sn9_ : type_of% @box_event := @box_event
theorem sp1_ : type_of% @gate_dst := @gate_dst
theorem sp2_ : type_of% @List.length_take := @List.length_take
theorem sp3_ : type_of% @bodyPost_ret := @bodyPost_ret
theorem sp4_ : type_of% @results_cc := @results_cc
theorem sp8_ : type_of% @Kd.C_alloc := @Kd.C_alloc
theorem sp9_ : type_of% @Kd.C_drewN := @Kd.C_drewN
theorem sq1_ : type_of% @Kd.C_drew := @Kd.C_drew
theorem kb_ {p q : Prop} (h : p) (k : p → q := by (intro hh_; (with_reducible repeat (first | refine sm7_ ?_ _ | refine sm8_ ?_ | refine sm9_ ?_ _)); exact hh_)) : q := k h
theorem kv_ {p q : Prop} (h : p) (k : p → q := by (intro hh_; (with_reducible repeat (first | apply sl7_ | apply sl6_ | apply sl8_)); exact hh_)) : q := k h
theorem kr_ {p q : Prop} (h : p) (k : p → q := by (intro hh_; (with_reducible repeat (first | apply sm2_ | apply sm1_ | apply sm3_)); exact hh_)) : q := k h
theorem kw0_ {p q : Prop} (h : p) (k : p → q := by (intro hh_; repeat (first | (with_reducible first | exact hh_ | apply sm4_ | apply sl9_ | apply sm5_) | exact hh_))) : q := k h
theorem kw1_ {p r0 q : Prop} (h : p) (g0 : r0) (k : p → r0 → q := by (intro hh_ g0_; repeat (first | (with_reducible first | exact hh_ | apply sm4_ | apply sl9_ | apply sm5_ | refine sn3_ ?_ g0_) | exact hh_))) : q := k h g0
theorem kw2_ {p r0 r1 q : Prop} (h : p) (g0 : r0) (g1 : r1) (k : p → r0 → r1 → q := by (intro hh_ g0_ g1_; repeat (first | (with_reducible first | exact hh_ | apply sm4_ | apply sl9_ | apply sm5_ | refine sn3_ ?_ g0_ | refine sn3_ ?_ g1_) | exact hh_))) : q := k h g0 g1
theorem kw3_ {p r0 r1 r2 q : Prop} (h : p) (g0 : r0) (g1 : r1) (g2 : r2) (k : p → r0 → r1 → r2 → q := by (intro hh_ g0_ g1_ g2_; repeat (first | (with_reducible first | exact hh_ | apply sm4_ | apply sl9_ | apply sm5_ | refine sn3_ ?_ g0_ | refine sn3_ ?_ g1_ | refine sn3_ ?_ g2_) | exact hh_))) : q := k h g0 g1 g2
theorem kw4_ {p r0 r1 r2 r3 q : Prop} (h : p) (g0 : r0) (g1 : r1) (g2 : r2) (g3 : r3) (k : p → r0 → r1 → r2 → r3 → q := by (intro hh_ g0_ g1_ g2_ g3_; repeat (first | (with_reducible first | exact hh_ | apply sm4_ | apply sl9_ | apply sm5_ | refine sn3_ ?_ g0_ | refine sn3_ ?_ g1_ | refine sn3_ ?_ g2_ | refine sn3_ ?_ g3_) | exact hh_))) : q := k h g0 g1 g2 g3
theorem kw5_ {p r0 r1 r2 r3 r4 q : Prop} (h : p) (g0 : r0) (g1 : r1) (g2 : r2) (g3 : r3) (g4 : r4) (k : p → r0 → r1 → r2 → r3 → r4 → q := by (intro hh_ g0_ g1_ g2_ g3_ g4_; repeat (first | (with_reducible first | exact hh_ | apply sm4_ | apply sl9_ | apply sm5_ | refine sn3_ ?_ g0_ | refine sn3_ ?_ g1_ | refine sn3_ ?_ g2_ | refine sn3_ ?_ g3_ | refine sn3_ ?_ g4_) | exact hh_))) : q := k h g0 g1 g2 g3 g4
end Go.Proofs.Ytkgbflcbeeghoaa.QFnTrieUndo

namespace Go.Proofs.Ytkgbflcbeeghoaa.Hk
open Go
open Go.RowKit
/-- Outside of the blocks S all that was there is as_ it was. -/
structure Fr (S : Nat → Prop) (w w' : World) : Prop where
  os : w'.os = w.os
  tape : w'.tape = w.tape
  output : w'.output = w.output
  size : w.heap.size ≤ w'.heap.size
  block : ∀ k, k < w.heap.size → ¬ S k → w'.heap[k]? = w.heap[k]?
theorem Fr.refl (S : Nat → Prop) (w : World) : Fr S w w := ⟨rfl, rfl, rfl, Nat.le_refl _, fun _ _ _ => rfl⟩
theorem Fr.trans {S S' : Nat → Prop} {a b c : World} (h : Fr S a b) (k : Fr S' b c) (hs : ∀ n, n < a.heap.size → S' n → S n) : Fr S a c :=
  ⟨k.os.trans h.os, k.tape.trans h.tape, k.output.trans h.output, Nat.le_trans h.size k.size,
    fun i hi hn => (k.block i (Nat.lt_of_lt_of_le hi h.size) (fun hk => hn (hs i hi hk))).trans (h.block i hi hn)⟩
theorem Fr.mono {S S' : Nat → Prop} {w w' : World} (h : Fr S w w') (hs : ∀ n, n < w.heap.size → S n → S' n) : Fr S' w w' :=
  ⟨h.os, h.tape, h.output, h.size, fun k hk hn => h.block k hk (fun hS => hn (hs k hk hS))⟩
theorem Fr.drew {S : Nat → Prop} {a w : World} (h : Fr S a w) : Fr S a w.drew := ⟨h.os, h.tape, h.output, h.size, h.block⟩
theorem Fr.alloc {S : Nat → Prop} {a w : World} (h : Fr S a w) (o : Obj) : Fr S a (w.alloc o) :=
  h.trans (S' := fun _ => False) ⟨rfl, rfl, rfl, by simp, fun k hk _ => Below.heap_alloc _ _ _ hk⟩ (fun _ _ h => h.elim)
theorem Fr.setCell {S : Nat → Prop} {a w : World} (h : Fr S a w) {p : Addr} (hp : p.block < a.heap.size → S p.block) (u : Value) : Fr S a (w.setCell p u) :=
  h.trans (S' := fun k => k = p.block) ⟨rfl, rfl, rfl, by simp [World.setCell], fun k hk hn => Below.heap_setCell _ _ _ _ hn⟩ (fun n hn e => by subst e; exact hp hn)
/-- A frame over blocks from 'base' on. -/
theorem Fr.below {S : Nat → Prop} {w w' : World} (h : Fr S w w') {base : Nat} (hb : base ≤ w.heap.size) (hS : ∀ k, S k → base ≤ k) : Below base w w' :=
  ⟨h.os, h.tape, h.output, h.size, fun k hk => h.block k (by omega) (fun hk' => by have := hS k hk'; omega)⟩
theorem Fr.of_below {w w' : World} {base : Nat} (h : Below base w w') : Fr (fun k => base ≤ k) w w' :=
  ⟨h.os, h.tape, h.output, h.size, fun k _ hn => h.block k (by omega)⟩
theorem Fr.of_grown {w w' : World} {row : Option Nat} (h : w.grownBy w' row) : Fr (fun k => some k = row) w w' :=
  ⟨h.os, h.tape, h.output, h.size, fun k hk hn => h.block k hk hn⟩
/-- A block of cells, none of them frozen. -/
def Blk (w : World) (b : Nat) (cs : Array Value) (t : TypeId) : Prop := w.heap[b]? = some (.cells cs t (0, 0))
section
variable {w : World} {b : Nat} {cs : Array Value} {t : TypeId}
theorem Blk.lt (h : Blk w b cs t) : b < w.heap.size := lt_of_block h
theorem Blk.cell (h : Blk w b cs t) (i : Nat) : w.cell? ⟨b, i, none⟩ = cs[i]? := by
  have h' : w.heap[b]? = some (.cells cs t (0, 0)) := h
  simp [World.cell?, h']
theorem Blk.free (h : Blk w b cs t) (i : Nat) : w.frozen? ⟨b, i, none⟩ = false := by
  have h' : w.heap[b]? = some (.cells cs t (0, 0)) := h
  simp [World.frozen?, h']
theorem Blk.fr {S : Nat → Prop} {w' : World} (h : Blk w b cs t) (hf : Fr S w w') (hn : ¬ S b) : Blk w' b cs t := (hf.block b h.lt hn).trans h
theorem Blk.below {base : Nat} {w' : World} (h : Blk w b cs t) (hf : Below base w w') (hn : b < base) : Blk w' b cs t := (hf.block b hn).trans h
theorem Blk.drew (h : Blk w b cs t) : Blk w.drew b cs t := h
theorem Blk.alloc (h : Blk w b cs t) (o : Obj) : Blk (w.alloc o) b cs t := (Below.heap_alloc w o b h.lt).trans h
theorem Blk.new (w : World) (cs : Array Value) (t : TypeId) : Blk (w.alloc (.cells cs t)) w.heap.size cs t := heap_alloc_new w _
theorem Blk.set (h : Blk w b cs t) (i : Nat) (v : Value) : Blk (w.setCell ⟨b, i, none⟩ v) b (cs.setIfInBounds i v) t := by
  have hlt := h.lt
  have h0 : w.heap[b]? = some (.cells cs t (0, 0)) := h
  have h' : w.heap[b] = .cells cs t (0, 0) := by simpa [Array.getElem?_eq_getElem hlt] using h0
  show (w.heap.modify b _)[b]? = _
  rw [Array.getElem?_eq_getElem (by simpa using hlt), Array.getElem_modify_self, h']
  rfl
theorem Blk.other (h : Blk w b cs t) (a : Addr) (v : Value) (hn : b ≠ a.block) : Blk (w.setCell a v) b cs t := (Below.heap_setCell _ _ _ _ hn).trans h
theorem Blk.inj {cs' : Array Value} {t' : TypeId} (h : Blk w b cs t) (h' : Blk w b cs' t') : cs = cs' ∧ t = t' := by
  have e : some (Obj.cells cs t (0, 0)) = some (.cells cs' t' (0, 0)) := h.symm.trans h'
  injection e with e; injection e with e1 e2; exact ⟨e1, e2⟩
end
end Go.Proofs.Ytkgbflcbeeghoaa.Hk

namespace Go.Proofs.Ytkgbflcbeeghoaa.Hk
open Go Go.RowKit
theorem Fr.into {Z Z' : Nat → Prop} {a w : World} (h : Fr Z a w) (hs : ∀ n, Z n → Z' n) : Fr Z' a w := h.mono (fun n _ q => hs n q)
theorem Fr.then {Z : Nat → Prop} {a b c : World} (h : Fr Z a b) (k : Fr Z b c) : Fr Z a c := h.trans k (fun _ _ q => q)
theorem Fr.drewN {Z : Nat → Prop} {a w : World} (h : Fr Z a w) (n : Nat) : Fr Z a (w.drewN n) := ⟨h.os, h.tape, h.output, h.size, h.block⟩
theorem Fr.one {w : World} {b i : Nat} {v : Value} : Fr (· = b) w (w.setCell ⟨b, i, none⟩ v) := Fr.setCell (S := (· = b)) (Fr.refl _ _) (p := ⟨b, i, none⟩) (fun _ => rfl) _
theorem Fr.new {Z : Nat → Prop} {w w' : World} (h : Below w.heap.size w w') : Fr Z w w' := ⟨h.os, h.tape, h.output, h.size, fun k hk _ => h.block k hk⟩
/-- A frame whose blocks are all from 'base' on, or new. -/
theorem Fr.under {Z : Nat → Prop} {w w' : World} (h : Fr Z w w') (base : Nat) (hb : base ≤ w.heap.size) (hZ : ∀ k, Z k → base ≤ k) : Below base w w' := h.below hb hZ
theorem Blk.drewN {w : World} {b : Nat} {cs : Array Value} {t : TypeId} (h : Blk w b cs t) (n : Nat) : Blk (w.drewN n) b cs t := h
theorem below_at {base : Nat} {a b c : World} (h : Below base a b) (k : Below b.heap.size b c) (hs : base ≤ b.heap.size) : Below base a c :=
  ⟨k.os.trans h.os, k.tape.trans h.tape, k.output.trans h.output, Nat.le_trans h.size k.size, fun i hi => (k.block i (by omega)).trans (h.block i hi)⟩
theorem hid {p : Prop} (h : p) : Hid p := h
theorem alloc_size (w : World) (o : Obj) : (w.alloc o).heap.size = w.heap.size + 1 := by simp
end Go.Proofs.Ytkgbflcbeeghoaa.Hk

namespace Go.Proofs.Ytkgbflcbeeghoaa.TriePure
abbrev W := List UInt8
inductive T where
  | nil
  | node (c : UInt8) (l m r : T) (v : Int) (ok : Bool)
/-- Words in their order, byte by byte. -/
def lt : W → W → Bool
  | _, [] => false
  | [], _ :: _ => true
  | a :: x, b :: y => if a < b then true else if b < a then false else lt x y
theorem u_lt {a b : UInt8} : a < b ↔ a.toNat < b.toNat := UInt8.lt_iff_toNat_lt
theorem u_eq {a b : UInt8} : a = b ↔ a.toNat = b.toNat := ⟨fun h => by rw [h], fun h => UInt8.toNat_inj.1 h⟩
theorem u_same {a b : UInt8} (h1 : ¬ a < b) (h2 : ¬ b < a) : a = b := by
  rw [u_lt] at h1 h2
  rw [u_eq]
  omega
theorem u_ne {a b : UInt8} (h : a < b) : a ≠ b := fun e => by
  rw [u_lt, e] at h
  omega
theorem u_tr {a b c : UInt8} (h : a < b) (k : b < c) : a < c := by rw [u_lt] at *; omega
theorem u_as {a b : UInt8} (h : a < b) : ¬ b < a := fun k => by rw [u_lt] at *; omega
theorem lt_irr : ∀ x : W, lt x x = false
  | [] => rfl
  | a :: x => by simp [lt, lt_irr x]
theorem lt_cons (a : UInt8) (x y : W) : lt (a :: x) (a :: y) = lt x y := by simp [lt]
theorem lt_head {a b : UInt8} (h : a < b) (x y : W) : lt (a :: x) (b :: y) = true := by simp [lt, h]
theorem lt_head' {a b : UInt8} (h : a < b) (x y : W) : lt (b :: y) (a :: x) = false := by simp [lt, h, u_as h]
theorem lt_nil (x : W) : lt x [] = false := by cases x <;> rfl
theorem lt_tot : ∀ x y : W, lt x y = false → x ≠ y → lt y x = true
  | [], [], _, h => absurd rfl h
  | [], _ :: _, h, _ => by simp [lt] at h
  | _ :: _, [], _, _ => rfl
  | a :: x, b :: y, h, hne => by
    by_cases c : a < b
    · rw [lt_head c] at h; cases h
    · by_cases d : b < a
      · exact lt_head d y x
      · have e := u_same c d
        subst e
        rw [lt_cons] at h ⊢
        exact lt_tot x y h (fun e => hne (by rw [e]))
theorem lt_tr : ∀ x y z : W, lt x y = true → lt y z = true → lt x z = true
  | _, [], _, h, _ => by rw [lt_nil] at h; cases h
  | _, _ :: _, [], _, h => by rw [lt_nil] at h; cases h
  | [], _ :: _, _ :: _, _, _ => rfl
  | a :: x, b :: y, c :: z, h, k => by
    by_cases h1 : a < b
    · by_cases k1 : b < c
      · exact lt_head (u_tr h1 k1) _ _
      · by_cases k2 : c < b
        · rw [lt_head' k2] at k; cases k
        · have e := u_same k1 k2
          subst e
          exact lt_head h1 _ _
    · by_cases h2 : b < a
      · rw [lt_head' h2] at h; cases h
      · have e := u_same h1 h2
        subst e
        rw [lt_cons] at h
        by_cases k1 : a < c
        · exact lt_head k1 _ _
        · by_cases k2 : c < a
          · rw [lt_head' k2] at k; cases k
          · have e := u_same k1 k2
            subst e
            rw [lt_cons] at k ⊢
            exact lt_tr x y z h k
theorem lt_as {x y : W} (h : lt x y = true) : lt y x = false := by
  by_cases c : lt y x = true
  · have := lt_tr x y x h c
    rw [lt_irr] at this; cases this
  · simpa using c
theorem lt_ne {x y : W} (h : lt x y = true) : x ≠ y := fun e => by rw [e, lt_irr] at h; cases h
/-- Rows of words with values. -/
abbrev R := List (W × Int)
def Up (l : R) : Prop := l.Pairwise (fun p q => lt p.1 q.1 = true)
/-- A word put into a row that rises. -/
def ins (w : W) (v : Int) : R → R
  | [] => [(w, v)]
  | p :: l => if lt p.1 w = true then p :: ins w v l else if p.1 = w then (p.1, v) :: l else (w, v) :: p :: l
def out (w : W) (l : R) : R := l.filter (fun p => decide (p.1 ≠ w))
def look (w : W) (l : R) : Option Int := (l.find? (fun p => decide (p.1 = w))).map (·.2)
def heads (l : R) : List W := l.map (·.1)
theorem ins_left {w : W} {v : Int} : ∀ {a b : R}, (∀ p ∈ b, lt w p.1 = true) → ins w v (a ++ b) = ins w v a ++ b
  | [], [], _ => rfl
  | [], p :: b, h => by
    have h1 := h p (by simp)
    have h2 : lt p.1 w = false := lt_as h1
    have h3 : ¬ p.1 = w := fun e => lt_ne h1 e.symm
    simp [ins, h2, h3]
  | p :: a, b, h => by
    have ih := ins_left (a := a) (v := v) h
    simp only [List.cons_append, ins]
    split
    · rw [ih]; rfl
    · split <;> rfl
theorem ins_right {w : W} {v : Int} : ∀ {a b : R}, (∀ p ∈ a, lt p.1 w = true) → ins w v (a ++ b) = a ++ ins w v b
  | [], _, _ => rfl
  | p :: a, b, h => by
    have h1 := h p (by simp)
    simp only [List.cons_append, ins, h1, if_true]
    rw [ins_right (fun q hq => h q (by simp [hq]))]
def under (c : UInt8) (l : R) : R := l.map (fun p => (c :: p.1, p.2))
theorem ins_under {c : UInt8} {w : W} {v : Int} : ∀ l : R, ins (c :: w) v (under c l) = under c (ins w v l)
  | [] => rfl
  | p :: l => by
    have ih := ins_under (c := c) (w := w) (v := v) l
    simp only [under, List.map_cons, ins, lt_cons] at ih ⊢
    split
    · rw [ih]; rfl
    · by_cases e : p.1 = w
      · rw [if_pos (by rw [e]), if_pos e]; rfl
      · rw [if_neg (fun h => e (by injection h)), if_neg e]; rfl
theorem out_app (w : W) (a b : R) : out w (a ++ b) = out w a ++ out w b := List.filter_append ..
theorem out_none {w : W} {l : R} (h : ∀ p ∈ l, p.1 ≠ w) : out w l = l := List.filter_eq_self.2 (fun p hp => by simpa using h p hp)
theorem out_under {c : UInt8} {w : W} : ∀ l : R, out (c :: w) (under c l) = under c (out w l)
  | [] => rfl
  | p :: l => by
    have ih := out_under (c := c) (w := w) l
    unfold out under at ih ⊢
    simp only [List.map_cons]
    by_cases e : p.1 = w
    · rw [List.filter_cons_of_neg (by simp [e]), List.filter_cons_of_neg (by simp [e]), ih]
    · rw [List.filter_cons_of_pos (by simp [e]), List.filter_cons_of_pos (by simp [e]), ih]; rfl
theorem look_app {w : W} {a b : R} (h : ∀ p ∈ a, p.1 ≠ w) : look w (a ++ b) = look w b := by
  unfold look
  rw [List.find?_append, List.find?_eq_none.2 (fun p hp => by simpa using h p hp)]
  rfl
theorem look_app' {w : W} {a b : R} (h : ∀ p ∈ b, p.1 ≠ w) : look w (a ++ b) = look w a := by
  unfold look
  have hb : List.find? (fun p => decide (p.1 = w)) b = none := List.find?_eq_none.2 (fun p hp => by simpa using h p hp)
  rw [List.find?_append, hb]
  cases List.find? (fun p => decide (p.1 = w)) a <;> rfl
theorem look_under {c : UInt8} {w : W} : ∀ l : R, look (c :: w) (under c l) = look w l
  | [] => rfl
  | p :: l => by
    have ih := look_under (c := c) (w := w) l
    unfold look under at ih ⊢
    simp only [List.map_cons]
    by_cases e : p.1 = w
    · rw [List.find?_cons_of_pos (by simp [e]), List.find?_cons_of_pos (by simp [e])]; rfl
    · rw [List.find?_cons_of_neg (by simp [e]), List.find?_cons_of_neg (by simp [e])]; exact ih
namespace T
def isNil : T → Bool
  | nil => true
  | node _ _ _ _ _ _ => false
/-- The node at which a word ends. -/
def get : T → W → T
  | nil, _ => nil
  | node _ _ _ _ _ _, [] => nil
  | node c l m r v ok, k :: ks =>
    if k < c then get l (k :: ks) else if c < k then get r (k :: ks) else match ks with
      | [] => node c l m r v ok
      | k2 :: ks2 => get m (k2 :: ks2)
theorem get_any {c k : UInt8} {ks : W} {l m r : T} {v : Int} {ok : Bool} : get (node c l m r v ok) (k :: ks) = if k < c then get l (k :: ks) else if c < k then get r (k :: ks) else match ks with
    | [] => node c l m r v ok
    | k2 :: ks2 => get m (k2 :: ks2) := by cases ks <;> rfl
theorem get_one {c k : UInt8} {l m r : T} {v : Int} {ok : Bool} : get (node c l m r v ok) [k] = if k < c then get l [k] else if c < k then get r [k] else node c l m r v ok := rfl
theorem get_more {c k k2 : UInt8} {ks : W} {l m r : T} {v : Int} {ok : Bool} : get (node c l m r v ok) (k :: k2 :: ks) = if k < c then get l (k :: k2 :: ks) else if c < k then get r (k :: k2 :: ks) else get m (k2 :: ks) := rfl
def chain (val : Int) : W → T
  | [] => nil
  | [k] => node k nil nil nil val true
  | k :: k2 :: ks => node k nil (chain val (k2 :: ks)) nil 0 false
def put (val : Int) : T → W → T
  | nil, w => chain val w
  | node c l m r v ok, [] => node c l m r v ok
  | node c l m r v ok, k :: ks =>
    if k < c then node c (put val l (k :: ks)) m r v ok
    else if c < k then node c l m (put val r (k :: ks)) v ok
    else match ks with
      | [] => node c l m r val true
      | k2 :: ks2 => node c l (put val m (k2 :: ks2)) r v ok
/-- The leftmost node, and the rest. -/
def minN : T → T
  | nil => nil
  | node c nil m r v ok => node c nil m r v ok
  | node _ (node c l m r v ok) _ _ _ _ => minN (node c l m r v ok)
def dropMin : T → T
  | nil => nil
  | node _ nil _ r _ _ => r
  | node c (node c' l' m' r' v' ok') m r v ok => node c (dropMin (node c' l' m' r' v' ok')) m r v ok
def del : T → T
  | nil => nil
  | node _c l _m r _v _ok => if r.isNil then l else if l.isNil then r else match minN r with
    | nil => nil
    | node c' _ m' _ v' ok' => node c' l m' (dropMin r) v' ok'
def unused : T → Bool
  | nil => false
  | node _ _ m _ _ ok => !ok && m.isNil
def trim (t : T) : T := if t.unused then del t else t
def rem : T → W → T
  | nil, _ => nil
  | node c l m r v ok, [] => node c l m r v ok
  | node c l m r v ok, k :: ks =>
    if k < c then trim (node c (rem l (k :: ks)) m r v ok)
    else if c < k then trim (node c l m (rem r (k :: ks)) v ok)
    else match ks with
      | [] => trim (node c l m r 0 false)
      | k2 :: ks2 => trim (node c l (rem m (k2 :: ks2)) r v ok)
def own (c : UInt8) (m : R) (v : Int) (ok : Bool) : R := (if ok then [([c], v)] else []) ++ under c m
def words : T → R
  | nil => []
  | node c l m r v ok => words l ++ (own c (words m) v ok ++ words r)
/-- The bytes of the nodes that stand beside each other. -/
def side : T → List UInt8
  | nil => []
  | node c l _ r _ _ => side l ++ c :: side r
def Ord : T → Prop
  | nil => True
  | node c l m r _ _ => (∀ x ∈ side l, x < c) ∧ (∀ x ∈ side r, c < x) ∧ Ord l ∧ Ord m ∧ Ord r
/-- No node but is the end of a word, or has a part below it. -/
def Used : T → Prop
  | nil => True
  | node _ l m r _ ok => (ok = true ∨ m.isNil = false) ∧ Used l ∧ Used m ∧ Used r
theorem words_head : ∀ (t : T) (p : W × Int), p ∈ words t → ∃ k ks, p.1 = k :: ks ∧ k ∈ side t
  | nil, _, h => by simp [words] at h
  | node c l m r v ok, p, h => by
    simp only [words, own, List.mem_append] at h
    rcases h with h | (h | h) | h
    · obtain ⟨k, ks, e, hk⟩ := words_head l p h
      exact ⟨k, ks, e, by simp [side, hk]⟩
    · split at h
      · rw [List.mem_singleton] at h; subst h; exact ⟨c, [], rfl, by simp [side]⟩
      · simp at h
    · obtain ⟨q, hq, rfl⟩ := List.mem_map.1 h
      exact ⟨c, q.1, rfl, by simp [side]⟩
    · obtain ⟨k, ks, e, hk⟩ := words_head r p h
      exact ⟨k, ks, e, by simp [side, hk]⟩
theorem own_head {c : UInt8} {m : R} {v : Int} {ok : Bool} {p : W × Int} (h : p ∈ own c m v ok) : ∃ ks, p.1 = c :: ks := by
  simp only [own, List.mem_append] at h
  rcases h with h | h
  · split at h
    · rw [List.mem_singleton] at h; subst h; exact ⟨[], rfl⟩
    · simp at h
  · obtain ⟨q, hq, rfl⟩ := List.mem_map.1 h
    exact ⟨q.1, rfl⟩
section
variable {c k : UInt8} {l m r : T} {v : Int} {ok : Bool} {ks : W}
theorem left_lt (h : ∀ x ∈ side l, x < c) (hk : c = k ∨ c < k) : ∀ p ∈ words l, lt p.1 (k :: ks) = true := fun p hp => by
  obtain ⟨a, as_, e, ha⟩ := words_head l p hp
  rw [e]
  have := h a ha
  rcases hk with rfl | hk
  · exact lt_head this _ _
  · exact lt_head (u_tr this hk) _ _
theorem right_lt (h : ∀ x ∈ side r, c < x) (hk : c = k ∨ k < c) : ∀ p ∈ words r, lt (k :: ks) p.1 = true := fun p hp => by
  obtain ⟨a, as_, e, ha⟩ := words_head r p hp
  rw [e]
  have := h a ha
  rcases hk with rfl | hk
  · exact lt_head this _ _
  · exact lt_head (u_tr hk this) _ _
theorem own_lt {q : R} (hk : c < k) : ∀ p ∈ own c q v ok, lt p.1 (k :: ks) = true := fun p hp => by
  obtain ⟨as_, e⟩ := own_head hp
  rw [e]; exact lt_head hk _ _
theorem own_gt {q : R} (hk : k < c) : ∀ p ∈ own c q v ok, lt (k :: ks) p.1 = true := fun p hp => by
  obtain ⟨as_, e⟩ := own_head hp
  rw [e]; exact lt_head hk _ _
end
theorem gt_ne {l : R} {w : W} (h : ∀ p ∈ l, lt w p.1 = true) : ∀ p ∈ l, p.1 ≠ w := fun p hp e => lt_ne (h p hp) e.symm
theorem less_ne {l : R} {w : W} (h : ∀ p ∈ l, lt p.1 w = true) : ∀ p ∈ l, p.1 ≠ w := fun p hp => lt_ne (h p hp)
theorem words_chain (val : Int) : ∀ (w : W), w ≠ [] → words (chain val w) = [(w, val)]
  | [], h => absurd rfl h
  | [k], _ => by simp [chain, words, own, under]
  | k :: k2 :: ks, _ => by
    have := words_chain val (k2 :: ks) (by simp)
    simp [chain, words, own, this, under]
theorem side_chain (val : Int) : ∀ (k : UInt8) (ks : W), side (chain val (k :: ks)) = [k]
  | _k, [] => rfl
  | _k, _k2 :: _ks => rfl
theorem ord_chain (val : Int) : ∀ w : W, Ord (chain val w)
  | [] => trivial
  | [k] => by simp [chain, Ord, side]
  | k :: k2 :: ks => by simp [chain, Ord, side, ord_chain val (k2 :: ks)]
theorem chain_some (val : Int) (k : UInt8) : ∀ ks : W, (chain val (k :: ks)).isNil = false
  | [] => rfl
  | _ :: _ => rfl
theorem used_chain (val : Int) : ∀ w : W, Used (chain val w)
  | [] => trivial
  | [k] => by simp [chain, Used]
  | k :: k2 :: ks => ⟨.inr (chain_some val k2 ks), trivial, used_chain val (k2 :: ks), trivial⟩
theorem put_some (val : Int) (k : UInt8) (ks : W) : ∀ t : T, (put val t (k :: ks)).isNil = false
  | nil => chain_some val k ks
  | node c l m r v ok => by
    simp only [put]
    split
    · rfl
    · split
      · rfl
      · cases ks <;> rfl
theorem side_put (val : Int) (k : UInt8) (ks : W) : ∀ (t : T) (x : UInt8), x ∈ side (put val t (k :: ks)) → x = k ∨ x ∈ side t
  | nil, x, h => by rw [put, side_chain, List.mem_singleton] at h; exact .inl h
  | node c l m r v ok, x, h => by
    simp only [put] at h
    split at h
    · simp only [side, List.mem_append, List.mem_cons] at h ⊢
      rcases h with h | h
      · rcases side_put val k ks l x h with h | h
        · exact .inl h
        · exact .inr (.inl h)
      · exact .inr (.inr h)
    · split at h
      · simp only [side, List.mem_append, List.mem_cons] at h ⊢
        rcases h with h | h | h
        · exact .inr (.inl h)
        · exact .inr (.inr (.inl h))
        · rcases side_put val k ks r x h with h | h
          · exact .inl h
          · exact .inr (.inr (.inr h))
      · cases ks with
        | nil => exact .inr h
        | cons k2 ks2 => exact .inr h
theorem ord_put (val : Int) : ∀ (t : T) (w : W), Ord t → Ord (put val t w)
  | nil, w, _ => ord_chain val w
  | node _ _ _ _ _ _, [], h => h
  | node c l m r v ok, k :: ks, ⟨h1, h2, h3, h4, h5⟩ => by
    simp only [put]
    split
    · rename_i q
      refine ⟨fun x hx => ?_, h2, ord_put val l _ h3, h4, h5⟩
      rcases side_put val k ks l x hx with rfl | e
      · exact q
      · exact h1 x e
    · split
      · rename_i q
        refine ⟨h1, fun x hx => ?_, h3, h4, ord_put val r _ h5⟩
        rcases side_put val k ks r x hx with rfl | e
        · exact q
        · exact h2 x e
      · cases ks with
        | nil => exact ⟨h1, h2, h3, h4, h5⟩
        | cons k2 ks2 => exact ⟨h1, h2, h3, ord_put val m _ h4, h5⟩
theorem used_put (val : Int) : ∀ (t : T) (w : W), Used t → Used (put val t w)
  | nil, w, _ => used_chain val w
  | node _ _ _ _ _ _, [], h => h
  | node c l m r v ok, k :: ks, ⟨h1, h3, h4, h5⟩ => by
    simp only [put]
    split
    · exact ⟨h1, used_put val l _ h3, h4, h5⟩
    · split
      · exact ⟨h1, h3, h4, used_put val r _ h5⟩
      · cases ks with
        | nil => exact ⟨.inl rfl, h3, h4, h5⟩
        | cons k2 ks2 => exact ⟨.inr (put_some val k2 ks2 m), h3, used_put val m _ h4, h5⟩
theorem words_put (val : Int) : ∀ (t : T) (k : UInt8) (ks : W), Ord t → words (put val t (k :: ks)) = ins (k :: ks) val (words t)
  | nil, k, ks, _ => words_chain val _ (by simp)
  | node c l m r v ok, k, ks, ⟨h1, h2, h3, h4, h5⟩ => by
    simp only [put]
    by_cases q : k < c
    · rw [if_pos q]
      simp only [words]
      rw [words_put val l k ks h3]
      refine (ins_left (fun p hp => ?_)).symm
      rcases List.mem_append.1 hp with hp | hp
      · exact own_gt q p hp
      · exact right_lt h2 (.inr q) p hp
    · rw [if_neg q]
      by_cases q2 : c < k
      · rw [if_pos q2]
        simp only [words]
        rw [words_put val r k ks h5, ins_right (left_lt h1 (.inr q2)), ins_right (own_lt q2)]
      · rw [if_neg q2]
        have e := u_same q q2
        subst e
        have hr := right_lt (r := r) (ks := ks) h2 (.inl rfl)
        cases ks with
        | nil =>
          simp only [words]
          rw [ins_right (left_lt h1 (.inl rfl)), ins_left hr]
          congr 2
          simp only [own]
          cases ok with
          | true => simp [ins, lt_irr]
          | false =>
            show [([k], val)] ++ under k (words m) = ins [k] val (under k (words m))
            have : ∀ p ∈ under k (words m), lt [k] p.1 = true := fun p hp => by
              obtain ⟨q, hq, rfl⟩ := List.mem_map.1 hp
              obtain ⟨a, as_, e, _⟩ := words_head m q hq
              show lt [k] (k :: q.1) = true
              rw [lt_cons, e]; rfl
            exact (ins_left (a := []) this).symm
        | cons k2 ks2 =>
          simp only [words]
          rw [ins_right (left_lt h1 (.inl rfl)), ins_left hr, words_put val m k2 ks2 h4]
          congr 2
          simp only [own]
          rw [ins_right (fun p hp => ?_), ins_under]
          split at hp
          · rw [List.mem_singleton] at hp; subst hp
            show lt [k] (k :: k2 :: ks2) = true
            rw [lt_cons]; rfl
          · simp at hp
/-- The leftmost node and the rest are all. -/
theorem min_words : ∀ {c : UInt8} {l m r : T} {v : Int} {ok : Bool}, ∃ c' m' r' v' ok', minN (node c l m r v ok) = node c' nil m' r' v' ok' ∧
    words (node c l m r v ok) = own c' (words m') v' ok' ++ words (dropMin (node c l m r v ok)) ∧ side (node c l m r v ok) = c' :: side (dropMin (node c l m r v ok))
  | c, nil, m, r, v, ok => ⟨c, m, r, v, ok, rfl, by simp [words, dropMin], by simp [side, dropMin]⟩
  | c, node c1 l1 m1 r1 v1 ok1, m, r, v, ok => by
    obtain ⟨c', m', r', v', ok', e1, e2, e3⟩ := min_words (c := c1) (l := l1) (m := m1) (r := r1) (v := v1) (ok := ok1)
    refine ⟨c', m', r', v', ok', e1, ?_, ?_⟩
    · show words (node c1 l1 m1 r1 v1 ok1) ++ _ = own c' (words m') v' ok' ++ (words (dropMin (node c1 l1 m1 r1 v1 ok1)) ++ (own c (words m) v ok ++ words r))
      rw [e2, List.append_assoc]
    · show side (node c1 l1 m1 r1 v1 ok1) ++ _ = c' :: (side (dropMin (node c1 l1 m1 r1 v1 ok1)) ++ c :: side r)
      rw [e3]; rfl
theorem dropMin_ord : ∀ {t : T}, Ord t → Ord (dropMin t)
  | nil, _ => trivial
  | node _ nil _ _ _ _, h => h.2.2.2.2
  | node c (node c1 l1 m1 r1 v1 ok1) m r v ok, ⟨h1, h2, h3, h4, h5⟩ => by
    obtain ⟨c', m', r', v', ok', e1, e2, e3⟩ := min_words (c := c1) (l := l1) (m := m1) (r := r1) (v := v1) (ok := ok1)
    exact ⟨fun x hx => h1 x (by rw [e3]; simp [hx]), h2, dropMin_ord h3, h4, h5⟩
theorem dropMin_used : ∀ {t : T}, Used t → Used (dropMin t)
  | nil, _ => trivial
  | node _ nil _ _ _ _, h => h.2.2.2
  | node _c (node _c1 _l1 _m1 _r1 _v1 _ok1) _m _r _v _ok, ⟨h1, h2, h3, h4⟩ => ⟨h1, dropMin_used h2, h3, h4⟩
theorem minN_ord : ∀ {t : T}, Ord t → Ord (minN t)
  | nil, _ => trivial
  | node _ nil _ _ _ _, h => h
  | node _ (node c l m r v ok) _ _ _ _, h => minN_ord (t := node c l m r v ok) h.2.2.1
theorem minN_used : ∀ {t : T}, Used t → Used (minN t)
  | nil, _ => trivial
  | node _ nil _ _ _ _, h => h
  | node _ (node c l m r v ok) _ _ _ _, h => minN_used (t := node c l m r v ok) h.2.1
theorem pw_side {t : T} (h : Ord t) : (side t).Pairwise (· < ·) := by
  induction t with
  | nil => exact List.Pairwise.nil
  | node c l m r v ok ihl _ ihr =>
    obtain ⟨h1, h2, h3, h4, h5⟩ := h
    refine List.pairwise_append.2 ⟨ihl h3, List.pairwise_cons.2 ⟨h2, ihr h5⟩, fun a ha b hb => ?_⟩
    rcases List.mem_cons.1 hb with rfl | hb
    · exact h1 a ha
    · exact u_tr (h1 a ha) (h2 b hb)
theorem del_all {c : UInt8} {l m r : T} {v : Int} {ok : Bool} (h : Ord (node c l m r v ok)) :
    words (del (node c l m r v ok)) = words l ++ words r ∧ (∀ x ∈ side (del (node c l m r v ok)), x ∈ side l ∨ x ∈ side r) ∧ Ord (del (node c l m r v ok)) ∧ (Used l → Used r → Used (del (node c l m r v ok))) := by
  obtain ⟨h1, h2, h3, h4, h5⟩ := h
  cases r with
  | nil => exact ⟨by simp [del, isNil, words], fun x hx => .inl hx, h3, fun q _ => q⟩
  | node c1 l1 m1 r1 v1 ok1 =>
    cases l with
    | nil => exact ⟨by simp [del, isNil, words], fun x hx => .inr hx, h5, fun _ q => q⟩
    | node c2 l2 m2 r2 v2 ok2 =>
      obtain ⟨c', m', r', v', ok', e1, e2, e3⟩ := min_words (c := c1) (l := l1) (m := m1) (r := r1) (v := v1) (ok := ok1)
      have ed : del (node c (node c2 l2 m2 r2 v2 ok2) m (node c1 l1 m1 r1 v1 ok1) v ok) = node c' (node c2 l2 m2 r2 v2 ok2) m' (dropMin (node c1 l1 m1 r1 v1 ok1)) v' ok' := by
        simp only [del, isNil, e1]
        rfl
      have hp := pw_side h5
      rw [e3] at hp
      have hp1 := (List.pairwise_cons.1 hp).1
      have hm := minN_ord h5
      rw [e1] at hm
      rw [ed]
      refine ⟨?_, fun x hx => ?_, ⟨fun x hx => u_tr (h1 x hx) (h2 c' (by rw [e3]; simp)), hp1, h3, hm.2.2.2.1, dropMin_ord h5⟩, fun q1 q2 => ?_⟩
      · show words (node c2 l2 m2 r2 v2 ok2) ++ (own c' (words m') v' ok' ++ words (dropMin (node c1 l1 m1 r1 v1 ok1))) = _
        rw [← e2]
      · simp only [side, List.mem_append, List.mem_cons] at hx
        rw [e3]
        rcases hx with hx | hx | hx
        · exact .inl (by simp only [side, List.mem_append, List.mem_cons]; exact hx)
        · exact .inr (by simp [hx])
        · exact .inr (by simp [hx])
      · have hm2 := minN_used q2
        rw [e1] at hm2
        exact ⟨hm2.1, q1, hm2.2.2.1, dropMin_used q2⟩
theorem trim_all {c : UInt8} {l m r : T} {v : Int} {ok : Bool} (h : Ord (node c l m r v ok)) :
    words (trim (node c l m r v ok)) = words (node c l m r v ok) ∧ (∀ x ∈ side (trim (node c l m r v ok)), x ∈ side (node c l m r v ok)) ∧ Ord (trim (node c l m r v ok)) ∧ (Used l → Used m → Used r → Used (trim (node c l m r v ok))) := by
  unfold trim
  by_cases u : (node c l m r v ok).unused = true
  · rw [if_pos u]
    obtain ⟨d1, d2, d3, d4⟩ := del_all h
    have u' : ok = false ∧ m.isNil = true := by simpa [unused] using u
    obtain ⟨rfl, um⟩ := u'
    have em : m = nil := by cases m with | nil => rfl | node _ _ _ _ _ _ => cases um
    subst em
    refine ⟨by rw [d1]; simp [words, own, under], fun x hx => ?_, d3, fun a _ b => d4 a b⟩
    rcases d2 x hx with q | q <;> simp [side, q]
  · rw [if_neg u]
    refine ⟨rfl, fun _ q => q, h, fun a b d => ⟨?_, a, b, d⟩⟩
    simp only [unused, Bool.and_eq_true, not_and, Bool.not_eq_true', Bool.not_eq_true] at u
    cases ok with
    | true => exact .inl rfl
    | false => exact .inr (u rfl)
theorem rem_all : ∀ (t : T) (k : UInt8) (ks : W), Ord t →
    words (rem t (k :: ks)) = out (k :: ks) (words t) ∧ (∀ x ∈ side (rem t (k :: ks)), x ∈ side t) ∧ Ord (rem t (k :: ks)) ∧ (Used t → Used (rem t (k :: ks)))
  | nil, k, ks, _ => ⟨rfl, fun _ h => h, trivial, fun h => h⟩
  | node c l m r v ok, k, ks, ⟨h1, h2, h3, h4, h5⟩ => by
    simp only [rem]
    by_cases q : k < c
    · rw [if_pos q]
      obtain ⟨i1, i2, i3, i4⟩ := rem_all l k ks h3
      obtain ⟨t1, t2, t3, t4⟩ := trim_all (c := c) (l := rem l (k :: ks)) (m := m) (r := r) (v := v) (ok := ok) ⟨fun x hx => h1 x (i2 x hx), h2, i3, h4, h5⟩
      refine ⟨?_, fun x hx => ?_, t3, fun u => t4 (i4 u.2.1) u.2.2.1 u.2.2.2⟩
      · rw [t1]
        simp only [words]
        rw [i1, out_app, out_app, out_none (gt_ne (own_gt q)), out_none (gt_ne (right_lt h2 (.inr q)))]
      · have := t2 x hx
        simp only [side, List.mem_append, List.mem_cons] at this ⊢
        rcases this with e | e
        · exact .inl (i2 x e)
        · exact .inr e
    · rw [if_neg q]
      by_cases q2 : c < k
      · rw [if_pos q2]
        obtain ⟨i1, i2, i3, i4⟩ := rem_all r k ks h5
        obtain ⟨t1, t2, t3, t4⟩ := trim_all (c := c) (l := l) (m := m) (r := rem r (k :: ks)) (v := v) (ok := ok) ⟨h1, fun x hx => h2 x (i2 x hx), h3, h4, i3⟩
        refine ⟨?_, fun x hx => ?_, t3, fun u => t4 u.2.1 u.2.2.1 (i4 u.2.2.2)⟩
        · rw [t1]
          simp only [words]
          rw [i1, out_app, out_app, out_none (less_ne (own_lt q2)), out_none (less_ne (left_lt h1 (.inr q2)))]
        · have := t2 x hx
          simp only [side, List.mem_append, List.mem_cons] at this ⊢
          rcases this with e | e | e
          · exact .inl e
          · exact .inr (.inl e)
          · exact .inr (.inr (i2 x e))
      · rw [if_neg q2]
        have e := u_same q q2
        subst e
        cases ks with
        | nil =>
          obtain ⟨t1, t2, t3, t4⟩ := trim_all (c := k) (l := l) (m := m) (r := r) (v := 0) (ok := false) ⟨h1, h2, h3, h4, h5⟩
          refine ⟨?_, t2, t3, fun u => t4 u.2.1 u.2.2.1 u.2.2.2⟩
          show words (trim (node k l m r 0 false)) = _
          rw [t1]
          simp only [words]
          rw [out_app, out_app, out_none (gt_ne (right_lt h2 (.inl rfl))), out_none (less_ne (left_lt h1 (.inl rfl)))]
          congr 2
          have e1 : out [k] (under k (words m)) = under k (words m) := out_none (fun p hp => by
            obtain ⟨q, hq, rfl⟩ := List.mem_map.1 hp
            obtain ⟨a, as_, e, _⟩ := words_head m q hq
            show k :: q.1 ≠ [k]
            rw [e]; simp)
          unfold own
          rw [out_app, e1]
          cases ok <;> simp [out]
        | cons k2 ks2 =>
          obtain ⟨i1, i2, i3, i4⟩ := rem_all m k2 ks2 h4
          obtain ⟨t1, t2, t3, t4⟩ := trim_all (c := k) (l := l) (m := rem m (k2 :: ks2)) (r := r) (v := v) (ok := ok) ⟨h1, h2, h3, i3, h5⟩
          refine ⟨?_, t2, t3, fun u => t4 u.2.1 (i4 u.2.2.1) u.2.2.2⟩
          show words (trim (node k l (rem m (k2 :: ks2)) r v ok)) = _
          rw [t1]
          simp only [words]
          rw [out_app, out_app, out_none (gt_ne (right_lt h2 (.inl rfl))), out_none (less_ne (left_lt h1 (.inl rfl))), i1]
          congr 2
          unfold own
          rw [out_app, out_under]
          congr 1
          cases ok <;> simp [out]
/-- What Get tells. -/
def find (t : T) (w : W) : Option Int := match get t w with
  | nil => none
  | node _ _ _ _ v ok => if ok then some v else none
theorem look_own {c : UInt8} {m : T} {v : Int} {ok : Bool} {k2 : UInt8} {ks : W} : look (c :: k2 :: ks) (own c (words m) v ok) = look (k2 :: ks) (words m) := by
  unfold own
  rw [look_app (fun p hp => ?_), look_under]
  split at hp
  · rw [List.mem_singleton] at hp; subst hp; simp
  · simp at hp
theorem find_look : ∀ (t : T) (k : UInt8) (ks : W), Ord t → find t (k :: ks) = look (k :: ks) (words t)
  | nil, k, ks, _ => rfl
  | node c l m r v ok, k, ks, ⟨h1, h2, h3, h4, h5⟩ => by
    simp only [words]
    by_cases q : k < c
    · have e : find (node c l m r v ok) (k :: ks) = find l (k :: ks) := by unfold find; rw [get_any, if_pos q]
      rw [e, find_look l k ks h3, look_app' (fun p hp => ?_)]
      rcases List.mem_append.1 hp with hp | hp
      · exact gt_ne (own_gt q) p hp
      · exact gt_ne (right_lt h2 (.inr q)) p hp
    · by_cases q2 : c < k
      · have e : find (node c l m r v ok) (k :: ks) = find r (k :: ks) := by unfold find; rw [get_any, if_neg q, if_pos q2]
        rw [e, find_look r k ks h5, look_app (less_ne (left_lt h1 (.inr q2))), look_app (less_ne (own_lt q2))]
      · have e := u_same q q2
        subst e
        rw [look_app (less_ne (left_lt h1 (.inl rfl))), look_app' (gt_ne (right_lt h2 (.inl rfl)))]
        cases ks with
        | nil =>
          have e : find (node k l m r v ok) [k] = if ok then some v else none := by unfold find; rw [get_one, if_neg q, if_neg q2]
          rw [e]
          unfold own
          cases ok with
          | true => simp [look]
          | false =>
            show none = look [k] ([] ++ under k (words m))
            rw [List.nil_append]
            unfold look
            rw [List.find?_eq_none.2 (fun p hp => ?_)]
            · rfl
            obtain ⟨q, hq, rfl⟩ := List.mem_map.1 hp
            obtain ⟨a, as_, e, _⟩ := words_head m q hq
            simp [e]
        | cons k2 ks2 =>
          have e : find (node k l m r v ok) (k :: k2 :: ks2) = find m (k2 :: ks2) := by unfold find; rw [get_more, if_neg q, if_neg q2]
          rw [e, find_look m k2 ks2 h4, look_own]
/-- The words that begin with one, as_ collect tells them. -/
def from_ (t : T) (w : W) : List W := match get t w with
  | nil => []
  | node _ _ m _ _ ok => (if ok then [w] else []) ++ (words m).map (fun p => w ++ p.1)
def pre : W → W → Bool
  | [], _ => true
  | _ :: _, [] => false
  | a :: x, b :: y => a == b && pre x y
theorem pre_other {a b : UInt8} (h : a ≠ b) (x y : W) : pre (a :: x) (b :: y) = false := by simp [pre, h]
theorem filt_none {l : List W} {f : W → Bool} (h : ∀ p ∈ l, f p = false) : l.filter f = [] := List.filter_eq_nil_iff.2 (fun p hp => by simp [h p hp])
theorem heads_app (a b : R) : heads (a ++ b) = heads a ++ heads b := List.map_append ..
theorem heads_under (c : UInt8) (l : R) : heads (under c l) = (heads l).map (c :: ·) := by simp [heads, under]
theorem with_left {k : UInt8} {l : T} {ks : W} (h : ∀ x ∈ side l, x ≠ k) : (heads (words l)).filter (pre (k :: ks)) = [] := filt_none (fun p hp => by
  obtain ⟨q, hq, rfl⟩ := List.mem_map.1 hp
  obtain ⟨a, as_, e, ha⟩ := words_head l q hq
  rw [e]; exact pre_other (fun e => h a ha e.symm) _ _)
theorem with_own {c k : UInt8} {m : R} {v : Int} {ok : Bool} {ks : W} (h : k ≠ c) : (heads (own c m v ok)).filter (pre (k :: ks)) = [] := filt_none (fun p hp => by
  obtain ⟨q, hq, rfl⟩ := List.mem_map.1 hp
  obtain ⟨as_, e⟩ := own_head hq
  rw [e]; exact pre_other h _ _)
theorem with_under (k : UInt8) (ks : W) (l : List W) : (l.map (k :: ·)).filter (pre (k :: ks)) = (l.filter (pre ks)).map (k :: ·) := by
  rw [List.filter_map]
  congr 1
  refine List.filter_congr (fun x _ => ?_)
  simp [pre]
theorem from_words : ∀ (t : T) (k : UInt8) (ks : W), Ord t → from_ t (k :: ks) = (heads (words t)).filter (pre (k :: ks))
  | nil, k, ks, _ => rfl
  | node c l m r v ok, k, ks, ⟨h1, h2, h3, h4, h5⟩ => by
    simp only [words, heads_app, List.filter_append]
    by_cases q : k < c
    · have e : from_ (node c l m r v ok) (k :: ks) = from_ l (k :: ks) := by unfold from_; rw [get_any, if_pos q]
      rw [e, from_words l k ks h3, with_own (u_ne q), with_left (fun x hx e => u_ne (u_tr q (h2 x hx)) e.symm), List.append_nil, List.append_nil]
    · by_cases q2 : c < k
      · have e : from_ (node c l m r v ok) (k :: ks) = from_ r (k :: ks) := by unfold from_; rw [get_any, if_neg q, if_pos q2]
        rw [e, from_words r k ks h5, with_own (fun e => u_ne q2 e.symm), with_left (fun x hx e => u_ne (u_tr (h1 x hx) q2) e), List.nil_append, List.nil_append]
      · have e := u_same q q2
        subst e
        rw [with_left (l := l) (fun x hx => u_ne (h1 x hx)), with_left (l := r) (fun x hx e => u_ne (h2 x hx) e.symm), List.nil_append, List.append_nil]
        unfold own
        rw [heads_app, heads_under, List.filter_append, with_under]
        cases ks with
        | nil =>
          have e : from_ (node k l m r v ok) [k] = (if ok then [[k]] else []) ++ (words m).map (fun p => [k] ++ p.1) := by unfold from_; rw [get_one, if_neg q, if_neg q2]
          rw [e]
          congr 1
          · cases ok <;> simp [heads, pre]
          · rw [show (heads (words m)).filter (pre []) = heads (words m) from List.filter_eq_self.2 (fun _ _ => rfl)]
            simp [heads]
        | cons k2 ks2 =>
          have e : from_ (node k l m r v ok) (k :: k2 :: ks2) = (from_ m (k2 :: ks2)).map (k :: ·) := by
            unfold from_; rw [get_more, if_neg q, if_neg q2]
            show (match get m (k2 :: ks2) with | nil => _ | node _ _ m _ _ ok => _) = _
            cases get m (k2 :: ks2) with
            | nil => rfl
            | node c' l' m' r' v' ok' => cases ok' <;> simp
          rw [e, from_words m k2 ks2 h4]
          have : (heads (if ok = true then [([k], v)] else [])).filter (pre (k :: k2 :: ks2)) = [] := by cases ok <;> simp [heads, pre]
          rw [this, List.nil_append]
/-- How long the longest word is that a text begins with, as_ the walk tells it. -/
def long : T → W → Nat → Nat → Nat
  | nil, _, _, best => best
  | node _ _ _ _ _ _, [], _, best => best
  | node c l m r _ ok, k :: ks, i, best => if k < c then long l (k :: ks) i best else if c < k then long r (k :: ks) i best else long m ks (i + 1) (if ok then i + 1 else best)
/-- .. by definition: the longest of those that it begins with; 0: none. -/
def most (q : W) (l : List W) : Nat := (l.filter (fun p => pre p q)).foldr (fun p n => max p.length n) 0
theorem most_app (q : W) (a b : List W) : most q (a ++ b) = max (most q a) (most q b) := by
  unfold most
  rw [List.filter_append]
  induction a.filter (fun p => pre p q) with
  | nil => simp
  | cons p t ih => simp only [List.cons_append, List.foldr_cons, ih]; omega
theorem most_zero {q : W} {l : List W} (h : ∀ p ∈ l, pre p q = false) : most q l = 0 := by
  unfold most
  rw [filt_none h]; rfl
theorem most_under (c : UInt8) (q : W) : ∀ (l : List W), (∀ p ∈ l, p ≠ []) → most (c :: q) (l.map (c :: ·)) = if most q l = 0 then 0 else most q l + 1
  | [], _ => rfl
  | p :: l, h => by
    have ih := most_under c q l (fun x hx => h x (by simp [hx]))
    have e1 : most (c :: q) ((p :: l).map (c :: ·)) = max (most (c :: q) [c :: p]) (most (c :: q) (l.map (c :: ·))) := most_app (c :: q) [c :: p] _
    have e2 : most q (p :: l) = max (most q [p]) (most q l) := most_app q [p] l
    have hp : 0 < p.length := List.length_pos_iff.2 (h p (by simp))
    have e3 : most (c :: q) [c :: p] = if most q [p] = 0 then 0 else most q [p] + 1 := by
      by_cases x : pre p q = true
      · have y : pre (c :: p) (c :: q) = true := by simp [pre, x]
        have z1 : most q [p] = p.length := by
          unfold most
          rw [List.filter_cons_of_pos (p := fun p => pre p q) x]
          simp
        have z2 : most (c :: q) [c :: p] = p.length + 1 := by
          unfold most
          rw [List.filter_cons_of_pos (p := fun p => pre p (c :: q)) y]
          simp
        rw [z1, z2, if_neg (by omega)]
      · have z1 : most q [p] = 0 := most_zero (fun a ha => by rw [List.mem_singleton.1 ha]; simpa using x)
        have z2 : most (c :: q) [c :: p] = 0 := most_zero (fun a ha => by rw [List.mem_singleton.1 ha]; simpa [pre] using x)
        rw [z1, z2, if_pos rfl]
    rw [e1, e2, ih, e3]
    split <;> split <;> split <;> omega
theorem long_most : ∀ (t : T) (q : W) (i best : Nat), Ord t → long t q i best = if most q (heads (words t)) = 0 then best else i + most q (heads (words t))
  | nil, q, i, best, _ => rfl
  | node c l m r v ok, [], i, best, _ => by
    rw [long, if_pos]
    exact most_zero (fun p hp => by
      obtain ⟨x, hx, rfl⟩ := List.mem_map.1 hp
      obtain ⟨k, ks, e, _⟩ := words_head _ x hx
      rw [e]; rfl)
  | node c l m r v ok, k :: ks, i, best, ⟨h1, h2, h3, h4, h5⟩ => by
    have zl : (∀ x ∈ side l, x ≠ k) → most (k :: ks) (heads (words l)) = 0 := fun h => most_zero (fun p hp => by
      obtain ⟨x, hx, rfl⟩ := List.mem_map.1 hp
      obtain ⟨a, as_, e, ha⟩ := words_head _ x hx
      rw [e]; exact pre_other (h a ha) _ _)
    have zr : (∀ x ∈ side r, x ≠ k) → most (k :: ks) (heads (words r)) = 0 := fun h => most_zero (fun p hp => by
      obtain ⟨x, hx, rfl⟩ := List.mem_map.1 hp
      obtain ⟨a, as_, e, ha⟩ := words_head _ x hx
      rw [e]; exact pre_other (h a ha) _ _)
    have zo : c ≠ k → most (k :: ks) (heads (own c (words m) v ok)) = 0 := fun h => most_zero (fun p hp => by
      obtain ⟨x, hx, rfl⟩ := List.mem_map.1 hp
      obtain ⟨as_, e⟩ := own_head hx
      rw [e]; exact pre_other h _ _)
    simp only [words, heads_app, most_app, long]
    by_cases q : k < c
    · rw [if_pos q, long_most l (k :: ks) i best h3, zo (fun e => u_ne q e.symm), zr (fun x hx e => u_ne (u_tr q (h2 x hx)) e.symm)]
      simp
    · rw [if_neg q]
      by_cases q2 : c < k
      · rw [if_pos q2, long_most r (k :: ks) i best h5, zo (u_ne q2), zl (fun x hx => u_ne (u_tr (h1 x hx) q2))]
        simp
      · rw [if_neg q2]
        have e := u_same q q2
        subst e
        rw [zl (fun x hx => u_ne (h1 x hx)), zr (fun x hx e => u_ne (h2 x hx) e.symm), long_most m ks (i + 1) _ h4]
        have e1 : most (k :: ks) (heads (own k (words m) v ok)) = max (if ok then 1 else 0) (if most ks (heads (words m)) = 0 then 0 else most ks (heads (words m)) + 1) := by
          unfold own
          rw [heads_app, most_app, heads_under, most_under _ _ _ (fun p hp => by
            obtain ⟨x, hx, rfl⟩ := List.mem_map.1 hp
            obtain ⟨a, as_, e, _⟩ := words_head _ x hx
            rw [e]; simp)]
          congr 1
          cases ok <;> simp [heads, most, pre]
        rw [e1]
        cases ok <;> simp <;> split <;> simp_all <;> omega
end T
end Go.Proofs.Ytkgbflcbeeghoaa.TriePure

namespace Go.Proofs.Ytkgbflcbeeghoaa.Trie
open Go Go.RowKit Go.Proofs.Ytkgbflcbeeghoaa.Hk Go.Proofs.Ytkgbflcbeeghoaa.TriePure
/-- A trie with the blocks in which its nodes lie. -/
inductive N where
  | nil
  | node (b : Nat) (c : UInt8) (l m r : N) (v : Int) (ok : Bool)
def N.ptr : N → Value
  | .nil => .pointer none
  | .node b _ _ _ _ _ _ => .pointer (some ⟨b, 0, none⟩)
def N.raw : N → T
  | .nil => .nil
  | .node _ c l m r v ok => .node c l.raw m.raw r.raw v ok
def N.ids : N → List Nat
  | .nil => []
  | .node b _ l m r _ _ => b :: (l.ids ++ (m.ids ++ r.ids))
abbrev cells (c : UInt8) (l m r : Value) (v : Int) (ok : Bool) : Array Value := #[.int .u8 (c.toNat : Int), l, m, r, .int .i64 v, .bool ok]
def N.In (w : World) : N → Prop
  | .nil => True
  | .node b c l m r v ok => Blk w b (cells c l.ptr m.ptr r.ptr v ok) 115 ∧ l.In w ∧ m.In w ∧ r.In w
theorem N.ptr_some (t : N) : ∃ u, t.ptr = .pointer u := by cases t <;> exact ⟨_, rfl⟩
theorem N.In.lt {w : World} : ∀ {t : N}, t.In w → ∀ b ∈ t.ids, b < w.heap.size
  | .nil, _, b, h => by simp [N.ids] at h
  | .node _ _ _ _ _ _ _, ⟨h1, h2, h3, h4⟩, b, h => by
    rcases List.mem_cons.1 h with e | h
    · rw [e]; exact h1.lt
    · rcases List.mem_append.1 h with h | h
      · exact N.In.lt h2 b h
      · rcases List.mem_append.1 h with h | h
        · exact N.In.lt h3 b h
        · exact N.In.lt h4 b h
theorem N.In.fr {S : Nat → Prop} {w w' : World} (hf : Fr S w w') : ∀ {t : N}, t.In w → (∀ b ∈ t.ids, ¬ S b) → t.In w'
  | .nil, _, _ => trivial
  | .node b _ _ _ _ _ _, ⟨h1, h2, h3, h4⟩, hn =>
    ⟨h1.fr hf (hn b (by simp [N.ids])), N.In.fr hf h2 (fun x hx => hn x (by simp [N.ids, hx])), N.In.fr hf h3 (fun x hx => hn x (by simp [N.ids, hx])), N.In.fr hf h4 (fun x hx => hn x (by simp [N.ids, hx]))⟩
theorem N.In.below {w w' : World} {t : N} (h : t.In w) (hB : Below w.heap.size w w') : t.In w' := h.fr (Fr.new (Z := fun _ => False) hB) (fun _ _ e => e)
/-- The parts of a node lie apart. -/
structure Apart (b : Nat) (l m r : N) : Prop where
  bl : b ∉ l.ids
  bm : b ∉ m.ids
  br : b ∉ r.ids
  nl : l.ids.Nodup
  nm : m.ids.Nodup
  nr : r.ids.Nodup
  lm : ∀ x ∈ l.ids, x ∉ m.ids
  lr : ∀ x ∈ l.ids, x ∉ r.ids
  mr : ∀ x ∈ m.ids, x ∉ r.ids
theorem apart_iff {b : Nat} {c : UInt8} {l m r : N} {v : Int} {ok : Bool} : (N.node b c l m r v ok).ids.Nodup ↔ Apart b l m r := by
  show (b :: (l.ids ++ (m.ids ++ r.ids))).Nodup ↔ _
  rw [List.nodup_cons, List.nodup_append, List.nodup_append]
  constructor
  · rintro ⟨h1, h2, ⟨h3, h4, h5⟩, h6⟩
    exact ⟨fun h => h1 (by simp [h]), fun h => h1 (by simp [h]), fun h => h1 (by simp [h]), h2, h3, h4, fun x hx hy => h6 x hx x (by simp [hy]) rfl, fun x hx hy => h6 x hx x (by simp [hy]) rfl, fun x hx hy => h5 x hx x hy rfl⟩
  · rintro ⟨h1, h2, h3, h4, h5, h6, h7, h8, h9⟩
    refine ⟨fun h => ?_, h4, ⟨h5, h6, fun x hx y hy e => h9 x hx (e ▸ hy)⟩, fun x hx y hy e => ?_⟩
    · rcases List.mem_append.1 h with h | h
      · exact h1 h
      · rcases List.mem_append.1 h with h | h
        · exact h2 h
        · exact h3 h
    · subst e
      rcases List.mem_append.1 hy with h | h
      · exact h7 x hx h
      · exact h8 x hx h
structure Good (base : Nat) (w : World) (t : N) : Prop where
  mem : t.In w
  nodup : t.ids.Nodup
  above : ∀ b ∈ t.ids, base ≤ b
/-- A trie turned into another one: only its own blocks, and new ones. -/
structure Put (t t' : N) (w w' : World) : Prop where
  mem : t'.In w'
  nodup : t'.ids.Nodup
  ids : ∀ x ∈ t'.ids, x ∈ t.ids ∨ w.heap.size ≤ x
  fr : Fr (· ∈ t.ids) w w'
section
variable {base : Nat} {w w1 w2 : World} {t t' : N}
theorem Good.below (g : Good base w t) (hB : Below w.heap.size w w1) : Good base w1 t := ⟨g.mem.below hB, g.nodup, g.above⟩
theorem Put.good (h : Put t t' w w1) (g : Good base w t) (hb : base ≤ w.heap.size) : Good base w1 t' := ⟨h.mem, h.nodup, fun x hx => by
  rcases h.ids x hx with e | e
  · exact g.above x e
  · omega⟩
theorem Put.refl (g : Good base w t) : Put t t w w := ⟨g.mem, g.nodup, fun _ hx => .inl hx, Fr.refl _ _⟩
theorem Good.part_l {b : Nat} {c : UInt8} {l m r : N} {v : Int} {ok : Bool} (g : Good base w (.node b c l m r v ok)) : Good base w l :=
  ⟨g.mem.2.1, (apart_iff.1 g.nodup).nl, fun x hx => g.above x (by simp [N.ids, hx])⟩
/-- A part turned, and set in its place. -/
theorem Put.set_l {b : Nat} {c : UInt8} {l m r l' : N} {v : Int} {ok : Bool} (g : Good base w (.node b c l m r v ok)) (h : Put l l' w w1) :
    Blk w1 b (cells c l.ptr m.ptr r.ptr v ok) 115 ∧ Put (.node b c l m r v ok) (.node b c l' m r v ok) w (w1.setCell ⟨b, 1, none⟩ l'.ptr) := by
  have a := apart_iff.1 g.nodup
  have hlt := g.mem.lt
  have hb : b < w.heap.size := hlt b (by simp [N.ids])
  have hk : Blk w1 b (cells c l.ptr m.ptr r.ptr v ok) 115 := g.mem.1.fr h.fr a.bl
  have hbn : b ∉ l'.ids := fun hx => by
    rcases h.ids b hx with e | e
    · exact a.bl e
    · omega
  have F2 : Fr (· = b) w1 (w1.setCell ⟨b, 1, none⟩ l'.ptr) := Fr.one
  have sep : ∀ q : N, (∀ x ∈ q.ids, x < w.heap.size) → (∀ x ∈ l.ids, x ∉ q.ids) → ∀ x ∈ l'.ids, x ∉ q.ids := fun q hq hd x hx hy => by
    rcases h.ids x hx with e | e
    · exact hd x e hy
    · have := hq x hy; omega
  have in2 : ∀ q : N, q.In w → (∀ x ∈ q.ids, x ∉ l.ids) → b ∉ q.ids → q.In (w1.setCell ⟨b, 1, none⟩ l'.ptr) := fun q hq hd hbq => (hq.fr h.fr hd).fr F2 (fun x hx e => hbq (e ▸ hx))
  refine ⟨hk, ⟨hk.set 1 _, h.mem.fr F2 (fun x hx e => hbn (e ▸ hx)), in2 m g.mem.2.2.1 (fun x hx hy => a.lm x hy hx) a.bm, in2 r g.mem.2.2.2 (fun x hx hy => a.lr x hy hx) a.br⟩, apart_iff.2 ⟨hbn, a.bm, a.br, h.nodup, a.nm, a.nr, ?_, ?_, ?_⟩, fun x hx => ?_, (h.fr.mono (fun x _ hx => by simp [N.ids, hx])).trans (F2.mono (fun x _ e => by rw [e]; simp [N.ids])) (fun _ _ e => e)⟩
  · exact sep m (fun x hx => hlt x (by simp [N.ids, hx])) a.lm
  · exact sep r (fun x hx => hlt x (by simp [N.ids, hx])) a.lr
  · exact a.mr
  · simp only [N.ids, List.mem_cons, List.mem_append] at hx ⊢
    rcases hx with e | e | e | e
    · exact .inl (.inl e)
    · rcases h.ids x e with e | e
      · exact .inl (by simp [e])
      · exact .inr e
    · exact .inl (by simp [e])
    · exact .inl (by simp [e])
theorem Good.part_m {b : Nat} {c : UInt8} {l m r : N} {v : Int} {ok : Bool} (g : Good base w (.node b c l m r v ok)) : Good base w m :=
  ⟨g.mem.2.2.1, (apart_iff.1 g.nodup).nm, fun x hx => g.above x (by simp [N.ids, hx])⟩
/-- A part turned, and set in its place. -/
theorem Put.set_m {b : Nat} {c : UInt8} {l m r m' : N} {v : Int} {ok : Bool} (g : Good base w (.node b c l m r v ok)) (h : Put m m' w w1) :
    Blk w1 b (cells c l.ptr m.ptr r.ptr v ok) 115 ∧ Put (.node b c l m r v ok) (.node b c l m' r v ok) w (w1.setCell ⟨b, 2, none⟩ m'.ptr) := by
  have a := apart_iff.1 g.nodup
  have hlt := g.mem.lt
  have hb : b < w.heap.size := hlt b (by simp [N.ids])
  have hk : Blk w1 b (cells c l.ptr m.ptr r.ptr v ok) 115 := g.mem.1.fr h.fr a.bm
  have hbn : b ∉ m'.ids := fun hx => by
    rcases h.ids b hx with e | e
    · exact a.bm e
    · omega
  have F2 : Fr (· = b) w1 (w1.setCell ⟨b, 2, none⟩ m'.ptr) := Fr.one
  have sep : ∀ q : N, (∀ x ∈ q.ids, x < w.heap.size) → (∀ x ∈ m.ids, x ∉ q.ids) → ∀ x ∈ m'.ids, x ∉ q.ids := fun q hq hd x hx hy => by
    rcases h.ids x hx with e | e
    · exact hd x e hy
    · have := hq x hy; omega
  have in2 : ∀ q : N, q.In w → (∀ x ∈ q.ids, x ∉ m.ids) → b ∉ q.ids → q.In (w1.setCell ⟨b, 2, none⟩ m'.ptr) := fun q hq hd hbq => (hq.fr h.fr hd).fr F2 (fun x hx e => hbq (e ▸ hx))
  refine ⟨hk, ⟨hk.set 2 _, in2 l g.mem.2.1 (fun x hx hy => a.lm x hx hy) a.bl, h.mem.fr F2 (fun x hx e => hbn (e ▸ hx)), in2 r g.mem.2.2.2 (fun x hx hy => a.mr x hy hx) a.br⟩, apart_iff.2 ⟨a.bl, hbn, a.br, a.nl, h.nodup, a.nr, ?_, ?_, ?_⟩, fun x hx => ?_, (h.fr.mono (fun x _ hx => by simp [N.ids, hx])).trans (F2.mono (fun x _ e => by rw [e]; simp [N.ids])) (fun _ _ e => e)⟩
  · exact fun x hx hy => sep l (fun x hx => hlt x (by simp [N.ids, hx])) (fun x hx hy => a.lm x hy hx) x hy hx
  · exact a.lr
  · exact sep r (fun x hx => hlt x (by simp [N.ids, hx])) a.mr
  · simp only [N.ids, List.mem_cons, List.mem_append] at hx ⊢
    rcases hx with e | e | e | e
    · exact .inl (.inl e)
    · exact .inl (by simp [e])
    · rcases h.ids x e with e | e
      · exact .inl (by simp [e])
      · exact .inr e
    · exact .inl (by simp [e])
theorem Good.part_r {b : Nat} {c : UInt8} {l m r : N} {v : Int} {ok : Bool} (g : Good base w (.node b c l m r v ok)) : Good base w r :=
  ⟨g.mem.2.2.2, (apart_iff.1 g.nodup).nr, fun x hx => g.above x (by simp [N.ids, hx])⟩
/-- A part turned, and set in its place. -/
theorem Put.set_r {b : Nat} {c : UInt8} {l m r r' : N} {v : Int} {ok : Bool} (g : Good base w (.node b c l m r v ok)) (h : Put r r' w w1) :
    Blk w1 b (cells c l.ptr m.ptr r.ptr v ok) 115 ∧ Put (.node b c l m r v ok) (.node b c l m r' v ok) w (w1.setCell ⟨b, 3, none⟩ r'.ptr) := by
  have a := apart_iff.1 g.nodup
  have hlt := g.mem.lt
  have hb : b < w.heap.size := hlt b (by simp [N.ids])
  have hk : Blk w1 b (cells c l.ptr m.ptr r.ptr v ok) 115 := g.mem.1.fr h.fr a.br
  have hbn : b ∉ r'.ids := fun hx => by
    rcases h.ids b hx with e | e
    · exact a.br e
    · omega
  have F2 : Fr (· = b) w1 (w1.setCell ⟨b, 3, none⟩ r'.ptr) := Fr.one
  have sep : ∀ q : N, (∀ x ∈ q.ids, x < w.heap.size) → (∀ x ∈ r.ids, x ∉ q.ids) → ∀ x ∈ r'.ids, x ∉ q.ids := fun q hq hd x hx hy => by
    rcases h.ids x hx with e | e
    · exact hd x e hy
    · have := hq x hy; omega
  have in2 : ∀ q : N, q.In w → (∀ x ∈ q.ids, x ∉ r.ids) → b ∉ q.ids → q.In (w1.setCell ⟨b, 3, none⟩ r'.ptr) := fun q hq hd hbq => (hq.fr h.fr hd).fr F2 (fun x hx e => hbq (e ▸ hx))
  refine ⟨hk, ⟨hk.set 3 _, in2 l g.mem.2.1 (fun x hx hy => a.lr x hx hy) a.bl, in2 m g.mem.2.2.1 (fun x hx hy => a.mr x hx hy) a.bm, h.mem.fr F2 (fun x hx e => hbn (e ▸ hx))⟩, apart_iff.2 ⟨a.bl, a.bm, hbn, a.nl, a.nm, h.nodup, ?_, ?_, ?_⟩, fun x hx => ?_, (h.fr.mono (fun x _ hx => by simp [N.ids, hx])).trans (F2.mono (fun x _ e => by rw [e]; simp [N.ids])) (fun _ _ e => e)⟩
  · exact a.lm
  · exact fun x hx hy => sep l (fun x hx => hlt x (by simp [N.ids, hx])) (fun x hx hy => a.lr x hy hx) x hy hx
  · exact fun x hx hy => sep m (fun x hx => hlt x (by simp [N.ids, hx])) (fun x hx hy => a.mr x hy hx) x hy hx
  · simp only [N.ids, List.mem_cons, List.mem_append] at hx ⊢
    rcases hx with e | e | e | e
    · exact .inl (.inl e)
    · exact .inl (by simp [e])
    · exact .inl (by simp [e])
    · rcases h.ids x e with e | e
      · exact .inl (by simp [e])
      · exact .inr e
/-- .. where nothing below has turned. -/
theorem Put.cell {b i : Nat} {u : Value} {c c' : UInt8} {l m r : N} {v v' : Int} {ok ok' : Bool} (g : Good base w (.node b c l m r v ok)) (hk : (cells c l.ptr m.ptr r.ptr v ok).setIfInBounds i u = cells c' l.ptr m.ptr r.ptr v' ok') :
    Put (.node b c l m r v ok) (.node b c' l m r v' ok') w (w.setCell ⟨b, i, none⟩ u) := by
  have a := apart_iff.1 g.nodup
  have F2 : Fr (· = b) w (w.setCell ⟨b, i, none⟩ u) := Fr.one
  have h1 := g.mem.1.set i u
  rw [hk] at h1
  exact ⟨⟨h1, g.mem.2.1.fr F2 (fun x hx e => a.bl (e ▸ hx)), g.mem.2.2.1.fr F2 (fun x hx e => a.bm (e ▸ hx)), g.mem.2.2.2.fr F2 (fun x hx e => a.br (e ▸ hx))⟩, apart_iff.2 a, fun x hx => .inl hx, F2.mono (fun x _ e => by rw [e]; simp [N.ids])⟩
theorem Put.then {t'' : N} (h : Put t t' w w1) (k : Put t' t'' w1 w2) : Put t t'' w w2 :=
  ⟨k.mem, k.nodup, fun x hx => by
    rcases k.ids x hx with e | e
    · exact h.ids x e
    · exact .inr (Nat.le_trans h.fr.size e), h.fr.trans k.fr (fun x hx e => by
    rcases h.ids x e with e | e
    · exact e
    · omega)⟩
end
/-- A word's rest, from a place on. -/
def suf (s : ByteArray) (d : Nat) : List UInt8 := s.data.toList.drop d
theorem suf_cons (s : ByteArray) (d : Nat) (h : d < s.size) : suf s d = s[d] :: suf s (d + 1) := List.drop_eq_getElem_cons (by simpa using h)
theorem suf_nil (s : ByteArray) (d : Nat) (h : s.size ≤ d) : suf s d = [] := List.drop_eq_nil_of_le (by simpa using h)
/-- The node that a search comes to. -/
def N.sub : N → List UInt8 → N
  | .nil, _ => .nil
  | .node _ _ _ _ _ _ _, [] => .nil
  | .node b c l m r v ok, k :: ks => if k < c then l.sub (k :: ks) else if c < k then r.sub (k :: ks) else match ks with
    | [] => .node b c l m r v ok
    | k2 :: ks2 => m.sub (k2 :: ks2)
theorem sub_raw : ∀ (t : N) (ks : List UInt8), (t.sub ks).raw = t.raw.get ks
  | .nil, _ => rfl
  | .node _ _ _ _ _ _ _, [] => rfl
  | .node b c l m r v ok, [k] => by
    show (if k < c then l.sub [k] else if c < k then r.sub [k] else N.node b c l m r v ok).raw = T.get (.node c l.raw m.raw r.raw v ok) [k]
    rw [T.get_one]
    split
    · exact sub_raw l _
    · split
      · exact sub_raw r _
      · rfl
  | .node b c l m r v ok, k :: k2 :: ks => by
    show (if k < c then l.sub (k :: k2 :: ks) else if c < k then r.sub (k :: k2 :: ks) else m.sub (k2 :: ks)).raw = T.get (.node c l.raw m.raw r.raw v ok) (k :: k2 :: ks)
    rw [T.get_more]
    split
    · exact sub_raw l _
    · split
      · exact sub_raw r _
      · exact sub_raw m _
theorem sub_in {w : World} : ∀ (t : N) (ks : List UInt8), t.In w → (t.sub ks).In w
  | .nil, _, _ => trivial
  | .node _ _ _ _ _ _ _, [], _ => trivial
  | .node b c l m r v ok, [k], h => by
    show (if k < c then l.sub [k] else if c < k then r.sub [k] else N.node b c l m r v ok).In w
    split
    · exact sub_in l _ h.2.1
    · split
      · exact sub_in r _ h.2.2.2
      · exact h
  | .node b c l m r v ok, k :: k2 :: ks, h => by
    show (if k < c then l.sub (k :: k2 :: ks) else if c < k then r.sub (k :: k2 :: ks) else m.sub (k2 :: ks)).In w
    split
    · exact sub_in l _ h.2.1
    · split
      · exact sub_in r _ h.2.2.2
      · exact sub_in m _ h.2.2.1
set_option maxHeartbeats 4000000 in
set_option maxRecDepth 100000 in
theorem get_any (s : ByteArray) (Tb : Option Addr) (hs : s.size ≤ 1099511627776) : ∀ (t : N) (d : Nat) (w : World), t.In w → d < s.size →
    Calls Try.prog 63 #[.pointer Tb, t.ptr, .string s, .int .i64 (d : Int)] w fun e w' => e = .returned (t.sub (suf s d)).ptr ∧ w' = w
  | .nil, d, w, _, hd => by
    show Calls Try.prog 63 #[.pointer Tb, .pointer none, .string s, .int .i64 (d : Int)] w _
    go_enter Try.func63, Try.ntmps63
    go_wp2_with fail
    go_ret
    exact ⟨rfl, rfl⟩
  | .node b c l m r v ok, d, w, hin, hd => by
    have HI := hid hin
    have HS := hid hs
    have e0 : (s.size == 0) = false := beq_eq_false_iff_ne.2 (by omega)
    have e1 : ((s.size : Int) == 0) = false := beq_eq_false_iff_ne.2 (by omega)
    have c0 : w.cell? ⟨b, 0, none⟩ = some (.int .u8 (c.toNat : Int)) := hin.1.cell 0
    have c1 : w.cell? ⟨b, 1, none⟩ = some l.ptr := hin.1.cell 1
    have c2 : w.cell? ⟨b, 2, none⟩ = some m.ptr := hin.1.cell 2
    have c3 : w.cell? ⟨b, 3, none⟩ = some r.ptr := hin.1.cell 3
    have HD := hid hd
    have HX := hid (suf_cons s d hd)
    clear hin
    show Calls Try.prog 63 #[.pointer Tb, .pointer (some ⟨b, 0, none⟩), .string s, .int .i64 (d : Int)] w _
    by_cases h1 : s[d] < c
    · have h1' : s[d].toNat < c.toNat := u_lt.1 h1
      have h1i : decide ((s[d].toNat : Int) < (c.toNat : Int)) = true := decide_eq_true (by omega)
      have h1n : decide (s[d].toNat < c.toNat) = true := decide_eq_true h1'
      have HR : Hid ((N.node b c l m r v ok).sub (suf s d) = l.sub (suf s d)) := by
        rw [HX.out]; exact hid (if_pos h1)
      clear h1
      go_enter Try.func63, Try.ntmps63
      go_wp2_with fail
      refine (get_any s Tb HS.out l d w HI.out.2.1 HD.out).mono ?_
      rintro e w1 ⟨rfl, rfl⟩
      go_wp2_with fail
      go_ret
      exact ⟨by rw [HR.out]; rfl, rfl⟩
    by_cases h2 : c < s[d]
    · have h2' : c.toNat < s[d].toNat := u_lt.1 h2
      have h1i : decide ((s[d].toNat : Int) < (c.toNat : Int)) = false := decide_eq_false (by omega)
      have h1n : decide (s[d].toNat < c.toNat) = false := decide_eq_false (by omega)
      have h2i : decide ((c.toNat : Int) < (s[d].toNat : Int)) = true := decide_eq_true (by omega)
      have h2n : decide (c.toNat < s[d].toNat) = true := decide_eq_true h2'
      have h1' : ¬ s[d].toNat < c.toNat := by omega
      have HR : Hid ((N.node b c l m r v ok).sub (suf s d) = r.sub (suf s d)) := by
        rw [HX.out]; exact hid ((if_neg h1).trans (if_pos h2))
      clear h1 h2
      go_enter Try.func63, Try.ntmps63
      go_wp2_with fail
      refine (get_any s Tb HS.out r d w HI.out.2.2.2 HD.out).mono ?_
      rintro e w1 ⟨rfl, rfl⟩
      go_wp2_with fail
      go_ret
      exact ⟨by rw [HR.out]; rfl, rfl⟩
    have h1' : ¬ s[d].toNat < c.toNat := fun e => h1 (u_lt.2 e)
    have h2' : ¬ c.toNat < s[d].toNat := fun e => h2 (u_lt.2 e)
    have h1i : decide ((s[d].toNat : Int) < (c.toNat : Int)) = false := decide_eq_false (by omega)
    have h1n : decide (s[d].toNat < c.toNat) = false := decide_eq_false h1'
    have h2i : decide ((c.toNat : Int) < (s[d].toNat : Int)) = false := decide_eq_false (by omega)
    have h2n : decide (c.toNat < s[d].toNat) = false := decide_eq_false h2'
    by_cases h3 : d + 1 < s.size
    · have h3i : decide ((d : Int) < (s.size : Int) - 1) = true := decide_eq_true (by omega)
      have h3' : (d : Int) < (s.size : Int) - 1 := by omega
      have HR : Hid ((N.node b c l m r v ok).sub (suf s d) = m.sub (suf s (d + 1))) := by
        rw [HX.out, suf_cons s (d + 1) h3]; exact hid ((if_neg h1).trans (if_neg h2))
      have H3 := hid h3
      clear h1 h2 h3
      go_enter Try.func63, Try.ntmps63
      go_wp2_with fail
      refine (get_any s Tb HS.out m (d + 1) w HI.out.2.2.1 H3.out).mono ?_
      rintro e w1 ⟨rfl, rfl⟩
      go_wp2_with fail
      go_ret
      exact ⟨by rw [HR.out]; rfl, rfl⟩
    · have h3i : decide ((d : Int) < (s.size : Int) - 1) = false := decide_eq_false (by omega)
      have h3' : ¬ (d : Int) < (s.size : Int) - 1 := by omega
      have HR : Hid ((N.node b c l m r v ok).sub (suf s d) = .node b c l m r v ok) := by
        rw [HX.out, suf_nil s (d + 1) (by omega)]; exact hid ((if_neg h1).trans (if_neg h2))
      clear h1 h2 h3
      go_enter Try.func63, Try.ntmps63
      go_wp2_with fail
      go_ret
      exact ⟨by rw [HR.out]; rfl, rfl⟩
end Go.Proofs.Ytkgbflcbeeghoaa.Trie
