/- Stacks by their plain definition: the run of it in memory, where rows are shared and never turned. For every script. -/
import Derived.Test.YtmhnhfmkcipcpaaStackC
namespace Go.Proofs.Ytmhnhfmkcipcpaa.Stack
open Go Go.RowKit Go.Proofs.Ytmhnhfmkcipcpaa.Hk Go.Proofs.Ytmhnhfmkcipcpaa.HeapPure Go.Proofs.Ytmhnhfmkcipcpaa.Heap Go.Proofs.Ytmhnhfmkcipcpaa.StackPure Go.Proofs.Ytmhnhfmkcipcpaa.Seen Go.Proofs.YtmhnhfmkcipcpaaW.PrintWords Go.Proofs.YtmhnhfmkcipcpaaW.PrintLast Go.Proofs.YtmhnhfmkcipcpaaW.PrintMore

set_option maxHeartbeats 400000 in
theorem smod_any (k n : Int) (w : World) (h0 : 0 < n) (h1 : n ≤ 140737488351232) :
    Calls Try.prog 37 #[.int .i64 k, .int .i64 n] w fun e w' => e = .returned (.int .i64 (k % n)) ∧ w' = w := by
  obtain ⟨b0, b1, ht⟩ := Less.tmod_bd k n h0
  have hz : (n == 0) = false := beq_eq_false_iff_ne.2 (by omega)
  have HT : Hid ((k.tmod n + n) % n = k % n) := ht
  clear ht
  go_enter Try.func37, Try.ntmps37
  go_wp2
  go_ret
  exact ⟨congrArg (fun x => Ending.returned (.int .i64 x)) HT.out, rfl⟩

/-- A slice's value: where, how long, how much room. -/
abbrev Sl := Option Addr × Nat × Nat
def slV (p : Sl) : Value := .slice p.1 p.2.1 p.2.2
def slK : Kd Sl := Kd.scalar slV (fun _ => rfl)
theorem infoSl : (Try.prog.info? 30).map (fun i => (i.zero, i.size, i.bytes)) = some (some (.slice none 0 0), 1, 24) := by kernel_rfl
theorem undSls : Try.prog.underlying 59 = some (.slice 30) := by kernel_rfl
/-- Numbers that lie in rows of numbers, and are only read. -/
structure Lies (w : World) (p : Sl) (xs : List Int) : Prop where
  len : p.2.1 = xs.length
  cap : p.2.1 ≤ p.2.2
  cells : Kd.C (Kd.int .i64) w p.1 xs.length xs
  typed : ∀ ad, p.1 = some ad → 0 < xs.length → ∃ cs, w.heap[ad.block]? = some (.cells cs 3 (0, 0))
theorem cell_same {w w1 : World} {a : Addr} (h : w1.heap[a.block]? = w.heap[a.block]?) : w1.cell? a = w.cell? a := by simp [World.cell?, h]
theorem add_block (a : Addr) (k : Nat) : (a.add k).block = a.block := by
  unfold Addr.add
  split <;> rfl
section
variable {w w1 : World} {p : Sl} {xs : List Int} {Z : Nat → Prop} {base c n : Nat} {A : Option Addr}
theorem Lies.fr (h : Lies w p xs) (hF : Fr Z w w1) (hZ : ∀ g, Z g → ∃ cs t, w.heap[g]? = some (.cells cs t (0, 0)) ∧ t ≠ 3) : Lies w1 p xs := by
  have same : ∀ ad, p.1 = some ad → 0 < xs.length → w1.heap[ad.block]? = w.heap[ad.block]? := fun ad e h0 => by
    obtain ⟨cs, hc⟩ := h.typed ad e h0
    refine hF.block _ (lt_of_block hc) (fun hz => ?_)
    obtain ⟨cs', t, h', hne⟩ := hZ _ hz
    exact clash h' hc hne
  refine ⟨h.len, h.cap, ⟨h.cells.1, h.cells.2.1, fun hn => ?_⟩, fun ad e h0 => ?_⟩
  · obtain ⟨ad, e, hc⟩ := h.cells.2.2 hn
    refine ⟨ad, e, fun j q hq => ?_⟩
    obtain ⟨cs, h1, h2, h3⟩ := hc j q hq
    exact ⟨cs, h1, h2, fun i u hu => (cell_same (by rw [add_block]; exact same ad e hn)).trans (h3 i u hu)⟩
  · obtain ⟨cs, hc⟩ := h.typed ad e h0
    exact ⟨cs, (same ad e h0).trans hc⟩
theorem Lies.below (h : Lies w p xs) (hB : Below w.heap.size w w1) : Lies w1 p xs := h.fr (Fr.new (Z := fun _ => False) hB) (fun _ h => h.elim)
theorem Lies.of (h : Ro w base (.slice A n c) xs) : Lies w (A, n, c) xs := by
  obtain ⟨h1, h2, h3⟩ := Kd.R_reads' h
  refine ⟨h1, h2, h3, fun ad e h0 => ?_⟩
  obtain ⟨inner, ho⟩ := Kd.R_own h
  obtain ⟨g, c', e', _⟩ := Kd.R_form h h0
  injection e' with e' _ _
  have e2 : ad = ⟨g, 0, none⟩ := by
    rw [e'] at e
    injection e with e
    exact e.symm
  subst e2
  exact own_typed ho g (by rw [e']; rfl)
theorem Lies.take (h : Lies w p xs) {m : Nat} (hm : m ≤ xs.length) : Lies w (p.1, m, p.2.2) (xs.take m) := by
  have hl : (xs.take m).length = m := by rw [List.length_take]; omega
  exact ⟨hl.symm, by have := h.cap; have := h.len; show m ≤ p.2.2; omega, Kd.C_take h.cells hm, fun ad e h0 => h.typed ad e (by omega)⟩
theorem Lies.cell (h : Lies w p xs) {j : Nat} (hj : j < xs.length) : ∃ ad, p.1 = some ad ∧ w.cell? (ad.add j) = some (.int .i64 (at_ xs j)) := by
  obtain ⟨ad, e, hc⟩ := Kd.at_int h.cells (j : Int) (by omega) (by omega)
  exact ⟨ad, e, by rw [Int.toNat_natCast] at hc; exact hc⟩
theorem Lies.nil (w : World) : Lies w (none, 0, 0) [] := ⟨rfl, Nat.le_refl _, Kd.C_nil _ _, fun _ e => by cases e⟩
end
/-- Rows that lie. -/
def Lie2 (w : World) (ps : List Sl) (L : List (List Int)) : Prop := ps.length = L.length ∧ ∀ (j : Nat) (p : Sl) (xs : List Int), ps[j]? = some p → L[j]? = some xs → Lies w p xs
section
variable {w w1 : World} {ps : List Sl} {L : List (List Int)} {Z : Nat → Prop}
theorem Lie2.fr (h : Lie2 w ps L) (hF : Fr Z w w1) (hZ : ∀ g, Z g → ∃ cs t, w.heap[g]? = some (.cells cs t (0, 0)) ∧ t ≠ 3) : Lie2 w1 ps L := ⟨h.1, fun j p xs hp hx => (h.2 j p xs hp hx).fr hF hZ⟩
theorem Lie2.below (h : Lie2 w ps L) (hB : Below w.heap.size w w1) : Lie2 w1 ps L := ⟨h.1, fun j p xs hp hx => (h.2 j p xs hp hx).below hB⟩
theorem Lie2.set (h : Lie2 w ps L) {j : Nat} {p : Sl} {xs : List Int} (hp : Lies w p xs) : Lie2 w (ps.set j p) (L.set j xs) := by
  refine ⟨by rw [List.length_set, List.length_set]; exact h.1, fun i q ys h1 h2 => ?_⟩
  rw [List.getElem?_set] at h1 h2
  by_cases c : j = i
  · rw [if_pos c] at h1 h2
    split at h1
    · split at h2
      · injection h1 with h1; injection h2 with h2; subst h1; subst h2; exact hp
      · cases h2
    · cases h1
  · rw [if_neg c] at h1 h2
    exact h.2 i q ys h1 h2
theorem Lie2.push (h : Lie2 w ps L) {p : Sl} {xs : List Int} (hp : Lies w p xs) : Lie2 w (ps ++ [p]) (L ++ [xs]) := by
  refine ⟨by simp [h.1], fun i q ys h1 h2 => ?_⟩
  by_cases c : i < ps.length
  · rw [List.getElem?_append_left c] at h1
    rw [List.getElem?_append_left (by rw [← h.1]; exact c)] at h2
    exact h.2 i q ys h1 h2
  · rw [List.getElem?_append_right (by omega)] at h1
    rw [List.getElem?_append_right (by rw [← h.1]; omega), ← h.1] at h2
    have c2 : i - ps.length = 0 := by
      rcases Nat.eq_zero_or_pos (i - ps.length) with h0 | h0
      · exact h0
      · rw [List.getElem?_eq_none (by simp; omega)] at h1; cases h1
    rw [c2] at h1 h2
    injection h1 with h1; injection h2 with h2; subst h1; subst h2; exact hp
end
/-- A row of slices of the call's own. -/
abbrev Rsl (w : World) (base : Nat) (v : Value) (ps : List Sl) : Prop := slK.R 30 w base (fun _ => True) v ps
section
variable {w : World} {base g n c : Nat} {ps : List Sl}
theorem sl_cell (h : Rsl w base (.slice (some ⟨g, 0, none⟩) n c) ps) (i : Nat) {p : Sl} (hp : ps[i]? = some p) : w.cell? ⟨g, i, none⟩ = some (slV p) := by
  obtain ⟨hn, _, hC⟩ := Kd.R_reads' h
  have hi := (List.getElem?_eq_some_iff.1 hp).1
  obtain ⟨ad, e, hc⟩ := ReadsOf.at_ (Kd.reads_of_C (enc := slV) (d := ((none, 0, 0) : Sl)) (h1 := fun _ => rfl) hC) (i : Int) (by omega) (by omega)
  injection e with e
  subst e
  rw [Int.toNat_natCast] at hc
  have e1 : (⟨g, 0, none⟩ : Addr).add i = ⟨g, i, none⟩ := by
    unfold Addr.add
    by_cases h0 : i = 0 <;> simp [h0]
  rw [e1] at hc
  rw [hc, rdOf, Int.toNat_natCast, List.getD_eq_getElem?_getD, hp]
  rfl
theorem sl_free (h : Rsl w base (.slice (some ⟨g, 0, none⟩) n c) ps) (i : Nat) (hi : i < ps.length) : w.frozen? ⟨g, i, none⟩ = false := by
  obtain ⟨g', c', e, _, _, cs, hb⟩ := Kd.R_form h (by omega)
  injection e with e _ _
  injection e with e
  injection e with e
  subst e
  exact blk_frozen hb i
theorem sl_set (h : Rsl w base (.slice (some ⟨g, 0, none⟩) n c) ps) (i : Nat) {q : Sl} (hq : ps[i]? = some q) (p : Sl) : Rsl (w.setCell ⟨g, i, none⟩ (slV p)) base (.slice (some ⟨g, 0, none⟩) n c) (ps.set i p) := by
  have hn := (Kd.R_reads' h).1
  have hi := (List.getElem?_eq_some_iff.1 hq).1
  have h1 := (Kd.R_seg (okp := fun _ => False) h (i : Int) (by omega) (by omega) (c := [slV q]) (seg := [slV p]) (j := 0) rfl (fun j u hj => ?_) (Nat.le_refl 1) (x' := p) rfl (fun _ h => h.elim)).1
  · have e1 : ((i : Int).toNat * slK.sz + 0) = i := by show (i : Int).toNat * 1 + 0 = i; omega
    rw [e1, Int.toNat_natCast] at h1
    exact h1
  · match j, hj with
    | 0, hj =>
      have := sl_cell h i hq
      simp only [List.getElem?_cons_zero, Option.some.injEq] at hj
      rw [← hj]
      have e1 : ((i : Int).toNat * slK.sz + 0) = i := by show (i : Int).toNat * 1 + 0 = i; omega
      rw [e1]
      exact this
end

/-- What holds between the steps. -/
structure Rs (base : Nat) (w0 : World) (l : List St) (i : Nat) (ps : List Sl) (L : List (List Int)) (va vo : Value) (rs : List (Int × Bool)) (W : World) : Prop where
  all : Rsl W base va ps
  lies : Lie2 W ps L
  out : seenN.R 34 W base (fun _ => True) vo rs
  below : Below base w0 W
  big : base ≤ W.heap.size
  told : rs ++ toldS L (l.drop i) = toldS [[]] l
  len : L ≠ [] ∧ L.length ≤ i + 1
  each : ∀ (j : Nat) (xs : List Int), L[j]? = some xs → xs.length ≤ i
  rlen : rs.length = i
/-- What holds within one. -/
structure Md (base s : Nat) (w0 : World) (ps : List Sl) (L : List (List Int)) (va vo : Value) (rs : List (Int × Bool)) (n : Int) (W : World) : Prop where
  all : Rsl W base va ps
  lies : Lie2 W ps L
  out : seenN.R 34 W base (fun _ => True) vo rs
  off : ∀ k, vo.ownBlock = some k → k ≠ s
  below : Below base w0 W
  big : base ≤ W.heap.size
  bs : base ≤ s
  x6 : Blk W s (F4 n false) 34
section
variable {base s j : Nat} {w0 W W1 : World} {ps ps' : List Sl} {L L' : List (List Int)} {va va' vo vo' : Value} {rs rs' : List (Int × Bool)} {n : Int} {p q : Sl} {xs : List Int}
theorem row_typed {α : Type} {d : Kd α} {e : Nat} {ok : Nat → Prop} {v : Value} {ys : List α} (h : d.R e W base ok v ys) : ∀ g, some g = v.ownBlock → ∃ cs, W.heap[g]? = some (.cells cs e (0, 0)) := fun g hg => by
  obtain ⟨inner, ho⟩ := Kd.R_own h
  exact own_typed ho g hg.symm
theorem Md.later (h : Md base s w0 ps L va vo rs n W) (hB : Below W.heap.size W W1) : Md base s w0 ps L va vo rs n W1 :=
  ⟨Kd.R_below h.all hB, h.lies.below hB, Kd.R_below h.out hB, h.off, h.below.trans ⟨hB.os, hB.tape, hB.output, hB.size, fun k hk => hB.block k (Nat.lt_of_lt_of_le hk h.big)⟩, Nat.le_trans h.big hB.size, h.bs, h.x6.below hB h.x6.lt⟩
theorem Md.set6 (h : Md base s w0 ps L va vo rs n W) (m : Int) : Md base s w0 ps L va vo rs m (W.setCell ⟨s, 0, none⟩ (.int .i64 m)) := by
  have hF : Fr (· = s) W (W.setCell ⟨s, 0, none⟩ (.int .i64 m)) := Fr.one
  have hZ : ∀ e, 34 ≠ e → ∀ g, g = s → ∃ cs t, W.heap[g]? = some (.cells cs t (0, 0)) ∧ t ≠ e := fun e hne g hg => by
    subst hg
    exact ⟨_, _, h.x6, hne⟩
  refine ⟨row_fr (d := slK) rfl h.all hF (hZ _ (by decide)), h.lies.fr hF (hZ _ (by decide)), ?_, h.off, h.below.trans (hF.below h.big (fun k hk => by rw [hk]; exact h.bs)), Nat.le_trans h.big hF.size, h.bs, h.x6.set 0 _⟩
  exact Kd.R_mono (Kd.R_step (Kd.R_reok (ok := fun g => some g = vo.ownBlock) rfl h.out (fun _ hk => hk.symm)) (fun g hg hlt => hF.block g hlt (fun e => h.off g hg.symm e))) (fun _ _ => trivial)
/-- A row put to all of them. -/
theorem Md.push (h : Md base s w0 ps L va vo rs n W) (hp : Lies W p xs) (hR : Rsl W1 base va' (ps ++ [p])) (hg : W.grownBy W1 va.ownBlock) : Md base s w0 (ps ++ [p]) (L ++ [xs]) va' vo rs n W1 := by
  have hF : Fr (fun k => some k = va.ownBlock) W W1 := Fr.of_grown hg
  have hZ : ∀ e, (30 : Nat) ≠ e → ∀ g, some g = va.ownBlock → ∃ cs t, W.heap[g]? = some (.cells cs t (0, 0)) ∧ t ≠ e := fun e hne g q => by
    obtain ⟨cs, h'⟩ := row_typed h.all g q
    exact ⟨cs, _, h', hne⟩
  exact ⟨hR, (h.lies.push hp).fr hF (hZ _ (by decide)), row_fr (d := seenN) rfl h.out hF (hZ _ (by decide)), h.off, h.below.trans (hF.below h.big (fun k hk => Kd.R_base h.all k hk.symm)), Nat.le_trans h.big hF.size, h.bs, blk_fr h.x6 hF (hZ _ (by decide))⟩
/-- A row set in its place. -/
theorem Md.put {g c m : Nat} (h : Md base s w0 ps L (.slice (some ⟨g, 0, none⟩) m c) vo rs n W) (hq : ps[j]? = some q) (hp : Lies W p xs) : Md base s w0 (ps.set j p) (L.set j xs) (.slice (some ⟨g, 0, none⟩) m c) vo rs n (W.setCell ⟨g, j, none⟩ (slV p)) := by
  have hF : Fr (· = g) W (W.setCell ⟨g, j, none⟩ (slV p)) := Fr.one
  have hZ : ∀ e, (30 : Nat) ≠ e → ∀ k, k = g → ∃ cs t, W.heap[k]? = some (.cells cs t (0, 0)) ∧ t ≠ e := fun e hne k hk => by
    subst hk
    obtain ⟨cs, h'⟩ := row_typed h.all k rfl
    exact ⟨cs, _, h', hne⟩
  exact ⟨sl_set h.all j hq p, (h.lies.set hp).fr hF (hZ _ (by decide)), row_fr (d := seenN) rfl h.out hF (hZ _ (by decide)), h.off, h.below.trans (hF.below h.big (fun k hk => by rw [hk]; exact Kd.R_base h.all g rfl)), Nat.le_trans h.big hF.size, h.bs, blk_fr h.x6 hF (hZ _ (by decide))⟩
theorem Md.told (h : Md base s w0 ps L va vo rs n W) (hR : seenN.R 34 W1 base (fun _ => True) vo' rs') (hg : W.grownBy W1 vo.ownBlock) :
    Rsl W1 base va ps ∧ Lie2 W1 ps L ∧ seenN.R 34 W1 base (fun _ => True) vo' rs' ∧ Below base w0 W1 ∧ base ≤ W1.heap.size := by
  have hF : Fr (fun k => some k = vo.ownBlock) W W1 := Fr.of_grown hg
  have hZ : ∀ e, 34 ≠ e → ∀ g, some g = vo.ownBlock → ∃ cs t, W.heap[g]? = some (.cells cs t (0, 0)) ∧ t ≠ e := fun e hne g q => by
    obtain ⟨cs, h'⟩ := row_typed h.out g q
    exact ⟨cs, _, h', hne⟩
  exact ⟨row_fr (d := slK) rfl h.all hF (hZ _ (by decide)), h.lies.fr hF (hZ _ (by decide)), hR, h.below.trans (hF.below h.big (fun k hk => Kd.R_base h.out k hk.symm)), Nat.le_trans h.big hF.size⟩
end
theorem set_same {L : List (List Int)} {j : Nat} {xs : List Int} (h : L[j]? = some xs) : L.set j xs = L := by
  apply List.ext_getElem?
  intro i
  rw [List.getElem?_set]
  split
  · rename_i e
    subst e
    rw [if_pos (List.getElem?_eq_some_iff.1 h).1, h]
  · rfl
theorem set_eachL {L : List (List Int)} {j i : Nat} {x : List Int} (h : ∀ (j : Nat) (k : List Int), L[j]? = some k → k.length ≤ i) (hx : x.length ≤ i + 1) : ∀ (j' : Nat) (k : List Int), (L.set j x)[j']? = some k → k.length ≤ i + 1 := by
  intro j' k hk
  rw [List.getElem?_set] at hk
  split at hk
  · split at hk
    · injection hk with hk; subst hk; exact hx
    · cases hk
  · exact Nat.le_succ_of_le (h j' k hk)
theorem set_okL {L : List (List Int)} {j i : Nat} {x : List Int} (h : L ≠ [] ∧ L.length ≤ i + 1) : L.set j x ≠ [] ∧ (L.set j x).length ≤ i + 1 + 1 := by
  refine ⟨fun e => h.1 ?_, by rw [List.length_set]; omega⟩
  have := congrArg List.length e
  rw [List.length_set] at this
  exact List.length_eq_zero_iff.1 this
theorem reps_sl {w : World} {base : Nat} {p : Sl} {ok : Nat → Prop} : Reps (slK.M w base ok) slK.sz [p] [slV p] := by
  refine ⟨rfl, fun j q hj => ?_⟩
  match j, hj with
  | 0, hj =>
    simp only [List.getElem?_cons_zero, Option.some.injEq] at hj
    subst hj
    rfl
end Go.Proofs.Ytmhnhfmkcipcpaa.Stack
