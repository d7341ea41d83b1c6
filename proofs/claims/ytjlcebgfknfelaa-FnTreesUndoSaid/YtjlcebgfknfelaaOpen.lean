/- Arguments opened: a slice of whatever kind of elements, as a row that is read. Of no program. -/
import Derived.Test.YtjlcebgfknfelaaWMore
import Derived.Deep.Slices
import Derived.Deep.Strs
import Derived.Lib.SmallJoins
import Derived.Carry
import Derived.OpenShut
import Derived.ShutString
import Derived.WideShapes
import Derived.ChangeOld
namespace Go.Proofs.Ytjlcebgfknfelaa.Open
open Go Go.Deep Go.Joins Go.ChangeShapes Go.WideShapes Go.ChangeAt Go.RowKit Go.Proofs.YtjlcebgfknfelaaW.PrintWords Go.Proofs.YtjlcebgfknfelaaW.PrintLast Go.Proofs.YtjlcebgfknfelaaW.PrintMore

/-- What lies as data of type e reads as a kind says; ok: what is known of it besides. -/
def Reads (P : Program) (e : TypeId) {α : Type} (d : Kd α) (ok : α → Prop) : Prop :=
  P.cellsOf e = d.sz ∧ ∀ {H : Type} (enc : TypeId × Value → H) (w : World) (base : Nat) (spare : Nat → Bool) (held : Bool) (n : Nat) (cs : List Value) (x : DataW H × List MemPlace),
    DataW.trod enc P w base spare held n e cs = some x → ∃ a, d.K w a cs ∧ ok a

section
variable {P : Program} {α β γ δ ε : Type} {t e : TypeId}

theorem reads_int {k : IntKind} (ht : P.underlying e = some (.int k)) (hc : P.cellsOf e = 1) : Reads P e (Kd.int k) (fun n => (Lit.int k n).wf = true) :=
  ⟨hc, fun _ _ _ _ _ _ _ _ h => by
    obtain ⟨n, rfl, _, hw⟩ := DataW.trod_int ht h
    exact ⟨n, rfl, hw⟩⟩
theorem reads_bool (ht : P.underlying e = some .bool) (hc : P.cellsOf e = 1) : Reads P e Kd.bool (fun _ => True) :=
  ⟨hc, fun _ _ _ _ _ _ _ _ h => by
    obtain ⟨b, rfl, _⟩ := DataW.trod_bool ht h
    exact ⟨b, rfl, trivial⟩⟩
theorem reads_string (ht : P.underlying e = some .string) (hc : P.cellsOf e = 1) : Reads P e Kd.string (fun s => s.size ≤ maxLen) :=
  ⟨hc, fun _ _ _ _ _ _ _ _ h => by
    obtain ⟨s, rfl, _, hw⟩ := DataW.trod_string ht h
    exact ⟨s, rfl, hw⟩⟩

theorem rows_of {p : Nat → α → Prop} : ∀ n : Nat, (∀ i, i < n → ∃ a, p i a) → ∃ xs : List α, xs.length = n ∧ ∀ j a, xs[j]? = some a → p j a
  | 0, _ => ⟨[], rfl, fun j a h => by simp at h⟩
  | n + 1, h => by
    obtain ⟨xs, hl, hx⟩ := rows_of n (fun i hi => h i (by omega))
    obtain ⟨a, ha⟩ := h n (Nat.lt_succ_self n)
    refine ⟨xs ++ [a], by simp [hl], fun j b hb => ?_⟩
    rcases Nat.lt_or_ge j xs.length with hj | hj
    · rw [List.getElem?_append_left hj] at hb
      exact hx j b hb
    · rw [List.getElem?_append_right hj] at hb
      have : j = n := by
        rcases Nat.eq_zero_or_pos (j - xs.length) with h0 | h0
        · omega
        · rw [List.getElem?_eq_none (by simp; omega)] at hb; cases hb
      subst this
      rw [hl, Nat.sub_self] at hb
      simp at hb
      exact hb ▸ ha

theorem open_C {d : Kd α} {ok : α → Prop} (hd : Reads P e d ok) (ht : P.underlying t = some (.slice e)) {H : Type} {enc : TypeId × Value → H} {w : World} {base : Nat} {spare : Nat → Bool} {held : Bool} {fuel : Nat} {cs : List Value} {x : DataW H × List MemPlace}
    (h : DataW.trod enc P w base spare held fuel t cs = some x) : ∃ A c xs, cs = [.slice A xs.length c] ∧ xs.length ≤ c ∧ c ≤ maxLen ∧ d.C w A xs.length xs ∧ ∀ a ∈ xs, ok a := by
  rcases open_slice ht h with ⟨rfl, _⟩ | ⟨a, len, cap, m, n, D, Pl, rfl, _, hl, hm, hmm, _, hx⟩
  · exact ⟨none, 0, [], rfl, Nat.le_refl _, by simp [maxLen], Kd.C_nil d w, fun a ha => by simp at ha⟩
  · have hle : len ≤ m := by rw [hmm]; split <;> omega
    obtain ⟨xs, hxl, hxs⟩ := rows_of (p := fun i (y : α) => ok y ∧ ∃ c, c.length = d.sz ∧ d.K w y c ∧ ∀ k u, c[k]? = some u → w.cell? (a.add (i * d.sz + k)) = some u) len (fun i hi => by
      obtain ⟨cs', h1, h2⟩ := hx i (by omega)
      obtain ⟨y, hy, hok⟩ := hd.2 _ _ _ _ _ _ _ _ h2
      obtain ⟨_, hlen, hcell⟩ := World.cells?_some h1
      rw [hd.1] at hlen hcell
      refine ⟨y, hok, cs', hlen, hy, fun k u hu => ?_⟩
      have hk : k < d.sz := by
        rw [← hlen]
        exact (List.getElem?_eq_some_iff.1 hu).1
      rw [← Go.Deep.add_add, hcell k hk, hu])
    subst hxl
    refine ⟨some a, cap, xs, rfl, hl, hm, ⟨rfl, by unfold maxLen at hm; omega, fun _ => ⟨a, rfl, fun j p hj => ?_⟩⟩, fun b hb => ?_⟩
    · exact (hxs j p hj).2
    · obtain ⟨j, hj, rfl⟩ := List.getElem_of_mem hb
      exact (hxs j _ (List.getElem?_eq_getElem hj)).1

theorem reads_slice {d : Kd α} {ok : α → Prop} (hd : Reads P e d ok) (ht : P.underlying t = some (.slice e)) (hc : P.cellsOf t = 1) : Reads P t (Kd.slice e d) (fun xs => ∀ a ∈ xs, ok a) :=
  ⟨hc, fun _ _ _ _ _ _ _ _ h => by
    obtain ⟨A, c, xs, rfl, hl, _, hC, hok⟩ := open_C hd ht h
    exact ⟨xs, ⟨A, c, rfl, hl, hC⟩, hok⟩⟩

theorem reads_pair {f0 f1 : Field} {a : Kd α} {b : Kd β} {oa : α → Prop} {ob : β → Prop} (ht : P.underlying t = some (.struct #[f0, f1])) (ha : Reads P f0.type a oa) (hb : Reads P f1.type b ob)
    (h0 : f0.offset = 0) (h1 : f1.offset = a.sz) (hc : P.cellsOf t = a.sz + b.sz) : Reads P t (Kd.pair a b) (fun x => oa x.1 ∧ ob x.2) :=
  ⟨hc, fun _ _ _ _ _ _ cs _ h => by
    obtain ⟨y0, y1, n, _, hl, q0, q1⟩ := trod_struct2 ht h
    obtain ⟨x0, k0, o0⟩ := ha.2 _ _ _ _ _ _ _ _ q0
    obtain ⟨x1, k1, o1⟩ := hb.2 _ _ _ _ _ _ _ _ q1
    rw [h0, ha.1, List.drop_zero] at k0
    rw [h1, hb.1] at k1
    rw [hc] at hl
    refine ⟨(x0, x1), ⟨cs.take a.sz, cs.drop a.sz, (List.take_append_drop _ _).symm, k0, ?_⟩, o0, o1⟩
    rwa [List.take_of_length_le (by rw [List.length_drop]; omega)] at k1⟩

theorem reads_triple {f0 f1 f2 : Field} {a : Kd α} {b : Kd β} {c : Kd γ} {oa : α → Prop} {ob : β → Prop} {oc : γ → Prop} (ht : P.underlying t = some (.struct #[f0, f1, f2])) (ha : Reads P f0.type a oa) (hb : Reads P f1.type b ob) (hc' : Reads P f2.type c oc)
    (h0 : f0.offset = 0) (h1 : f1.offset = a.sz) (h2 : f2.offset = a.sz + b.sz) (hc : P.cellsOf t = a.sz + (b.sz + c.sz)) : Reads P t (Kd.pair a (Kd.pair b c)) (fun x => oa x.1 ∧ ob x.2.1 ∧ oc x.2.2) :=
  ⟨hc, fun _ _ _ _ _ _ cs _ h => by
    obtain ⟨y0, y1, y2, n, _, hl, q0, q1, q2⟩ := trod_struct3 ht h
    obtain ⟨x0, k0, o0⟩ := ha.2 _ _ _ _ _ _ _ _ q0
    obtain ⟨x1, k1, o1⟩ := hb.2 _ _ _ _ _ _ _ _ q1
    obtain ⟨x2, k2, o2⟩ := hc'.2 _ _ _ _ _ _ _ _ q2
    rw [h0, ha.1, List.drop_zero] at k0
    rw [h1, hb.1] at k1
    rw [h2, hc'.1] at k2
    rw [hc] at hl
    refine ⟨(x0, x1, x2), ⟨cs.take a.sz, cs.drop a.sz, (List.take_append_drop _ _).symm, k0, (cs.drop a.sz).take b.sz, (cs.drop a.sz).drop b.sz, (List.take_append_drop _ _).symm, k1, ?_⟩, o0, o1, o2⟩
    rw [List.drop_drop]
    rwa [List.take_of_length_le (by rw [List.length_drop]; omega)] at k2⟩

/-- An argument of a slice's type, of whatever elements. -/
theorem open_arg {d : Kd α} {ok : α → Prop} (hd : Reads P e d ok) (ht : P.underlying t = some (.slice e)) {H : Type} {enc : TypeId × Value → H} {w : World} {base b2 : Nat} {spare : Nat → Bool} {held : Bool} {r : Reach} {v : Value} {x : DataW H} {ps : List MemPlace}
    (hv : Value.okWide P w r b2 t v) (h : DataW.Trod enc P w base spare held t v x ps) : ∃ A c xs, v = .slice A xs.length c ∧ xs.length ≤ c ∧ c ≤ maxLen ∧ d.C w A xs.length xs ∧ ∀ a ∈ xs, ok a := by
  obtain ⟨A, len, cap, rfl⟩ := okWide_slice ht hv
  obtain ⟨fuel, hf⟩ := h
  obtain ⟨A', c, xs, he, hl, hm, hC, hok⟩ := open_C hd ht hf
  simp only [Value.cells] at he
  injection he with he
  exact ⟨A', c, xs, he, hl, hm, hC, hok⟩

theorem trod_blocks {H : Type} {enc : TypeId × Value → H} {w : World} {base : Nat} {spare : Nat → Bool} {held : Bool} {v : Value} {x : DataW H} {ps : List MemPlace} (h : DataW.Trod enc P w base spare held t v x ps) : ∀ y ∈ ps, y.block < w.heap.size := by
  obtain ⟨m, hm⟩ := h
  exact DataW.trod_lt m _ _ _ hm
end
end Go.Proofs.Ytjlcebgfknfelaa.Open
