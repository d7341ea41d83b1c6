/- Arguments opened, with how much they weigh (bulk): for statements '..UptoSaid'. Of no program. -/
import Derived.Test.YtdlnpmbnedmmnaaRows
import Derived.Test.YtdlnpmbnedmmnaaOpen
namespace Go.Proofs.Ytdlnpmbnedmmnaa.OpenB
open Go Go.Deep Go.Joins Go.ChangeShapes Go.WideShapes Go.ChangeAt Go.RowKit Go.Proofs.YtdlnpmbnedmmnaaW.PrintWords Go.Proofs.YtdlnpmbnedmmnaaW.PrintLast Go.Proofs.YtdlnpmbnedmmnaaW.PrintMore

theorem one_le {H : Type} (d : DataW H) : 1 ≤ Rows.uptoBulk d := by
  cases d with
  | lit l => cases l <;> simp [Rows.uptoBulk]
  | nil => simp [Rows.uptoBulk]
  | ptr d => simp [Rows.uptoBulk]
  | slice elems spare => simp [Rows.uptoBulk]
  | agg parts => simp [Rows.uptoBulk]
  | iface t d => simp [Rows.uptoBulk]
  | map entries => simp [Rows.uptoBulk]
  | held h => simp [Rows.uptoBulk]

/-- What lies as data of type e reads as a kind says, and weighs no less than m says. -/
def Reads (P : Program) (e : TypeId) {α : Type} (d : Kd α) (ok : α → Prop) (m : α → Nat) : Prop :=
  P.cellsOf e = d.sz ∧ ∀ {H : Type} (enc : TypeId × Value → H) (w : World) (base : Nat) (spare : Nat → Bool) (held : Bool) (n : Nat) (cs : List Value) (x : DataW H × List MemPlace),
    DataW.trod enc P w base spare held n e cs = some x → ∃ a, d.K w a cs ∧ ok a ∧ m a ≤ Rows.uptoBulk x.1

section
variable {P : Program} {α : Type} {t e : TypeId}

theorem reads_one {d : Kd α} {ok : α → Prop} (h : Open.Reads P e d ok) : Reads P e d ok (fun _ => 1) :=
  ⟨h.1, fun _ _ _ _ _ _ _ _ q => by
    obtain ⟨a, h1, h2⟩ := h.2 _ _ _ _ _ _ _ _ q
    exact ⟨a, h1, h2, one_le _⟩⟩

theorem sum_le {H : Type} {m : α → Nat} : ∀ (xs : List α) (D : Nat → DataW H), (∀ j a, xs[j]? = some a → m a ≤ Rows.uptoBulk (D j)) → (xs.map m).sum ≤ Rows.uptoBulkAll ((List.range xs.length).map D)
  | [], _, _ => by simp
  | x :: xs, D, h => by
    have h0 := h 0 x rfl
    have h1 := sum_le xs (fun j => D (j + 1)) (fun j a ha => h (j + 1) a (by simpa using ha))
    rw [List.length_cons, List.range_succ_eq_map, List.map_cons, List.map_cons, List.sum_cons, List.map_map]
    simp only [Rows.uptoBulkAll]
    exact Nat.add_le_add h0 h1

theorem open_C {d : Kd α} {ok : α → Prop} {m0 : α → Nat} (hd : Reads P e d ok m0) (ht : P.underlying t = some (.slice e)) {H : Type} {enc : TypeId × Value → H} {w : World} {base : Nat} {spare : Nat → Bool} {held : Bool} {fuel : Nat} {cs : List Value} {x : DataW H × List MemPlace}
    (h : DataW.trod enc P w base spare held fuel t cs = some x) : ∃ A c xs, cs = [.slice A xs.length c] ∧ xs.length ≤ c ∧ c ≤ maxLen ∧ d.C w A xs.length xs ∧ (∀ a ∈ xs, ok a) ∧ (xs.map m0).sum + 1 ≤ Rows.uptoBulk x.1 := by
  rcases open_slice ht h with ⟨rfl, rfl⟩ | ⟨a, len, cap, m, n, D, Pl, rfl, _, hl, hm, hmm, rfl, hx⟩
  · exact ⟨none, 0, [], rfl, Nat.le_refl _, by simp [maxLen], Kd.C_nil d w, fun a ha => by simp at ha, by simp [Rows.uptoBulk]⟩
  · have hle : len ≤ m := by rw [hmm]; split <;> omega
    obtain ⟨xs, hxl, hxs⟩ := Open.rows_of (p := fun i (y : α) => (ok y ∧ m0 y ≤ Rows.uptoBulk (D i)) ∧ ∃ c, c.length = d.sz ∧ d.K w y c ∧ ∀ k u, c[k]? = some u → w.cell? (a.add (i * d.sz + k)) = some u) len (fun i hi => by
      obtain ⟨cs', h1, h2⟩ := hx i (by omega)
      obtain ⟨y, hy, hok, hb⟩ := hd.2 _ _ _ _ _ _ _ _ h2
      obtain ⟨_, hlen, hcell⟩ := World.cells?_some h1
      rw [hd.1] at hlen hcell
      refine ⟨y, ⟨hok, hb⟩, cs', hlen, hy, fun k u hu => ?_⟩
      have hk : k < d.sz := by
        rw [← hlen]
        exact (List.getElem?_eq_some_iff.1 hu).1
      rw [← Go.Deep.add_add, hcell k hk, hu])
    subst hxl
    refine ⟨some a, cap, xs, rfl, hl, hm, ⟨rfl, by unfold maxLen at hm; omega, fun _ => ⟨a, rfl, fun j p hj => ?_⟩⟩, fun b hb => ?_, ?_⟩
    · exact (hxs j p hj).2
    · obtain ⟨j, hj, rfl⟩ := List.getElem_of_mem hb
      exact (hxs j _ (List.getElem?_eq_getElem hj)).1.1
    · have := sum_le xs D (fun j a ha => (hxs j a ha).1.2)
      simp only [Rows.uptoBulk]
      omega

theorem reads_slice {d : Kd α} {ok : α → Prop} {m0 : α → Nat} (hd : Reads P e d ok m0) (ht : P.underlying t = some (.slice e)) (hc : P.cellsOf t = 1) : Reads P t (Kd.slice e d) (fun xs => ∀ a ∈ xs, ok a) (fun xs => (xs.map m0).sum + 1) :=
  ⟨hc, fun _ _ _ _ _ _ _ _ h => by
    obtain ⟨A, c, xs, rfl, hl, _, hC, hok, hb⟩ := open_C hd ht h
    exact ⟨xs, ⟨A, c, rfl, hl, hC⟩, hok, hb⟩⟩

/-- An argument of a slice's type, of whatever elements. -/
theorem open_arg {d : Kd α} {ok : α → Prop} {m0 : α → Nat} (hd : Reads P e d ok m0) (ht : P.underlying t = some (.slice e)) {H : Type} {enc : TypeId × Value → H} {w : World} {base b2 : Nat} {spare : Nat → Bool} {held : Bool} {r : Reach} {v : Value} {x : DataW H} {ps : List MemPlace}
    (hv : Value.okWide P w r b2 t v) (h : DataW.Trod enc P w base spare held t v x ps) : ∃ A c xs, v = .slice A xs.length c ∧ xs.length ≤ c ∧ c ≤ maxLen ∧ d.C w A xs.length xs ∧ (∀ a ∈ xs, ok a) ∧ (xs.map m0).sum + 1 ≤ Rows.uptoBulk x := by
  obtain ⟨A, len, cap, rfl⟩ := okWide_slice ht hv
  obtain ⟨fuel, hf⟩ := h
  obtain ⟨A', c, xs, he, hl, hm, hC, hok, hb⟩ := open_C hd ht hf
  simp only [Value.cells] at he
  injection he with he
  exact ⟨A', c, xs, he, hl, hm, hC, hok, hb⟩
end
end Go.Proofs.Ytdlnpmbnedmmnaa.OpenB
