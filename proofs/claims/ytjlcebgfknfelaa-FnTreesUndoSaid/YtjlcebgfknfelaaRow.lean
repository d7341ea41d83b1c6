/- Rows of the call's own: append at any world; the rows of a structure that is no structure. Of no program. -/
import Derived.Test.YtjlcebgfknfelaaWMore
import Derived.Test.YtjlcebgfknfelaaWTab
import Derived.Deep.AppendLies
import Derived.Test.YtjlcebgfknfelaaHk
namespace Go.Proofs.Ytjlcebgfknfelaa.Row
open Go Go.RowKit Go.Proofs.Ytjlcebgfknfelaa.Hk Go.Proofs.YtjlcebgfknfelaaW.PrintWords Go.Proofs.YtjlcebgfknfelaaW.PrintLast Go.Proofs.YtjlcebgfknfelaaW.PrintMore

theorem hid {p : Prop} (h : p) : Hid p := h
theorem alloc_size (w : World) (o : Obj) : (w.alloc o).heap.size = w.heap.size + 1 := by simp

/-- append(v, p), at a step of a region that draws: p's cells lie anywhere. -/
theorem append_step {P : Program} {ops : Array Oper} {o : Oper} {a : Act} {K : Act → World → Prop} {Q : Exit → Act → World → Prop} {E : Prop} {α : Type} (d : Kd α)
    (hgd : o.guard = none) (s x : Operand) (t e : TypeId) (z : Value) (bytes : Nat)
    (ho : o.op = .call { callee := .builtin .append, args := #[s, x], argTypes := #[t, t] })
    (ht : P.underlying t = some (.slice e)) (hinfo : (P.info? e).map (fun i => (i.zero, i.size, i.bytes)) = some (some z, d.sz, bytes)) (hz : z.cells.size = d.sz) (hs0 : 0 < d.sz)
    (base : Nat) (v : Value) (xs : List α) (p : α) (cs : List Value) (ok okp : Nat → Prop) (W : World) (hs : a.eval s = v) (hR : d.R e W base ok v xs)
    (ad : Addr) (c : Nat) (hx : a.eval x = .slice (some ad) 1 c) (hp : d.M W base okp p cs) (hcs : ∀ j u, cs[j]? = some u → W.cell? (ad.add j) = some u)
    (hokp : ∀ k, okp k → ok k ∧ some k ≠ v.ownBlock) (hfresh : ∀ k, W.heap.size ≤ k → ok k)
    (hl : (xs.length + 1) * bytes ≤ 140737488355328) (hb0 : 0 < bytes) (hbase : base ≤ W.heap.size)
    (h : ∀ v1 w1, d.R e w1 base ok v1 (xs ++ [p]) → W.grownBy w1 v.ownBlock → (v1.ownBlock = v.ownBlock ∨ ∃ b, v1.ownBlock = some b ∧ W.heap.size ≤ b) → K (a.put o.dst v1) w1) :
    if Region.wanted o (yielded ops a.tmps) = true then Oper.wp P o a W K Q else E := by
  obtain ⟨i, hi, hi2⟩ := Option.map_eq_some_iff.1 hinfo
  simp only [Prod.mk.injEq] at hi2
  obtain ⟨i0, i1, i2⟩ := hi2
  obtain ⟨h0, inner, hown, hr⟩ := hR
  have hk := d.K_of_M hp
  have hm : xs.length + 1 ≤ maxLen := by
    have : (xs.length + 1) * 1 ≤ (xs.length + 1) * bytes := Nat.mul_le_mul_left _ hb0
    unfold maxLen
    omega
  refine step_append_lies W hgd s x t ho base e i z d.sz bytes ht hi i0 i1 i2 hz hs0 v xs.length inner hs hown ad 1 c cs hx (by rw [d.K_len hk]; omega) hcs (d.K_one hk) (by omega) hm hl hbase _ rfl ?_
  intro g cap w' a1 a2 a3 a4
  refine h _ _ ?_ a2 ?_
  · refine Kd.R_appended h0 hr hp hokp hfresh ?_ a2 ?_
    · exact a1
    · rcases a3 with a3 | a3
      · exact .inl a3.symm
      · exact .inr ⟨g, rfl, by omega⟩
  · rcases a3 with a3 | a3
    · exact .inl a3.symm
    · exact .inr ⟨g, rfl, by omega⟩

/-- .. of numbers. -/
theorem append_int {P : Program} {ops : Array Oper} {o : Oper} {a : Act} {K : Act → World → Prop} {Q : Exit → Act → World → Prop} {E : Prop}
    (hgd : o.guard = none) (s x : Operand) (t e : TypeId)
    (ho : o.op = .call { callee := .builtin .append, args := #[s, x], argTypes := #[t, t] })
    (ht : P.underlying t = some (.slice e)) (hinfo : (P.info? e).map (fun i => (i.zero, i.size, i.bytes)) = some (some (.int .i64 0), 1, 8))
    (base : Nat) (v : Value) (xs : List Int) (p : Int) (ok : Nat → Prop) (W : World) (hs : a.eval s = v) (hR : (Kd.int .i64).R e W base ok v xs)
    (ad : Addr) (c : Nat) (hx : a.eval x = .slice (some ad) 1 c) (hc : W.cell? ad = some (.int .i64 p))
    (hl : (xs.length + 1) * 8 ≤ 140737488355328) (hbase : base ≤ W.heap.size)
    (h : ∀ v1 w1, (Kd.int .i64).R e w1 base (fun _ => True) v1 (xs ++ [p]) → W.grownBy w1 v.ownBlock → (v1.ownBlock = v.ownBlock ∨ ∃ b, v1.ownBlock = some b ∧ W.heap.size ≤ b) → K (a.put o.dst v1) w1) :
    if Region.wanted o (yielded ops a.tmps) = true then Oper.wp P o a W K Q else E := by
  refine append_step (Kd.int .i64) hgd s x t e (.int .i64 0) 8 ho ht hinfo rfl (by decide) base v xs p [.int .i64 p] (fun _ => True) (fun _ => False) W hs (Kd.R_mono hR (fun _ _ => trivial)) ad c hx rfl ?_ (fun _ hk => hk.elim) (fun _ _ => trivial) hl (by omega) hbase h
  intro j u hj
  match j, hj with
  | 0, hj => rw [Addr.add_zero']; rw [hc]; simpa using hj

/-- Rows of a structure, out of rows of its fields. -/
theorem reps_map {α β : Type} {R : α → List Value → Prop} {f : β → α} {sz : Nat} {xs : List β} {inner : List Value} (h : Reps R sz (xs.map f) inner) : Reps (fun x => R (f x)) sz xs inner :=
  ⟨by have := h.1; rwa [List.length_map] at this, fun j p hj => h.2 j (f p) (by rw [List.getElem?_map, hj]; rfl)⟩
theorem S_iso {α β : Type} {d : Kd α} {f : β → α} {e : Nat} {w : World} {base : Nat} {ok : Nat → Prop} {v : Value} {xs : List β} (h : Kd.S d e w base ok v (xs.map f)) : Kd.S (Kd.iso d f) e w base ok v xs := by
  obtain ⟨g, h0, inner, ho, hr⟩ := h
  have e1 : (xs.map f).zipIdx = xs.zipIdx.map (fun p => (f p.1, p.2)) := by
    apply List.ext_getElem?
    intro j
    simp only [List.getElem?_zipIdx, List.getElem?_map]
    cases xs[j]? <;> rfl
  rw [e1] at ho hr
  rw [List.length_map] at ho
  exact ⟨g, h0, inner, ho, reps_map (f := fun p : β × Nat => (f p.1, p.2)) hr⟩
theorem C_iso {α β : Type} {d : Kd α} {f : β → α} {w : World} {A : Option Addr} {n : Nat} {xs : List β} (h : (Kd.iso d f).C w A n xs) : d.C w A n (xs.map f) := by
  obtain ⟨h1, h2, h3⟩ := h
  refine ⟨by rw [List.length_map]; exact h1, h2, fun hn => ?_⟩
  obtain ⟨ad, e, hc⟩ := h3 hn
  refine ⟨ad, e, fun j p hj => ?_⟩
  rw [List.getElem?_map] at hj
  obtain ⟨q, hq, rfl⟩ := Option.map_eq_some_iff.1 hj
  exact hc j q hq

theorem grown_fr {S : Nat → Prop} {w w1 w2 : World} {row : Option Nat} (hf : Fr S w w1) (hg : w1.grownBy w2 row) (hr : ∀ k, row = some k → k < w.heap.size → S k) : Fr S w w2 :=
  hf.trans (Fr.of_grown hg) (fun n hn he => hr n he.symm hn)

end Go.Proofs.Ytjlcebgfknfelaa.Row
