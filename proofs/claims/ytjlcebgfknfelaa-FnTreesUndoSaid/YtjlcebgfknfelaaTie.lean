/- A drawing region whose first operation is a plain move for which nobody waits. Of no program. -/
import Derived.StillTailTactics
namespace Go.Proofs.Ytjlcebgfknfelaa.Hk
open Go

/-- The operations of a region, in which number n waits for number 0, too. -/
def tied (n : Nat) (l : List Oper) : List Oper := l.modify n (fun o => { o with after := o.after.push ⟨0, .data⟩ })

theorem tied_get (n : Nat) (l : List Oper) (i : Nat) : (tied n l)[i]? = if n = i then (l[i]?).map (fun o => { o with after := o.after.push ⟨0, .data⟩ }) else l[i]? := by
  unfold tied
  rw [List.getElem?_modify]
  split <;> simp_all

theorem tied_size (n : Nat) (l : List Oper) : (tied n l).toArray.size = l.toArray.size := by simp [tied]

theorem tied_ready {md : Region.Mode} {n : Nat} {l : List Oper} {listed : Array Bool} (h0 : listed.getD 0 false = true) : Region.ready md (tied n l).toArray listed = Region.ready md l.toArray listed := by
  unfold Region.ready
  rw [tied_size]
  refine List.filter_congr (fun i _ => ?_)
  simp only [List.getElem?_toArray, tied_get]
  split
  · cases l[i]? with
    | none => rfl
    | some o =>
      simp only [Option.map_some, Option.getD_some]
      rw [Array.all_push]
      simp [h0]
  · rfl

theorem tied_yielded (n : Nat) (l : List Oper) (t : Array Value) : yielded (tied n l).toArray t = yielded l.toArray t := by
  funext j
  have e : ((tied n l).toArray[j]?).bind (·.dst) = (l.toArray[j]?).bind (·.dst) := by
    simp only [List.getElem?_toArray, tied_get]
    split
    · cases l[j]? <;> rfl
    · rfl
  unfold yielded
  rw [e]

theorem tied_op {P : Program} {n : Nat} {l : List Oper} {Q : Exit → Act → World → Prop} {i : Nat} {K : Act → World → Prop} {a : Act} {w : World} :
    wpOp P (tied n l).toArray Q i K a w = wpOp P l.toArray Q i K a w := by
  unfold wpOp
  rw [tied_yielded]
  simp only [List.getElem?_toArray, tied_get]
  by_cases hn : n = i
  · rw [if_pos hn]
    cases l[i]? with
    | none => rfl
    | some o => rfl
  · rw [if_neg hn]

theorem tied_any {P : Program} {md : Region.Mode} {n : Nat} {l : List Oper} {Q : Exit → Act → World → Prop} : ∀ (f : Nat) (listed : Array Bool) (a : Act) (w : World), listed.getD 0 false = true →
    wpAny P md (tied n l).toArray Q f listed a w → wpAny P md l.toArray Q f listed a w
  | 0, listed, a, w, h0, h => by
    obtain ⟨h1, h2⟩ := h
    rw [tied_ready h0] at h1
    exact ⟨h1, h2⟩
  | f + 1, listed, a, w, h0, h => by
    obtain ⟨h1, h2⟩ := h
    rw [tied_ready h0] at h1 h2
    refine ⟨h1, fun i hi => ?_⟩
    have := h2 i hi
    rw [tied_op] at this
    exact wpOp_mono (fun a' w' h' => tied_any f _ a' w' (getD_set_true h0) h') this

/-- A region whose first operation is a plain move, for which nobody but a late one waits; all that comes ahead of number n only reads, and number n and those behind it come in one order. -/
theorem wp_first_tail {P : Program} {id : Nat} {Q : Exit → Act → World → Prop} {a : Act} {w : World} {o0 : Oper} {l : List Oper} (x : Operand) (d : Option Tmp) (n : Nat) (hm : P.follows .mixedOrders = true)
    (h0 : o0.op = .move x ∧ o0.guard = none ∧ o0.dst = d)
    (hsel : Region.noSelect (o0 :: l).toArray = true) (hf : Region.free .any (o0 :: l).toArray (Array.replicate (o0 :: l).toArray.size false) 0 = true)
    (hr : (Region.ready .any (o0 :: l).toArray (Array.replicate (o0 :: l).toArray.size false)).contains 0 = true)
    (hQ : ∀ c a' w', Q (.panic c) (a'.put d (a.eval x)) w' → Q (.panic c) a' w')
    (hB : (Region.noSelect (tied n (o0 :: l)).toArray && decide (0 < n) && decide (n < (tied n (o0 :: l)).toArray.size) && Region.sinkB .any (tied n (o0 :: l)).toArray n && Region.chainB .any (tied n (o0 :: l)).toArray n &&
      Region.lexHead .any (tied n (o0 :: l)).toArray ((tied n (o0 :: l)).toArray.size - n) (n - 1) 1 ((Array.replicate (o0 :: l).toArray.size false).setIfInBounds 0 true)) = true)
    (h : wpStill P (tied n (o0 :: l)).toArray w.drew (fun a' => wpList P (tied n (o0 :: l)).toArray Q ((tied n (o0 :: l)).drop n) a' w.drew) (((tied n (o0 :: l)).take n).drop 1) (a.put d (a.eval x))) :
    (Code.region id (o0 :: l).toArray true).wp P Q a w := by
  simp only [Bool.and_eq_true, decide_eq_true_eq] at hB
  obtain ⟨⟨⟨⟨⟨hsel', hn0⟩, hn⟩, hs⟩, hc⟩, hlex⟩ := hB
  refine wp_region_any hm ?_
  obtain ⟨e1, e2, e3⟩ := h0
  subst e3
  have hsz : (o0 :: l).toArray.size = l.length + 1 := by simp
  have hsz' : (tied n (o0 :: l)).toArray.size = l.length + 1 := by rw [tied_size]; exact hsz
  rw [hsz]
  refine wpAny_take (i := 0) (oi := o0) (v := a.eval x) (by simp) hsel (by rw [hsz] at hf; exact hf) (by rw [hsz] at hr; exact hr) hQ (.inl ⟨by simp [Region.wanted, e2], fun w' => by simp [execOp, e1]⟩) ?_
  refine tied_any (n := n) _ _ _ _ (by simp) ?_
  have htl : (((tied n (o0 :: l)).take n).drop 1).length = n - 1 := by
    have := hsz'; simp at this ⊢; omega
  have hdl : ((tied n (o0 :: l)).drop n).length = (tied n (o0 :: l)).toArray.size - n := by simp
  rw [hsz] at hlex
  have inv0 : HeadInv .any (tied n (o0 :: l)).toArray n ((Array.replicate (l.length + 1) false).setIfInBounds 0 true) := by
    have inv00 : HeadInv .any (tied n (o0 :: l)).toArray n (Array.replicate (l.length + 1) false) :=
      ⟨by rw [hsz']; simp, fun j oj _ hl => (by rw [getD_replicate_false] at hl; cases hl), fun t _ ht => getD_in (by rw [hsz'] at ht; simpa using ht) (getD_replicate_false _ _)⟩
    refine inv00.set ?_ hn0
    rw [List.contains_iff_mem, mem_ready] at hr
    obtain ⟨r1, o, r2, r3⟩ := hr
    rw [mem_ready]
    refine ⟨by rw [hsz] at r1; exact r1, o, ?_, fun e he hb => by have := r3 e he hb; rw [hsz] at this; exact this⟩
    rw [List.getElem?_toArray, tied_get, if_neg (by omega), ← List.getElem?_toArray]
    exact r2
  have H := wpAnyL_lex (md := .any) (g := (tied n (o0 :: l)).toArray.size - n) hsel' hs hc hn (((tied n (o0 :: l)).take n).drop 1) 1 _ _ (fun j hj => by
    rw [htl] at hj
    simp only [List.getElem?_drop, List.getElem?_take, List.getElem?_toArray]
    rw [if_pos (by omega)]) (by rw [htl]; omega) inv0 (by rw [htl]; exact hlex) h
  have := wpAny_of_head (Q' := Q) (g := (tied n (o0 :: l)).toArray.size - n) (fun listed a' hL => by
    have := wpAny_of_seq (md := .any) (Q' := Q) ((tied n (o0 :: l)).drop n) n listed a' w.drew (fun j => by simp [List.getElem?_drop]) (by rw [hdl]; exact hL.1) hL.2
    rwa [hdl] at this) _ _ _ H
  rw [htl, hsz', show n - 1 + (l.length + 1 - n) = l.length by rw [hsz'] at hn; omega] at this
  exact this
end Go.Proofs.Ytjlcebgfknfelaa.Hk
