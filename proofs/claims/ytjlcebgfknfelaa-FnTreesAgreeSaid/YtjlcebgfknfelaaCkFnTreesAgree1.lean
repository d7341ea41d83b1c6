/- What the law's row stands on, part 1: contracts of functions, for the arguments and worlds that each one names. -/
import Derived.Test.YtjlcebgfknfelaaCkFnTreesAgree0
import Derived.Deep.QuietTactic
import Derived.BigQuiet
import Derived.StillTailTactics
import Derived.Deep.AppendLies
namespace Go.Proofs.Ytjlcebgfknfelaa.Avl
open Go Go.RowKit Go.Deep Go.Proofs.Ytjlcebgfknfelaa.Hk Go.Proofs.Ytjlcebgfknfelaa.AvlPure Go.Proofs.Ytjlcebgfknfelaa.Less
/-- The node that a search comes to. -/
def N.sub (rk : Int → Int) (key : Int) : N → N
  | .nil => .nil
  | .node b k v h l r => if rk key < rk k then N.sub rk key l else if rk k < rk key then N.sub rk key r else .node b k v h l r
theorem sub_find (rk : Int → Int) (key : Int) : ∀ t : N, T.find rk key t.raw = match N.sub rk key t with | .nil => none | .node _ k v _ _ _ => some (k, v)
  | .nil => rfl
  | .node b k v h l r => by
    simp only [N.raw, T.find, N.sub]
    split
    · exact sub_find rk key l
    · split
      · exact sub_find rk key r
      · rfl
theorem sub_in {w : World} (rk : Int → Int) (key : Int) : ∀ {t : N}, t.In w → (N.sub rk key t).In w
  | .nil, _ => trivial
  | .node b k v h l r, hin => by
    simp only [N.sub]
    split
    · exact sub_in rk key hin.2.1
    · split
      · exact sub_in rk key hin.2.2
      · exact hin
def Found (tb : List Int) (key : Int) (t : N) (w : World) (e : Ending) (w' : World) : Prop := e = .returned (N.sub (rankOf tb) key t).ptr ∧ ∃ n, w' = w.drewN n
set_option maxHeartbeats 800000 in
theorem search_any (base : Nat) (tb : List Int) (key : Int) (lv : Value) : ∀ (t : N) (w : World), t.In w → LessS base w lv tb →
    Calls Try.prog 85 #[t.ptr, .int .i64 key, lv] w (Found tb key t w)
  | .nil, w, _, _ => by
    show Calls Try.prog 85 #[.pointer none, .int .i64 key, lv] w _
    go_enter Try.func85, Try.ntmps85
    go_wp2_with fail
    go_ret
    exact ⟨rfl, 0, rfl⟩
  | .node b k v h l r, w, hin, hL => by
    have HI : Hid ((N.node b k v h l r).In w) := hin
    have HL : Hid (LessS base w lv tb) := hL
    have c0 : w.cell? ⟨b, 0, none⟩ = some (.int .i64 k) := hin.1.cell 0
    have c3 : w.cell? ⟨b, 3, none⟩ = some l.ptr := hin.1.cell 3
    have c4 : w.cell? ⟨b, 4, none⟩ = some r.ptr := hin.1.cell 4
    clear hin hL
    show Calls Try.prog 85 #[.pointer (some ⟨b, 0, none⟩), .int .i64 key, lv] w _
    by_cases h1 : rankOf tb key < rankOf tb k
    · have HC : Hid (cmp tb key k = -1) := cmp_lt h1
      have HR : Hid (N.sub (rankOf tb) key (N.node b k v h l r) = N.sub (rankOf tb) key l) := if_pos h1
      clear h1
      go_enter Try.func85, Try.ntmps85
      go_wp2_with fail
      refine (compare_any lv tb key k _ HL.out.now).mono ?_
      rintro e w1 ⟨rfl, n, rfl⟩
      rw [HC.out]
      go_wp2_with fail
      refine (search_any base tb key lv l (w.drewN n) (HI.out.2.1.drewN n) (HL.out.drewN n)).mono ?_
      rintro e w1 ⟨rfl, m, rfl⟩
      go_wp2_with fail
      go_ret
      exact ⟨by rw [HR.out]; rfl, n + m, by simp⟩
    · by_cases h2 : rankOf tb k < rankOf tb key
      · have HC : Hid (cmp tb key k = 1) := cmp_gt h2
        have HR : Hid (N.sub (rankOf tb) key (N.node b k v h l r) = N.sub (rankOf tb) key r) := (if_neg h1).trans (if_pos h2)
        clear h1 h2
        go_enter Try.func85, Try.ntmps85
        go_wp2_with fail
        refine (compare_any lv tb key k _ HL.out.now).mono ?_
        rintro e w1 ⟨rfl, n, rfl⟩
        rw [HC.out]
        go_wp2_with fail
        refine (compare_any lv tb key k _ (HL.out.drewN n).now).mono ?_
        rintro e w1 ⟨rfl, n', rfl⟩
        rw [HC.out]
        go_wp2_with fail
        refine (search_any base tb key lv r (w.drewN (n + n')) (HI.out.2.2.drewN (n + n')) (HL.out.drewN (n + n'))).mono ?_
        rintro e w1 ⟨rfl, m, rfl⟩
        go_wp2_with fail
        go_ret
        exact ⟨by rw [HR.out]; rfl, n + n' + m, by simp⟩
      · have HC : Hid (cmp tb key k = 0) := cmp_eq h1 h2
        have HR : Hid (N.sub (rankOf tb) key (N.node b k v h l r) = N.node b k v h l r) := (if_neg h1).trans (if_neg h2)
        clear h1 h2
        go_enter Try.func85, Try.ntmps85
        go_wp2_with fail
        refine (compare_any lv tb key k _ HL.out.now).mono ?_
        rintro e w1 ⟨rfl, n, rfl⟩
        rw [HC.out]
        go_wp2_with fail
        refine (compare_any lv tb key k _ (HL.out.drewN n).now).mono ?_
        rintro e w1 ⟨rfl, n', rfl⟩
        rw [HC.out]
        go_wp2_with fail
        go_ret
        exact ⟨by rw [HR.out]; rfl, n + n', by simp⟩
set_option maxHeartbeats 800000 in
set_option maxRecDepth 100000 in
theorem size_any : ∀ (t : N) (w : World), t.In w → t.raw.size ≤ 4611686018427387 →
    Calls Try.prog 86 #[t.ptr] w fun e w' => e = .returned (.int .i64 t.raw.size) ∧ ∃ n, w' = w.drewN n
  | .nil, w, _, _ => by
    show Calls Try.prog 86 #[.pointer none] w _
    go_enter Try.func86, Try.ntmps86
    go_wp2_with fail
    go_ret
    exact ⟨rfl, 0, rfl⟩
  | .node b k v h l r, w, hin, hs => by
    have e0 : (N.node b k v h l r).raw.size = 1 + l.raw.size + r.raw.size := rfl
    have s1 := T.size_nonneg l.raw
    have s2 := T.size_nonneg r.raw
    rw [e0] at hs ⊢
    have hl := size_any l
    have hr := size_any r
    have HH : Hid ((∀ (w : World), l.In w → l.raw.size ≤ 4611686018427387 → Calls Try.prog 86 #[l.ptr] w fun e w' => e = .returned (.int .i64 l.raw.size) ∧ ∃ n, w' = w.drewN n) ∧
      (∀ (w : World), r.In w → r.raw.size ≤ 4611686018427387 → Calls Try.prog 86 #[r.ptr] w fun e w' => e = .returned (.int .i64 r.raw.size) ∧ ∃ n, w' = w.drewN n)) := ⟨hl, hr⟩
    have HI : Hid ((N.node b k v h l r).In w ∧ l.raw.size ≤ 4611686018427387 ∧ r.raw.size ≤ 4611686018427387) := ⟨hin, by omega, by omega⟩
    have c3 : w.cell? ⟨b, 3, none⟩ = some l.ptr := hin.1.cell 3
    have c4 : w.cell? ⟨b, 4, none⟩ = some r.ptr := hin.1.cell 4
    clear hin e0 hl hr
    show Calls Try.prog 86 #[.pointer (some ⟨b, 0, none⟩)] w _
    go_enter Try.func86, Try.ntmps86
    go_wp2_with fail
    go_quiet (first | (go_at_call_of 86 (N.ptr l); refine Calls.quiet_of (HH.out.1 _ ?_ HI.out.2.1); exact HI.out.1.2.1.drewN _) | (go_at_call_of 86 (N.ptr r); refine Calls.quiet_of (HH.out.2 _ ?_ HI.out.2.2); exact HI.out.1.2.2.drewN _))
    go_wp2
    go_ret
    exact ⟨rfl, _, rfl⟩
end Go.Proofs.Ytjlcebgfknfelaa.Avl

namespace Go.Proofs.Ytjlcebgfknfelaa.Hk
open Go
/-- The operations of a region, in which number n waits for number 0, too. -/
def tied (n : Nat) (l : List Oper) : List Oper := l.modify n (fun o => { o with after := o.after.push ⟨0, .data⟩ })
theorem tied_get (n : Nat) (l : List Oper) (i : Nat) : (tied n l)[i]? = if n = i then (l[i]?).map (fun o => { o with after := o.after.push ⟨0, .data⟩ }) else l[i]? := by
  unfold tied
  rw [List.getElem?_modify]
  split <;> simp_all
theorem tied_size (n : Nat) (l : List Oper) : (tied n l).toArray.size = l.toArray.size := by simp [tied]
theorem tied_ready {md : Region.Mode} {n : Nat} {l : List Oper} {listed : Array Bool} (h0 : listed.getD 0 false = true) : Region.ready md (tied n l).toArray listed = Region.ready md l.toArray listed := by
  unfold Region.ready
  rw [tied_size]
  refine List.filter_congr (fun i _ => ?_)
  simp only [List.getElem?_toArray, tied_get]
  split
  · cases l[i]? with
    | none => rfl
    | some o =>
      simp only [Option.map_some, Option.getD_some]
      rw [Array.all_push]
      simp [h0]
  · rfl
theorem tied_yielded (n : Nat) (l : List Oper) (t : Array Value) : yielded (tied n l).toArray t = yielded l.toArray t := by
  funext j
  have e : ((tied n l).toArray[j]?).bind (·.dst) = (l.toArray[j]?).bind (·.dst) := by
    simp only [List.getElem?_toArray, tied_get]
    split
    · cases l[j]? <;> rfl
    · rfl
  unfold yielded
  rw [e]
theorem tied_op {P : Program} {n : Nat} {l : List Oper} {Q : Exit → Act → World → Prop} {i : Nat} {K : Act → World → Prop} {a : Act} {w : World} :
    wpOp P (tied n l).toArray Q i K a w = wpOp P l.toArray Q i K a w := by
  unfold wpOp
  rw [tied_yielded]
  simp only [List.getElem?_toArray, tied_get]
  by_cases hn : n = i
  · rw [if_pos hn]
    cases l[i]? with
    | none => rfl
    | some o => rfl
  · rw [if_neg hn]
theorem tied_any {P : Program} {md : Region.Mode} {n : Nat} {l : List Oper} {Q : Exit → Act → World → Prop} : ∀ (f : Nat) (listed : Array Bool) (a : Act) (w : World), listed.getD 0 false = true →
    wpAny P md (tied n l).toArray Q f listed a w → wpAny P md l.toArray Q f listed a w
  | 0, listed, a, w, h0, h => by
    obtain ⟨h1, h2⟩ := h
    rw [tied_ready h0] at h1
    exact ⟨h1, h2⟩
  | f + 1, listed, a, w, h0, h => by
    obtain ⟨h1, h2⟩ := h
    rw [tied_ready h0] at h1 h2
    refine ⟨h1, fun i hi => ?_⟩
    have := h2 i hi
    rw [tied_op] at this
    exact wpOp_mono (fun a' w' h' => tied_any f _ a' w' (getD_set_true h0) h') this
/-- A region whose first operation is a plain move, for which nobody but a late one waits; all that comes ahead of number n only reads, and number n and those behind it come in one order. -/
theorem wp_first_tail {P : Program} {id : Nat} {Q : Exit → Act → World → Prop} {a : Act} {w : World} {o0 : Oper} {l : List Oper} (x : Operand) (d : Option Tmp) (n : Nat) (hm : P.follows .mixedOrders = true)
    (h0 : o0.op = .move x ∧ o0.guard = none ∧ o0.dst = d)
    (hsel : Region.noSelect (o0 :: l).toArray = true) (hf : Region.free .any (o0 :: l).toArray (Array.replicate (o0 :: l).toArray.size false) 0 = true)
    (hr : (Region.ready .any (o0 :: l).toArray (Array.replicate (o0 :: l).toArray.size false)).contains 0 = true)
    (hQ : ∀ c a' w', Q (.panic c) (a'.put d (a.eval x)) w' → Q (.panic c) a' w')
    (hB : (Region.noSelect (tied n (o0 :: l)).toArray && decide (0 < n) && decide (n < (tied n (o0 :: l)).toArray.size) && Region.sinkB .any (tied n (o0 :: l)).toArray n && Region.chainB .any (tied n (o0 :: l)).toArray n &&
      Region.lexHead .any (tied n (o0 :: l)).toArray ((tied n (o0 :: l)).toArray.size - n) (n - 1) 1 ((Array.replicate (o0 :: l).toArray.size false).setIfInBounds 0 true)) = true)
    (h : wpStill P (tied n (o0 :: l)).toArray w.drew (fun a' => wpList P (tied n (o0 :: l)).toArray Q ((tied n (o0 :: l)).drop n) a' w.drew) (((tied n (o0 :: l)).take n).drop 1) (a.put d (a.eval x))) :
    (Code.region id (o0 :: l).toArray true).wp P Q a w := by
  simp only [Bool.and_eq_true, decide_eq_true_eq] at hB
  obtain ⟨⟨⟨⟨⟨hsel', hn0⟩, hn⟩, hs⟩, hc⟩, hlex⟩ := hB
  refine wp_region_any hm ?_
  obtain ⟨e1, e2, e3⟩ := h0
  subst e3
  have hsz : (o0 :: l).toArray.size = l.length + 1 := by simp
  have hsz' : (tied n (o0 :: l)).toArray.size = l.length + 1 := by rw [tied_size]; exact hsz
  rw [hsz]
  refine wpAny_take (i := 0) (oi := o0) (v := a.eval x) (by simp) hsel (by rw [hsz] at hf; exact hf) (by rw [hsz] at hr; exact hr) hQ (.inl ⟨by simp [Region.wanted, e2], fun w' => by simp [execOp, e1]⟩) ?_
  refine tied_any (n := n) _ _ _ _ (by simp) ?_
  have htl : (((tied n (o0 :: l)).take n).drop 1).length = n - 1 := by
    have := hsz'; simp at this ⊢; omega
  have hdl : ((tied n (o0 :: l)).drop n).length = (tied n (o0 :: l)).toArray.size - n := by simp
  rw [hsz] at hlex
  have inv0 : HeadInv .any (tied n (o0 :: l)).toArray n ((Array.replicate (l.length + 1) false).setIfInBounds 0 true) := by
    have inv00 : HeadInv .any (tied n (o0 :: l)).toArray n (Array.replicate (l.length + 1) false) :=
      ⟨by rw [hsz']; simp, fun j oj _ hl => (by rw [getD_replicate_false] at hl; cases hl), fun t _ ht => getD_in (by rw [hsz'] at ht; simpa using ht) (getD_replicate_false _ _)⟩
    refine inv00.set ?_ hn0
    rw [List.contains_iff_mem, mem_ready] at hr
    obtain ⟨r1, o, r2, r3⟩ := hr
    rw [mem_ready]
    refine ⟨by rw [hsz] at r1; exact r1, o, ?_, fun e he hb => by have := r3 e he hb; rw [hsz] at this; exact this⟩
    rw [List.getElem?_toArray, tied_get, if_neg (by omega), ← List.getElem?_toArray]
    exact r2
  have H := wpAnyL_lex (md := .any) (g := (tied n (o0 :: l)).toArray.size - n) hsel' hs hc hn (((tied n (o0 :: l)).take n).drop 1) 1 _ _ (fun j hj => by
    rw [htl] at hj
    simp only [List.getElem?_drop, List.getElem?_take, List.getElem?_toArray]
    rw [if_pos (by omega)]) (by rw [htl]; omega) inv0 (by rw [htl]; exact hlex) h
  have := wpAny_of_head (Q' := Q) (g := (tied n (o0 :: l)).toArray.size - n) (fun listed a' hL => by
    have := wpAny_of_seq (md := .any) (Q' := Q) ((tied n (o0 :: l)).drop n) n listed a' w.drew (fun j => by simp [List.getElem?_drop]) (by rw [hdl]; exact hL.1) hL.2
    rwa [hdl] at this) _ _ _ H
  rw [htl, hsz', show n - 1 + (l.length + 1 - n) = l.length by rw [hsz'] at hn; omega] at this
  exact this
end Go.Proofs.Ytjlcebgfknfelaa.Hk

namespace Go.Proofs.Ytjlcebgfknfelaa.Avl
open Go Go.RowKit Go.Proofs.Ytjlcebgfknfelaa.Hk Go.Proofs.Ytjlcebgfknfelaa.AvlPure Go.Proofs.Ytjlcebgfknfelaa.Less
/-- The leftmost node. -/
def N.first : N → N
  | .nil => .nil
  | .node b k v h .nil r => .node b k v h .nil r
  | .node _ _ _ _ (.node b k v h l r) _ => N.first (.node b k v h l r)
theorem first_least : ∀ t : N, t ≠ .nil → ∃ b h l r, N.first t = .node b (T.least t.raw).1 (T.least t.raw).2 h l r
  | .nil, h => absurd rfl h
  | .node b _ _ h .nil r, _ => ⟨b, h, .nil, r, rfl⟩
  | .node _ _ _ _ (.node b k v h l r) _, _ => first_least (.node b k v h l r) (fun e => by cases e)
theorem first_in {w : World} : ∀ {t : N}, t.In w → (N.first t).In w
  | .nil, _ => trivial
  | .node _ _ _ _ .nil _, hin => hin
  | .node _ _ _ _ (.node b k v h l r) _, hin => first_in (t := .node b k v h l r) hin.2.1
theorem first_ids : ∀ {t : N} {b : Nat} {k v h : Int} {l r : N}, N.first t = .node b k v h l r → b ∈ t.ids
  | .nil, _, _, _, _, _, _, e => by cases e
  | .node _ _ _ _ .nil _, _, _, _, _, _, _, e => by injection e with e1; rw [← e1]; simp [N.ids]
  | .node _ _ _ _ (.node b k v h l r) _, _, _, _, _, _, _, e => by
    have := first_ids (t := .node b k v h l r) e
    simp only [N.ids, List.mem_cons, List.mem_append] at this ⊢
    right; left; exact this
theorem smallest_any : ∀ (t : N) (w : World), t.In w → t ≠ .nil →
    Calls Try.prog 97 #[t.ptr] w fun e w' => e = .returned (N.first t).ptr ∧ w' = w
  | .nil, _, _, h => absurd rfl h
  | .node b k v h .nil r, w, hin, _ => by
    have c3 : w.cell? ⟨b, 3, none⟩ = some (.pointer none) := hin.1.cell 3
    clear hin
    show Calls Try.prog 97 #[.pointer (some ⟨b, 0, none⟩)] w _
    go_enter Try.func97, Try.ntmps97
    go_wp2_with fail
    go_ret
    exact ⟨rfl, rfl⟩
  | .node b k v h (.node b2 k2 v2 h2 l2 r2) r, w, hin, _ => by
    have c3 : w.cell? ⟨b, 3, none⟩ = some (.pointer (some ⟨b2, 0, none⟩)) := hin.1.cell 3
    have HI : Hid ((N.node b2 k2 v2 h2 l2 r2).In w) := hin.2.1
    clear hin
    show Calls Try.prog 97 #[.pointer (some ⟨b, 0, none⟩)] w _
    go_enter Try.func97, Try.ntmps97
    go_wp2_with fail
    refine (smallest_any (.node b2 k2 v2 h2 l2 r2) w HI.out (fun e => by cases e)).mono ?_
    rintro e w1 ⟨rfl, rfl⟩
    go_wp2_with fail
    go_ret
    exact ⟨rfl, rfl⟩
/-- What remove leaves. -/
def Removed (base : Nat) (tb : List Int) (key : Int) (t : N) (w : World) (e : Ending) (w' : World) : Prop :=
  ∃ t' : N, e = .returned t'.ptr ∧ t'.raw = T.rem (rankOf tb) t.raw key ∧ Put base t t' w w'
theorem remove_nil (base : Nat) (tb : List Int) (key : Int) (lv : Value) (w : World) :
    Calls Try.prog 84 #[.pointer none, .int .i64 key, lv] w (Removed base tb key .nil w) := by
  go_enter Try.func84, Try.ntmps84
  go_wp2_with fail
  go_ret
  exact ⟨.nil, rfl, rfl, trivial, List.nodup_nil, fun b hb => by simp [N.ids] at hb, Fr.refl _ _⟩
theorem fr_of_drewN {S : Nat → Prop} {w w' : World} {n : Nat} (h : Fr S (w.drewN n) w') : Fr S w w' := ⟨h.os, h.tape, h.output, h.size, h.block⟩
theorem Put.of_drewN {base : Nat} {t t' : N} {w w' : World} {n : Nat} (h : Put base t t' (w.drewN n) w') : Put base t t' w w' := ⟨h.mem, h.nodup, h.ids, fr_of_drewN h.fr⟩
theorem Put.of_drew {base : Nat} {t t' : N} {w w' : World} (h : Put base t t' w.drew w') : Put base t t' w w' := ⟨h.mem, h.nodup, h.ids, ⟨h.fr.os, h.fr.tape, h.fr.output, h.fr.size, h.fr.block⟩⟩
theorem Good.drew {base : Nat} {w : World} {t : N} (g : Good base w t) : Good base w.drew t := ⟨g.mem.drew, g.nodup, g.above, g.right, g.even⟩
theorem LessS.drew {base : Nat} {w : World} {v : Value} {t : List Int} (h : LessS base w v t) : LessS base w.drew v t := h.to ⟨rfl, rfl, rfl, Nat.le_refl _, fun _ _ => rfl⟩
/-- The step at what takes a node's place. -/
theorem put_part {base : Nat} {t p t' : N} {w w' : World} {n : Nat} (hi : ∀ b ∈ p.ids, b ∈ t.ids) (nd : p.ids.Nodup) (m : t'.In w') (hp : t'.ids.Perm p.ids) (hf : Fr (· ∈ p.ids) (w.drewN n) w') : Put base t t' w w' :=
  ⟨m, hp.nodup_iff.2 nd, fun b hb => .inl (hi b (hp.mem_iff.1 hb)), (fr_of_drewN hf).mono (fun k _ hk => hi k hk)⟩
set_option maxHeartbeats 4000000 in
set_option maxRecDepth 100000 in
theorem remove_any (base : Nat) (tb : List Int) (lv : Value) : ∀ (t : N) (key : Int) (w : World), Good base w t → t.raw.tall ≤ 4294950000 → base ≤ w.heap.size → LessS base w lv tb →
    Calls Try.prog 84 #[t.ptr, .int .i64 key, lv] w (Removed base tb key t w)
  | .nil, key, w, _, _, _, _ => remove_nil base tb key lv w
  | .node b k v h l r, key, w, g, ht, hbs, hL => by
    have tn : (N.node b k v h l r).raw.tall = 1 + max l.raw.tall r.raw.tall := rfl
    have tl := T.tall_nonneg l.raw
    have tr := T.tall_nonneg r.raw
    have HG : Hid (Good base w (.node b k v h l r)) := g
    have HL : Hid (LessS base w lv tb) := hL
    have c0 : w.cell? ⟨b, 0, none⟩ = some (.int .i64 k) := g.mem.1.cell 0
    have c3 : w.cell? ⟨b, 3, none⟩ = some l.ptr := g.mem.1.cell 3
    have c4 : w.cell? ⟨b, 4, none⟩ = some r.ptr := g.mem.1.cell 4
    have HT : Hid (l.raw.tall ≤ 4294950000 ∧ r.raw.tall ≤ 4294950000) := ⟨by omega, by omega⟩
    clear g hL
    show Calls Try.prog 84 #[.pointer (some ⟨b, 0, none⟩), .int .i64 key, lv] w _
    by_cases h1 : rankOf tb key < rankOf tb k
    · have HC : Hid (cmp tb key k = -1) := cmp_lt h1
      have HR : Hid (T.rem (rankOf tb) (N.node b k v h l r).raw key = T.reb (.node k v h (T.rem (rankOf tb) l.raw key) r.raw)) := if_pos h1
      clear h1 ht tn tl tr
      go_enter Try.func84, Try.ntmps84
      go_wp2_with fail
      refine (compare_any lv tb key k _ HL.out.now).mono ?_
      rintro e w1 ⟨rfl, n, rfl⟩
      rw [HC.out]
      go_wp2_with fail
      refine (remove_any base tb lv l key (w.drewN n) (HG.out.lf.drewN n) HT.out.1 (by simpa using hbs) (HL.out.drewN n)).mono ?_
      rintro e w1 ⟨l', rfl, hraw, hput⟩
      have hput' := hput.of_drewN
      obtain ⟨m1, m2, B1⟩ := mem_left HG.out hput'
      have d3 : w1.cell? ⟨b, 3, none⟩ = some l.ptr := B1.cell 3
      have f3 : w1.frozen? ⟨b, 3, none⟩ = false := B1.free 3
      have HM : Hid ((N.node b k v h l' r).In (w1.setCell ⟨b, 3, none⟩ l'.ptr) ∧ (N.node b k v h l' r).ids.Nodup ∧ l'.raw = T.rem (rankOf tb) l.raw key ∧ Put base l l' w w1) := ⟨m1, m2, hraw, hput'⟩
      obtain ⟨u, hu⟩ := l'.ptr_some
      rw [hu] at HM ⊢
      have HU : Hid (l'.ptr = .pointer u) := hu
      clear m1 m2 B1 hraw hput hput' hu
      go_wp2_with fail
      refine (reb_any (.node b k v h l' r) _ HM.out.1 HM.out.2.1 (fun b' k' v' h' l2 r2 e => ?_)).mono ?_
      · injection e with e1 e2 e3 e4 e5 e6
        subst e5 e6
        exact ⟨⟨by rw [HM.out.2.2.1]; exact T.right_rem _ _ HG.out.lf.right HG.out.lf.even, by
          rw [HM.out.2.2.1]
          have := (T.even_rem (rankOf tb) key HG.out.lf.right HG.out.lf.even).2
          have := HT.out
          omega⟩, HG.out.rt.part (by have := HT.out; omega)⟩
      rintro e w3 ⟨t', rfl, i1, i2, i3, i4⟩
      have HD : Hid (t'.In w3 ∧ t'.raw = T.reb (N.node b k v h l' r).raw ∧ t'.ids.Perm (N.node b k v h l' r).ids ∧ Fr (· ∈ (N.node b k v h l' r).ids) (w1.setCell ⟨b, 3, none⟩ (.pointer u)) w3) := ⟨i1, i2, i3, i4⟩
      clear i1 i2 i3 i4
      go_wp2_with fail
      go_ret
      obtain ⟨i1, i2, i3, i4⟩ := HD.out
      rw [← HU.out] at i4
      exact ⟨t', rfl, by rw [i2, HR.out]; show T.reb (.node k v h l'.raw r.raw) = _; rw [HM.out.2.2.1], step_left HG.out HM.out.2.2.2 ⟨i1, i3, i4⟩⟩
    by_cases h2 : rankOf tb k < rankOf tb key
    · have HC : Hid (cmp tb key k = 1) := cmp_gt h2
      have HR : Hid (T.rem (rankOf tb) (N.node b k v h l r).raw key = T.reb (.node k v h l.raw (T.rem (rankOf tb) r.raw key))) := (if_neg h1).trans (if_pos h2)
      clear h1 h2 ht tn tl tr
      go_enter Try.func84, Try.ntmps84
      go_wp2_with fail
      refine (compare_any lv tb key k _ HL.out.now).mono ?_
      rintro e w1 ⟨rfl, n, rfl⟩
      rw [HC.out]
      go_wp2_with fail
      refine (compare_any lv tb key k _ (HL.out.drewN n).now).mono ?_
      rintro e w1 ⟨rfl, n', rfl⟩
      rw [HC.out]
      go_wp2_with fail
      refine (remove_any base tb lv r key (w.drewN (n + n')) (HG.out.rt.drewN (n + n')) HT.out.2 (by simpa using hbs) (HL.out.drewN (n + n'))).mono ?_
      rintro e w1 ⟨r', rfl, hraw, hput⟩
      have hput' := hput.of_drewN
      obtain ⟨m1, m2, B1⟩ := mem_right HG.out hput'
      have d4 : w1.cell? ⟨b, 4, none⟩ = some r.ptr := B1.cell 4
      have f4 : w1.frozen? ⟨b, 4, none⟩ = false := B1.free 4
      have HM : Hid ((N.node b k v h l r').In (w1.setCell ⟨b, 4, none⟩ r'.ptr) ∧ (N.node b k v h l r').ids.Nodup ∧ r'.raw = T.rem (rankOf tb) r.raw key ∧ Put base r r' w w1) := ⟨m1, m2, hraw, hput'⟩
      obtain ⟨u, hu⟩ := r'.ptr_some
      rw [hu] at HM ⊢
      have HU : Hid (r'.ptr = .pointer u) := hu
      clear m1 m2 B1 hraw hput hput' hu
      go_wp2_with fail
      refine (reb_any (.node b k v h l r') _ HM.out.1 HM.out.2.1 (fun b' k' v' h' l2 r2 e => ?_)).mono ?_
      · injection e with e1 e2 e3 e4 e5 e6
        subst e5 e6
        exact ⟨HG.out.lf.part (by have := HT.out; omega), ⟨by rw [HM.out.2.2.1]; exact T.right_rem _ _ HG.out.rt.right HG.out.rt.even, by
          rw [HM.out.2.2.1]
          have := (T.even_rem (rankOf tb) key HG.out.rt.right HG.out.rt.even).2
          have := HT.out
          omega⟩⟩
      rintro e w3 ⟨t', rfl, i1, i2, i3, i4⟩
      have HD : Hid (t'.In w3 ∧ t'.raw = T.reb (N.node b k v h l r').raw ∧ t'.ids.Perm (N.node b k v h l r').ids ∧ Fr (· ∈ (N.node b k v h l r').ids) (w1.setCell ⟨b, 4, none⟩ (.pointer u)) w3) := ⟨i1, i2, i3, i4⟩
      clear i1 i2 i3 i4
      go_wp2_with fail
      go_ret
      obtain ⟨i1, i2, i3, i4⟩ := HD.out
      rw [← HU.out] at i4
      exact ⟨t', rfl, by rw [i2, HR.out]; show T.reb (.node k v h l.raw r'.raw) = _; rw [HM.out.2.2.1], step_right HG.out HM.out.2.2.2 ⟨i1, i3, i4⟩⟩
    have HC : Hid (cmp tb key k = 0) := cmp_eq h1 h2
    have HR : Hid (T.rem (rankOf tb) (N.node b k v h l r).raw key = if l.raw.isNil = true then (if r.raw.isNil = true then .nil else T.reb r.raw) else if r.raw.isNil = true then T.reb l.raw
        else T.reb (.node (T.least r.raw).1 (T.least r.raw).2 h l.raw (T.rem (rankOf tb) r.raw (T.least r.raw).1))) := (if_neg h1).trans (if_neg h2)
    clear h1 h2 ht tn tl tr
    cases l with
    | nil =>
      have c3' : w.cell? ⟨b, 3, none⟩ = some (.pointer none) := c3
      clear c3
      cases r with
      | nil =>
        have c4' : w.cell? ⟨b, 4, none⟩ = some (.pointer none) := c4
        clear c4
        go_enter Try.func84, Try.ntmps84
        go_wp2_with fail
        refine (compare_any lv tb key k _ HL.out.now).mono ?_
        rintro e w1 ⟨rfl, n, rfl⟩
        rw [HC.out]
        go_wp2_with fail
        refine (compare_any lv tb key k _ (HL.out.drewN n).now).mono ?_
        rintro e w1 ⟨rfl, n', rfl⟩
        rw [HC.out]
        go_wp2_with fail
        go_ret
        exact ⟨.nil, rfl, by rw [HR.out]; rfl, trivial, List.nodup_nil, fun b hb => by simp [N.ids] at hb, ⟨rfl, rfl, rfl, Nat.le_refl _, fun _ _ _ => rfl⟩⟩
      | node b2 k2 v2 h2 l2 r2 =>
        have c4' : w.cell? ⟨b, 4, none⟩ = some (.pointer (some ⟨b2, 0, none⟩)) := c4
        clear c4
        go_enter Try.func84, Try.ntmps84
        go_wp2_with fail
        refine (compare_any lv tb key k _ HL.out.now).mono ?_
        rintro e w1 ⟨rfl, n, rfl⟩
        rw [HC.out]
        go_wp2_with fail
        refine (compare_any lv tb key k _ (HL.out.drewN n).now).mono ?_
        rintro e w1 ⟨rfl, n', rfl⟩
        rw [HC.out]
        go_wp2_with fail
        refine (reb_any (.node b2 k2 v2 h2 l2 r2) _ (HG.out.rt.mem.drewN (n + n')) HG.out.rt.nodup (fun b' k' v' h' l3 r3 e => ?_)).mono ?_
        · injection e with e1 e2 e3 e4 e5 e6
          subst e5 e6
          have q := HT.out.2
          have t1 := T.tall_nonneg l2.raw
          have t2 := T.tall_nonneg r2.raw
          have t3 : (N.node b2 k2 v2 h2 l2 r2).raw.tall = 1 + max l2.raw.tall r2.raw.tall := rfl
          exact ⟨HG.out.rt.lf.part (by omega), HG.out.rt.rt.part (by omega)⟩
        rintro e w3 ⟨t', rfl, i1, i2, i3, i4⟩
        have HD : Hid (t'.In w3 ∧ t'.raw = T.reb (N.node b2 k2 v2 h2 l2 r2).raw ∧ t'.ids.Perm (N.node b2 k2 v2 h2 l2 r2).ids ∧ Fr (· ∈ (N.node b2 k2 v2 h2 l2 r2).ids) (w.drewN (n + n')) w3) := ⟨i1, i2, i3, i4⟩
        clear i1 i2 i3 i4
        go_wp2_with fail
        go_ret
        obtain ⟨i1, i2, i3, i4⟩ := HD.out
        exact ⟨t', rfl, by rw [i2, HR.out]; rfl, put_part (fun x hx => by simp only [N.ids] at hx ⊢; simp [hx]) HG.out.rt.nodup i1 i3 i4⟩
    | node b2 k2 v2 h2 l2 r2 =>
      have c3' : w.cell? ⟨b, 3, none⟩ = some (.pointer (some ⟨b2, 0, none⟩)) := c3
      clear c3
      cases r with
      | nil =>
        have c4' : w.cell? ⟨b, 4, none⟩ = some (.pointer none) := c4
        clear c4
        go_enter Try.func84, Try.ntmps84
        go_wp2_with fail
        refine (compare_any lv tb key k _ HL.out.now).mono ?_
        rintro e w1 ⟨rfl, n, rfl⟩
        rw [HC.out]
        go_wp2_with fail
        refine (compare_any lv tb key k _ (HL.out.drewN n).now).mono ?_
        rintro e w1 ⟨rfl, n', rfl⟩
        rw [HC.out]
        go_wp2_with fail
        refine (reb_any (.node b2 k2 v2 h2 l2 r2) _ (HG.out.lf.mem.drewN (n + n')) HG.out.lf.nodup (fun b' k' v' h' l3 r3 e => ?_)).mono ?_
        · injection e with e1 e2 e3 e4 e5 e6
          subst e5 e6
          have q := HT.out.1
          have t1 := T.tall_nonneg l2.raw
          have t2 := T.tall_nonneg r2.raw
          have t3 : (N.node b2 k2 v2 h2 l2 r2).raw.tall = 1 + max l2.raw.tall r2.raw.tall := rfl
          exact ⟨HG.out.lf.lf.part (by omega), HG.out.lf.rt.part (by omega)⟩
        rintro e w3 ⟨t', rfl, i1, i2, i3, i4⟩
        have HD : Hid (t'.In w3 ∧ t'.raw = T.reb (N.node b2 k2 v2 h2 l2 r2).raw ∧ t'.ids.Perm (N.node b2 k2 v2 h2 l2 r2).ids ∧ Fr (· ∈ (N.node b2 k2 v2 h2 l2 r2).ids) (w.drewN (n + n')) w3) := ⟨i1, i2, i3, i4⟩
        clear i1 i2 i3 i4
        go_wp2_with fail
        go_ret
        obtain ⟨i1, i2, i3, i4⟩ := HD.out
        exact ⟨t', rfl, by rw [i2, HR.out]; rfl, put_part (fun x hx => by simp only [N.ids] at hx ⊢; simp [hx]) HG.out.lf.nodup i1 i3 i4⟩
      | node b4 k4 v4 h4 l4 r4 =>
        have c4' : w.cell? ⟨b, 4, none⟩ = some (.pointer (some ⟨b4, 0, none⟩)) := c4
        clear c4
        obtain ⟨bm, hm, lm, rm, hfst⟩ := first_least (.node b4 k4 v4 h4 l4 r4) (fun e => by cases e)
        have Im := first_in HG.out.rt.mem
        have Hm := first_ids hfst
        rw [hfst] at Im
        have e0 : w.cell? ⟨bm, 0, none⟩ = some (.int .i64 (T.least (N.node b4 k4 v4 h4 l4 r4).raw).1) := Im.1.cell 0
        have e1 : w.cell? ⟨bm, 1, none⟩ = some (.int .i64 (T.least (N.node b4 k4 v4 h4 l4 r4).raw).2) := Im.1.cell 1
        have f0 : w.frozen? ⟨b, 0, none⟩ = false := HG.out.mem.1.free 0
        have f1 : w.frozen? ⟨b, 1, none⟩ = false := HG.out.mem.1.free 1
        have c1 : w.cell? ⟨b, 1, none⟩ = some (.int .i64 v) := HG.out.mem.1.cell 1
        have hbm : bm ≠ b := fun e => (nodup_node HG.out.nodup).2.1 (e ▸ Hm)
        have hbm' : b ≠ bm := fun e => hbm e.symm
        have HF : Hid (N.first (.node b4 k4 v4 h4 l4 r4) = .node bm (T.least (N.node b4 k4 v4 h4 l4 r4).raw).1 (T.least (N.node b4 k4 v4 h4 l4 r4).raw).2 hm lm rm) := hfst
        clear Im Hm hfst
        generalize hlk : (T.least (N.node b4 k4 v4 h4 l4 r4).raw).1 = lk at e0 HF
        generalize hlv : (T.least (N.node b4 k4 v4 h4 l4 r4).raw).2 = lw at e1 HF
        have HK : Hid ((T.least (N.node b4 k4 v4 h4 l4 r4).raw).1 = lk ∧ (T.least (N.node b4 k4 v4 h4 l4 r4).raw).2 = lw) := ⟨hlk, hlv⟩
        clear hlk hlv
        go_enter Try.func84, Try.ntmps84
        go_wp2_with fail
        refine (compare_any lv tb key k _ HL.out.now).mono ?_
        rintro e w1 ⟨rfl, n, rfl⟩
        rw [HC.out]
        go_wp2_with fail
        refine (compare_any lv tb key k _ (HL.out.drewN n).now).mono ?_
        rintro e w1 ⟨rfl, n', rfl⟩
        rw [HC.out]
        go_wp2_with fail
        refine (smallest_any (.node b4 k4 v4 h4 l4 r4) _ (HG.out.rt.mem.drewN (n + n')) (fun e => by cases e)).mono ?_
        rintro e w1 ⟨rfl, rfl⟩
        rw [HF.out]
        simp only [N.ptr]
        go_wp2_with fail
        have F1 : Fr (· = b) w (((w.drewN (n + n')).setCell ⟨b, 0, none⟩ (.int .i64 lk)).setCell ⟨b, 1, none⟩ (.int .i64 lw)) :=
          Fr.setCell (S := (· = b)) (Fr.setCell (S := (· = b)) (fr_drewN (Fr.refl _ _) (n + n')) (p := ⟨b, 0, none⟩) (fun _ => rfl) _) (p := ⟨b, 1, none⟩) (fun _ => rfl) _
        have B1 : Blk (((w.drewN (n + n')).setCell ⟨b, 0, none⟩ (.int .i64 lk)).setCell ⟨b, 1, none⟩ (.int .i64 lw)) b #[.int .i64 lk, .int .i64 lw, .int .i64 h, .pointer (some ⟨b2, 0, none⟩), .pointer (some ⟨b4, 0, none⟩)] 119 := ((blk_drewN HG.out.mem.1 (n + n')).set 0 _).set 1 _
        have g' : Good base (((w.drewN (n + n')).setCell ⟨b, 0, none⟩ (.int .i64 lk)).setCell ⟨b, 1, none⟩ (.int .i64 lw)) (.node b lk lw h (.node b2 k2 v2 h2 l2 r2) (.node b4 k4 v4 h4 l4 r4)) :=
          ⟨⟨B1, N.In.fr F1 HG.out.mem.2.1 (fun x hx e => (nodup_node HG.out.nodup).1 (e ▸ hx)), N.In.fr F1 HG.out.mem.2.2 (fun x hx e => (nodup_node HG.out.nodup).2.1 (e ▸ hx))⟩, HG.out.nodup, HG.out.above, HG.out.right, HG.out.even⟩
        have L1 : LessS base (((w.drewN (n + n')).setCell ⟨b, 0, none⟩ (.int .i64 lk)).setCell ⟨b, 1, none⟩ (.int .i64 lw)) lv tb := HL.out.to (F1.below hbs (fun x e => by rw [e]; exact HG.out.above b (by simp [N.ids])))
        generalize hW : ((w.drewN (n + n')).setCell ⟨b, 0, none⟩ (.int .i64 lk)).setCell ⟨b, 1, none⟩ (.int .i64 lw) = W at F1 B1 g' L1 ⊢
        have m4 : W.cell? ⟨b, 4, none⟩ = some (.pointer (some ⟨b4, 0, none⟩)) := B1.cell 4
        have m0 : W.cell? ⟨bm, 0, none⟩ = some (.int .i64 lk) := by rw [World.cell?_of_block (w := w) (F1.block bm (Array.getElem?_eq_some_iff.1 (show w.heap[bm]? = some _ from (by
          have Im := first_in HG.out.rt.mem; rw [HF.out] at Im; exact Im.1))).1 hbm)]; exact e0
        have HW : Hid (Fr (· = b) w W ∧ Good base W (.node b lk lw h (.node b2 k2 v2 h2 l2 r2) (.node b4 k4 v4 h4 l4 r4)) ∧ LessS base W lv tb) := ⟨F1, g', L1⟩
        have hbW : base ≤ W.heap.size := Nat.le_trans hbs F1.size
        clear F1 B1 g' L1 c0 c3' c4' f0 f1 c1 e0 e1 hW hbs
        refine wp_first_tail (.tmp 0) (some 77) 10 (by kernel_rfl) ⟨rfl, rfl, rfl⟩ (by kernel_rfl) (by kernel_rfl) (by kernel_rfl) (fun _ _ _ h => h) (by kernel_rfl) ?_
        simp only [tied, List.modify_succ_cons, List.modify_zero_cons, List.take_succ_cons, List.take_zero, List.drop_succ_cons, List.drop_zero]
        repeat still_step
        refine wpStill_nil ?_
        go_wp2_with fail
        refine (remove_any base tb lv (.node b4 k4 v4 h4 l4 r4) lk W.drew HW.out.2.1.rt.drew HT.out.2 (by simpa using hbW) HW.out.2.2.drew).mono ?_
        rintro e w1 ⟨r', rfl, hraw, hput⟩
        have hput' := hput.of_drew
        obtain ⟨m1, m2, B1⟩ := mem_right HW.out.2.1 hput'
        have d4 : w1.cell? ⟨b, 4, none⟩ = some (.pointer (some ⟨b4, 0, none⟩)) := B1.cell 4
        have f4 : w1.frozen? ⟨b, 4, none⟩ = false := B1.free 4
        have HM : Hid ((N.node b lk lw h (.node b2 k2 v2 h2 l2 r2) r').In (w1.setCell ⟨b, 4, none⟩ r'.ptr) ∧ (N.node b lk lw h (.node b2 k2 v2 h2 l2 r2) r').ids.Nodup ∧ r'.raw = T.rem (rankOf tb) (N.node b4 k4 v4 h4 l4 r4).raw lk ∧ Put base (.node b4 k4 v4 h4 l4 r4) r' W w1) := ⟨m1, m2, hraw, hput'⟩
        obtain ⟨u, hu⟩ := r'.ptr_some
        rw [hu] at HM ⊢
        have HU : Hid (r'.ptr = .pointer u) := hu
        clear m1 m2 B1 hraw hput hput' hu
        go_wp2_with fail
        refine (reb_any (.node b lk lw h (.node b2 k2 v2 h2 l2 r2) r') _ HM.out.1 HM.out.2.1 (fun b' k' v' h' l3 r3 e => ?_)).mono ?_
        · injection e with e1 e2 e3 e4 e5 e6
          subst e5 e6
          exact ⟨HW.out.2.1.lf.part (by have := HT.out; omega), ⟨by rw [HM.out.2.2.1]; exact T.right_rem _ _ HW.out.2.1.rt.right HW.out.2.1.rt.even, by
            rw [HM.out.2.2.1]
            have := (T.even_rem (rankOf tb) lk HW.out.2.1.rt.right HW.out.2.1.rt.even).2
            have := HT.out
            omega⟩⟩
        rintro e w3 ⟨t', rfl, i1, i2, i3, i4⟩
        have HD : Hid (t'.In w3 ∧ t'.raw = T.reb (N.node b lk lw h (.node b2 k2 v2 h2 l2 r2) r').raw ∧ t'.ids.Perm (N.node b lk lw h (.node b2 k2 v2 h2 l2 r2) r').ids ∧ Fr (· ∈ (N.node b lk lw h (.node b2 k2 v2 h2 l2 r2) r').ids) (w1.setCell ⟨b, 4, none⟩ (.pointer u)) w3) := ⟨i1, i2, i3, i4⟩
        clear i1 i2 i3 i4
        go_wp2_with fail
        go_ret
        obtain ⟨i1, i2, i3, i4⟩ := HD.out
        rw [← HU.out] at i4
        have hp := step_right HW.out.2.1 HM.out.2.2.2 ⟨i1, i3, i4⟩
        refine ⟨t', rfl, ?_, hp.mem, hp.nodup, fun x hx => (hp.ids x hx).imp id (fun q => by have := HW.out.1.size; omega), (HW.out.1.mono (fun x _ e => by rw [e]; simp [N.ids])).trans hp.fr (fun _ _ h => h)⟩
        rw [i2, HR.out, HK.out.1, HK.out.2]
        rw [if_neg (show ¬ (N.node b2 k2 v2 h2 l2 r2).raw.isNil = true from Bool.false_ne_true), if_neg (show ¬ (N.node b4 k4 v4 h4 l4 r4).raw.isNil = true from Bool.false_ne_true)]
        show T.reb (.node lk lw h (N.node b2 k2 v2 h2 l2 r2).raw r'.raw) = T.reb _
        rw [HM.out.2.2.1]
end Go.Proofs.Ytjlcebgfknfelaa.Avl

namespace Go.Proofs.Ytjlcebgfknfelaa.Row
open Go Go.RowKit Go.Proofs.Ytjlcebgfknfelaa.Hk Go.Proofs.YtjlcebgfknfelaaW.PrintWords Go.Proofs.YtjlcebgfknfelaaW.PrintLast Go.Proofs.YtjlcebgfknfelaaW.PrintMore
theorem hid {p : Prop} (h : p) : Hid p := h
theorem alloc_size (w : World) (o : Obj) : (w.alloc o).heap.size = w.heap.size + 1 := by simp
/-- append(v, p), at a step of a region that draws: p's cells lie anywhere. -/
theorem append_step {P : Program} {ops : Array Oper} {o : Oper} {a : Act} {K : Act → World → Prop} {Q : Exit → Act → World → Prop} {E : Prop} {α : Type} (d : Kd α)
    (hgd : o.guard = none) (s x : Operand) (t e : TypeId) (z : Value) (bytes : Nat)
    (ho : o.op = .call { callee := .builtin .append, args := #[s, x], argTypes := #[t, t] })
    (ht : P.underlying t = some (.slice e)) (hinfo : (P.info? e).map (fun i => (i.zero, i.size, i.bytes)) = some (some z, d.sz, bytes)) (hz : z.cells.size = d.sz) (hs0 : 0 < d.sz)
    (base : Nat) (v : Value) (xs : List α) (p : α) (cs : List Value) (ok okp : Nat → Prop) (W : World) (hs : a.eval s = v) (hR : d.R e W base ok v xs)
    (ad : Addr) (c : Nat) (hx : a.eval x = .slice (some ad) 1 c) (hp : d.M W base okp p cs) (hcs : ∀ j u, cs[j]? = some u → W.cell? (ad.add j) = some u)
    (hokp : ∀ k, okp k → ok k ∧ some k ≠ v.ownBlock) (hfresh : ∀ k, W.heap.size ≤ k → ok k)
    (hl : (xs.length + 1) * bytes ≤ 140737488355328) (hb0 : 0 < bytes) (hbase : base ≤ W.heap.size)
    (h : ∀ v1 w1, d.R e w1 base ok v1 (xs ++ [p]) → W.grownBy w1 v.ownBlock → (v1.ownBlock = v.ownBlock ∨ ∃ b, v1.ownBlock = some b ∧ W.heap.size ≤ b) → K (a.put o.dst v1) w1) :
    if Region.wanted o (yielded ops a.tmps) = true then Oper.wp P o a W K Q else E := by
  obtain ⟨i, hi, hi2⟩ := Option.map_eq_some_iff.1 hinfo
  simp only [Prod.mk.injEq] at hi2
  obtain ⟨i0, i1, i2⟩ := hi2
  obtain ⟨h0, inner, hown, hr⟩ := hR
  have hk := d.K_of_M hp
  have hm : xs.length + 1 ≤ maxLen := by
    have : (xs.length + 1) * 1 ≤ (xs.length + 1) * bytes := Nat.mul_le_mul_left _ hb0
    unfold maxLen
    omega
  refine step_append_lies W hgd s x t ho base e i z d.sz bytes ht hi i0 i1 i2 hz hs0 v xs.length inner hs hown ad 1 c cs hx (by rw [d.K_len hk]; omega) hcs (d.K_one hk) (by omega) hm hl hbase _ rfl ?_
  intro g cap w' a1 a2 a3 a4
  refine h _ _ ?_ a2 ?_
  · refine Kd.R_appended h0 hr hp hokp hfresh ?_ a2 ?_
    · exact a1
    · rcases a3 with a3 | a3
      · exact .inl a3.symm
      · exact .inr ⟨g, rfl, by omega⟩
  · rcases a3 with a3 | a3
    · exact .inl a3.symm
    · exact .inr ⟨g, rfl, by omega⟩
/-- .. of numbers. -/
theorem append_int {P : Program} {ops : Array Oper} {o : Oper} {a : Act} {K : Act → World → Prop} {Q : Exit → Act → World → Prop} {E : Prop}
    (hgd : o.guard = none) (s x : Operand) (t e : TypeId)
    (ho : o.op = .call { callee := .builtin .append, args := #[s, x], argTypes := #[t, t] })
    (ht : P.underlying t = some (.slice e)) (hinfo : (P.info? e).map (fun i => (i.zero, i.size, i.bytes)) = some (some (.int .i64 0), 1, 8))
    (base : Nat) (v : Value) (xs : List Int) (p : Int) (ok : Nat → Prop) (W : World) (hs : a.eval s = v) (hR : (Kd.int .i64).R e W base ok v xs)
    (ad : Addr) (c : Nat) (hx : a.eval x = .slice (some ad) 1 c) (hc : W.cell? ad = some (.int .i64 p))
    (hl : (xs.length + 1) * 8 ≤ 140737488355328) (hbase : base ≤ W.heap.size)
    (h : ∀ v1 w1, (Kd.int .i64).R e w1 base (fun _ => True) v1 (xs ++ [p]) → W.grownBy w1 v.ownBlock → (v1.ownBlock = v.ownBlock ∨ ∃ b, v1.ownBlock = some b ∧ W.heap.size ≤ b) → K (a.put o.dst v1) w1) :
    if Region.wanted o (yielded ops a.tmps) = true then Oper.wp P o a W K Q else E := by
  refine append_step (Kd.int .i64) hgd s x t e (.int .i64 0) 8 ho ht hinfo rfl (by decide) base v xs p [.int .i64 p] (fun _ => True) (fun _ => False) W hs (Kd.R_mono hR (fun _ _ => trivial)) ad c hx rfl ?_ (fun _ hk => hk.elim) (fun _ _ => trivial) hl (by omega) hbase h
  intro j u hj
  match j, hj with
  | 0, hj => rw [Addr.add_zero']; rw [hc]; simpa using hj
/-- Rows of a structure, out of rows of its fields. -/
theorem reps_map {α β : Type} {R : α → List Value → Prop} {f : β → α} {sz : Nat} {xs : List β} {inner : List Value} (h : Reps R sz (xs.map f) inner) : Reps (fun x => R (f x)) sz xs inner :=
  ⟨by have := h.1; rwa [List.length_map] at this, fun j p hj => h.2 j (f p) (by rw [List.getElem?_map, hj]; rfl)⟩
theorem S_iso {α β : Type} {d : Kd α} {f : β → α} {e : Nat} {w : World} {base : Nat} {ok : Nat → Prop} {v : Value} {xs : List β} (h : Kd.S d e w base ok v (xs.map f)) : Kd.S (Kd.iso d f) e w base ok v xs := by
  obtain ⟨g, h0, inner, ho, hr⟩ := h
  have e1 : (xs.map f).zipIdx = xs.zipIdx.map (fun p => (f p.1, p.2)) := by
    apply List.ext_getElem?
    intro j
    simp only [List.getElem?_zipIdx, List.getElem?_map]
    cases xs[j]? <;> rfl
  rw [e1] at ho hr
  rw [List.length_map] at ho
  exact ⟨g, h0, inner, ho, reps_map (f := fun p : β × Nat => (f p.1, p.2)) hr⟩
theorem C_iso {α β : Type} {d : Kd α} {f : β → α} {w : World} {A : Option Addr} {n : Nat} {xs : List β} (h : (Kd.iso d f).C w A n xs) : d.C w A n (xs.map f) := by
  obtain ⟨h1, h2, h3⟩ := h
  refine ⟨by rw [List.length_map]; exact h1, h2, fun hn => ?_⟩
  obtain ⟨ad, e, hc⟩ := h3 hn
  refine ⟨ad, e, fun j p hj => ?_⟩
  rw [List.getElem?_map] at hj
  obtain ⟨q, hq, rfl⟩ := Option.map_eq_some_iff.1 hj
  exact hc j q hq
theorem grown_fr {S : Nat → Prop} {w w1 w2 : World} {row : Option Nat} (hf : Fr S w w1) (hg : w1.grownBy w2 row) (hr : ∀ k, row = some k → k < w.heap.size → S k) : Fr S w w2 :=
  hf.trans (Fr.of_grown hg) (fun n hn he => hr n he.symm hn)
end Go.Proofs.Ytjlcebgfknfelaa.Row

namespace Go.Proofs.Ytjlcebgfknfelaa.Avl
open Go Go.RowKit Go.Proofs.Ytjlcebgfknfelaa.Hk Go.Proofs.Ytjlcebgfknfelaa.AvlPure Go.Proofs.Ytjlcebgfknfelaa.Less Go.Proofs.Ytjlcebgfknfelaa.Row Go.Proofs.YtjlcebgfknfelaaW.PrintWords Go.Proofs.YtjlcebgfknfelaaW.PrintLast Go.Proofs.YtjlcebgfknfelaaW.PrintMore
theorem infoInt : (Try.prog.info? 3).map (fun i => (i.zero, i.size, i.bytes)) = some (some (.int .i64 0), 1, 8) := by kernel_rfl
/-- What has been gathered so far: x's variable, and its two rows, made since the heap was N0 blocks. -/
def Acc (N0 X : Nat) (val : Int) (okv : Bool) (ks vs : List Int) (w : World) : Prop :=
  ∃ K V, Blk w X #[.int .i64 val, .bool okv, K, V] 46 ∧ X < N0 ∧ N0 ≤ w.heap.size ∧
    (Kd.int .i64).R 3 w N0 (fun b => some b ≠ V.ownBlock) K ks ∧ (Kd.int .i64).R 3 w N0 (fun b => some b ≠ K.ownBlock) V vs
theorem Acc.drewN {N0 X : Nat} {val : Int} {okv : Bool} {ks vs : List Int} {w : World} (h : Acc N0 X val okv ks vs w) (n : Nat) : Acc N0 X val okv ks vs (w.drewN n) := by
  obtain ⟨K, V, h1, h2, h3, h4, h5⟩ := h
  exact ⟨K, V, h1, h2, h3, Kd.R_drewN h4 n, Kd.R_drewN h5 n⟩
theorem Acc.drew {N0 X : Nat} {val : Int} {okv : Bool} {ks vs : List Int} {w : World} (h : Acc N0 X val okv ks vs w) : Acc N0 X val okv ks vs w.drew := by
  obtain ⟨K, V, h1, h2, h3, h4, h5⟩ := h
  exact ⟨K, V, h1, h2, h3, Kd.R_drew h4, Kd.R_drew h5⟩
def clo.T : Bool × List (List Nat × List Nat) := (true, [([], []), ([0], [0]), ([], []), ([2], [2]), ([1, 3], [1, 3]), ([], []), ([5], [5]), ([], []), ([7], [7]), ([6, 8, 4], [6, 8]), ([0, 1, 2, 3, 4, 5, 6], []), ([10, 4, 9, 0, 1, 2, 3, 4, 5, 6], [4, 10]), ([0, 1, 2, 3, 4, 5, 6, 7, 8, 9, 10, 11], []), ([12, 9, 11, 0, 1, 2, 3, 4, 5, 6, 7, 8, 9, 10, 11], [9, 12])])
def clo.B : List Nat := [0, 1, 0, 4, 15, 0, 32, 0, 128, 511, 127, 2047, 4095, 8191]
theorem clo.tab : rtab .any (opsOf Try.f65 0) = clo.T := by kernel_rfl
theorem clo.bits : waitsOk clo.T.2 clo.B = true := by kernel_rfl
/-- What stands ahead of the appends: the world has grown by boxes alone. -/
def Pre (N0 X : Nat) (val : Int) (okv : Bool) (ks vs : List Int) (K V : Value) (w W : World) : Prop :=
  Blk W X #[.int .i64 val, .bool okv, K, V] 46 ∧ N0 ≤ W.heap.size ∧
    (Kd.int .i64).R 3 W N0 (fun b => some b ≠ V.ownBlock) K ks ∧ (Kd.int .i64).R 3 W N0 (fun b => some b ≠ K.ownBlock) V vs ∧ Fr (fun b => b = X ∨ N0 ≤ b) w W
section
variable {N0 X : Nat} {val : Int} {okv : Bool} {ks vs : List Int} {K V K1 V1 : Value} {k v : Int} {w W W1 : World}
theorem Pre.alloc (h : Pre N0 X val okv ks vs K V w W) (o : Obj) : Pre N0 X val okv ks vs K V w (W.alloc o) :=
  ⟨h.1.alloc o, by rw [alloc_size]; exact Nat.le_succ_of_le h.2.1, Kd.R_alloc h.2.2.1 o, Kd.R_alloc h.2.2.2.1 o, h.2.2.2.2.alloc o⟩
theorem Pre.cell2 (h : Pre N0 X val okv ks vs K V w W) : W.cell? ⟨X, 2, none⟩ = some K := h.1.cell 2
theorem Pre.cell3 (h : Pre N0 X val okv ks vs K V w W) : W.cell? ⟨X, 3, none⟩ = some V := h.1.cell 3
theorem own_ge {N0 : Nat} {e : Nat} {w : World} {ok : Nat → Prop} {v : Value} {xs : List Int} (h : (Kd.int .i64).R e w N0 ok v xs) : ∀ k, v.ownBlock = some k → N0 ≤ k ∧ k < w.heap.size := by
  obtain ⟨_, inner, ho, _⟩ := h
  exact ho.lt
/-- One of the rows is appended to. -/
theorem part_of {ks' : List Int} (hX : X < N0) (h : Pre N0 X val okv ks vs K V w W)
    (hR : (Kd.int .i64).R 3 W1 N0 (fun _ => True) K1 ks') (hg : W.grownBy W1 K.ownBlock) (hat : K1.ownBlock = K.ownBlock ∨ ∃ b, K1.ownBlock = some b ∧ W.heap.size ≤ b) :
    Blk W1 X #[.int .i64 val, .bool okv, K, V] 46 ∧ N0 ≤ W1.heap.size ∧
    (Kd.int .i64).R 3 W1 N0 (fun b => some b ≠ V.ownBlock) K1 ks' ∧ (Kd.int .i64).R 3 W1 N0 (fun b => some b ≠ K1.ownBlock) V vs ∧ Fr (fun b => b = X ∨ N0 ≤ b) w W1 := by
  obtain ⟨hB, hN, hK, hV, hf⟩ := h
  have kg := own_ge hK
  have vg := own_ge hV
  have ne : ∀ b, K1.ownBlock = some b → some b ≠ V.ownBlock := fun b hb hv => by
    rcases hat with e | ⟨b', e, hb'⟩
    · exact hK.1 b (e ▸ hb) hv
    · rw [e] at hb; injection hb with hb; have := (vg b hv.symm).2; omega
  exact ⟨(hg.block X hB.lt (fun e => by have := kg X e.symm; omega)).trans hB, Nat.le_trans hN hg.size, Kd.R_reok rfl hR ne,
    Kd.R_reok rfl (Kd.R_grown2 hV rfl hg (fun b hb e => hV.1 b e.symm hb.symm)) (fun b hb e => ne b e.symm hb.symm), grown_fr hf hg (fun k hk _ => .inr (kg k hk).1)⟩
/-- What stands when both boxes are laid and the keys are appended. -/
def Mid (N0 X : Nat) (val : Int) (okv : Bool) (ks vs : List Int) (K V K1 : Value) (k v : Int) (g : Nat) (w W : World) : Prop :=
  W.cell? ⟨g, 0, none⟩ = some (.int .i64 v) ∧ Blk W X #[.int .i64 val, .bool okv, K, V] 46 ∧ N0 ≤ W.heap.size ∧
    (Kd.int .i64).R 3 W N0 (fun b => some b ≠ V.ownBlock) K1 (ks ++ [k]) ∧ (Kd.int .i64).R 3 W N0 (fun b => some b ≠ K1.ownBlock) V vs ∧ Fr (fun b => b = X ∨ N0 ≤ b) w W
theorem box_cell (W : World) (v : Value) (t : TypeId) : (W.alloc (.cells #[v] t)).cell? ⟨W.heap.size, 0, none⟩ = some v := (Blk.new W #[v] t).cell 0
theorem box_cell' (W : World) (v : Value) (t : TypeId) {n : Nat} (hn : W.heap.size = n) : (W.alloc (.cells #[v] t)).cell? ⟨n, 0, none⟩ = some v := by subst hn; exact box_cell W v t
/-- Behind the second append. -/
theorem end_of (hX : X < N0) {g : Nat} (h : Mid N0 X val okv ks vs K V K1 k v g w W)
    (hR : (Kd.int .i64).R 3 W1 N0 (fun _ => True) V1 (vs ++ [v])) (hg : W.grownBy W1 V.ownBlock) (hat : V1.ownBlock = V.ownBlock ∨ ∃ b, V1.ownBlock = some b ∧ W.heap.size ≤ b) :
    Blk W1 X #[.int .i64 val, .bool okv, K, V] 46 ∧ Acc N0 X val okv (ks ++ [k]) (vs ++ [v]) ((W1.setCell ⟨X, 2, none⟩ K1).setCell ⟨X, 3, none⟩ V1) ∧
      Fr (fun b => b = X ∨ N0 ≤ b) w ((W1.setCell ⟨X, 2, none⟩ K1).setCell ⟨X, 3, none⟩ V1) := by
  obtain ⟨_, hB, hN, hK, hV, hf⟩ := h
  have kg := own_ge hK
  have vg := own_ge hV
  have v1g := own_ge hR
  have ne : ∀ b, V1.ownBlock = some b → some b ≠ K1.ownBlock := fun b hb hv => by
    rcases hat with e | ⟨b', e, hb'⟩
    · exact hV.1 b (e ▸ hb) hv
    · rw [e] at hb; injection hb with hb; have := (kg b hv.symm).2; omega
  have hB1 : Blk W1 X #[.int .i64 val, .bool okv, K, V] 46 := (hg.block X hB.lt (fun e => by have := vg X e.symm; omega)).trans hB
  have hK1 : (Kd.int .i64).R 3 W1 N0 (fun _ => True) K1 (ks ++ [k]) := Kd.R_mono (Kd.R_grown2 hK rfl hg (fun b hb e => hK.1 b e.symm hb.symm)) (fun _ _ => trivial)
  have hB2 : Blk ((W1.setCell ⟨X, 2, none⟩ K1).setCell ⟨X, 3, none⟩ V1) X #[.int .i64 val, .bool okv, K1, V1] 46 := (hB1.set 2 K1).set 3 V1
  have far : ∀ {v0 : Value} {xs : List Int}, (Kd.int .i64).R 3 W1 N0 (fun _ => True) v0 xs → (Kd.int .i64).R 3 ((W1.setCell ⟨X, 2, none⟩ K1).setCell ⟨X, 3, none⟩ V1) N0 (fun b => b ≠ X) v0 xs := fun h0 => by
    have h1 := Kd.R_reok (ok := fun b => b ≠ X) rfl h0 (fun b hb => by have := own_ge h0 b hb; omega)
    exact Kd.R_far (Kd.R_far h1 (fun _ h => h) _) (fun _ h => h) _
  refine ⟨hB1, ⟨K1, V1, hB2, hX, ?_, Kd.R_reok rfl (far hK1) (fun b hb e => ne b e.symm hb.symm), Kd.R_reok rfl (far hR) ne⟩, ?_⟩
  · have : N0 ≤ W1.heap.size := Nat.le_trans hN hg.size
    simpa [World.setCell] using this
  · exact ((grown_fr hf hg (fun k hk _ => .inr (vg k hk).1)).setCell (p := ⟨X, 2, none⟩) (fun _ => .inl rfl) K1).setCell (p := ⟨X, 3, none⟩) (fun _ => .inl rfl) V1
end
set_option maxHeartbeats 4000000 in
set_option maxRecDepth 100000 in
theorem avlDo1_any (N0 X : Nat) (val : Int) (okv : Bool) (ks vs : List Int) (k v : Int) (w : World) (hA : Acc N0 X val okv ks vs w) (hl : ks.length ≤ 1099511627776) (hl2 : vs.length ≤ 1099511627776) :
    Calls Try.prog 65 #[.int .i64 k, .int .i64 v, .pointer (some ⟨X, 0, none⟩)] w fun e w' => e = .returned (.tuple #[]) ∧ Acc N0 X val okv (ks ++ [k]) (vs ++ [v]) w' ∧ Fr (fun b => b = X ∨ N0 ≤ b) w w' := by
  obtain ⟨K, V, hB, hX, hN, hK, hV⟩ := hA
  obtain ⟨AK, cK, rfl⟩ := Kd.R_slice hK
  obtain ⟨AV, cV, rfl⟩ := Kd.R_slice hV
  have c2 : w.cell? ⟨X, 2, none⟩ = some (.slice AK ks.length cK) := hB.cell 2
  have c3 : w.cell? ⟨X, 3, none⟩ = some (.slice AV vs.length cV) := hB.cell 3
  have H : Hid (Pre N0 X val okv ks vs (.slice AK ks.length cK) (.slice AV vs.length cV) w w.drew) := ⟨hB, hN, Kd.R_drew hK, Kd.R_drew hV, (Fr.refl _ _).drew⟩
  have HN : Hid (X < N0) := hX
  clear hB hK hV hN hX
  go_enter Try.func65, Try.ntmps65
  refine start_ (n := 14) (S := fun w' => w'.cell? ⟨X, 2, none⟩ = some (.slice AK ks.length cK) ∧ w'.cell? ⟨X, 3, none⟩ = some (.slice AV vs.length cV)) (ds := [11, 13]) #[false, false, false, false, false, false, false, false, false, false, false, false, false, false] (by kernel_rfl) rfl rfl ⟨c2, c3⟩ (fun hHeld => ?_)
  refine with_tabW clo.tab clo.bits (fun HT_ HW_ => ?_)
  clear c2 c3
  generalize w.drew = W0 at H hHeld ⊢
  refine pure_ (i := 0) (N := some 5) (v := ?_) (a' := ?_) #[true, false, false, false, false, false, false, false, false, false, false, false, false, false] rfl rfl (any_of HT_.out (by kernel_rfl)) (fun _ _ _ h => h) (Or.inl ⟨by rfl, ?_⟩) ?_ ?_
  rotate_left
  · intro w'
    go_simp
    with_reducible rfl
  rotate_left
  · simp only [Act.put, List.setIfInBounds_toArray, List.set_cons_zero, List.set_cons_succ]
    rfl
  refine pure_ (i := 2) (N := some 7) (v := ?_) (a' := ?_) #[true, false, true, false, false, false, false, false, false, false, false, false, false, false] rfl rfl (any_of HT_.out (by kernel_rfl)) (fun _ _ _ h => h) (Or.inl ⟨by rfl, ?_⟩) ?_ ?_
  rotate_left
  · intro w'
    go_simp
    with_reducible rfl
  rotate_left
  · simp only [Act.put, List.setIfInBounds_toArray, List.set_cons_zero, List.set_cons_succ]
    rfl
  refine pure_ (i := 5) (N := some 10) (v := ?_) (a' := ?_) #[true, false, true, false, false, true, false, false, false, false, false, false, false, false] rfl rfl (any_of HT_.out (by kernel_rfl)) (fun _ _ _ h => h) (Or.inl ⟨by rfl, ?_⟩) ?_ ?_
  rotate_left
  · intro w'
    go_simp
    with_reducible rfl
  rotate_left
  · simp only [Act.put, List.setIfInBounds_toArray, List.set_cons_zero, List.set_cons_succ]
    rfl
  refine pure_ (i := 7) (N := some 12) (v := ?_) (a' := ?_) #[true, false, true, false, false, true, false, true, false, false, false, false, false, false] rfl rfl (any_of HT_.out (by kernel_rfl)) (fun _ _ _ h => h) (Or.inl ⟨by rfl, ?_⟩) ?_ ?_
  rotate_left
  · intro w'
    go_simp
    with_reducible rfl
  rotate_left
  · simp only [Act.put, List.setIfInBounds_toArray, List.set_cons_zero, List.set_cons_succ]
    rfl
  refine take_ (i := 1) (N := some 6) (v := ?_) (a' := ?_) #[true, true, true, false, false, true, false, true, false, false, false, false, false, false] rfl rfl (take_ofW HT_.out HW_.out (by kernel_rfl)) (fun _ _ _ h => h) (Or.inl ⟨by rfl, ?_⟩) hHeld ?_ ?_
  rotate_left
  · intro w' s0
    have s1 := s0.1
    have s2 := s0.2
    go_simp
    with_reducible rfl
  rotate_left
  · simp only [Act.put, List.setIfInBounds_toArray, List.set_cons_zero, List.set_cons_succ]
    rfl
  refine take_ (i := 6) (N := some 11) (v := ?_) (a' := ?_) #[true, true, true, false, false, true, true, true, false, false, false, false, false, false] rfl rfl (take_ofW HT_.out HW_.out (by kernel_rfl)) (fun _ _ _ h => h) (Or.inl ⟨by rfl, ?_⟩) hHeld ?_ ?_
  rotate_left
  · intro w' s0
    have s1 := s0.1
    have s2 := s0.2
    go_simp
    with_reducible rfl
  rotate_left
  · simp only [Act.put, List.setIfInBounds_toArray, List.set_cons_zero, List.set_cons_succ]
    rfl
  refine join_ (σ := Value × Nat × Nat) 4 #[true, true, true, true, true, true, true, true, true, false, true, false, false, false] (fun s => [(8, .slice (some ⟨s.2.1, 0, none⟩) 1 1), (9, s.1), (13, .slice (some ⟨s.2.2, 0, none⟩) 1 1), (15, .pointer (some ⟨X, 2, none⟩))]) (fun s W => Mid N0 X val okv ks vs (.slice AK ks.length cK) (.slice AV vs.length cV) s.1 k v s.2.2 w W) ?hcont ?hord
  case hcont =>
    rintro ⟨K1, g8, g13⟩ W hM
    have HM := hid hM
    obtain ⟨AK1, cK1, hq⟩ := Kd.R_slice hM.2.2.2.1
    rw [List.length_append, List.length_singleton] at hq
    replace hq : K1 = _ := hq
    subst hq
    clear hM H hHeld
    refine norm_ (a' := ?_) ?_ ?_
    rotate_left
    · simp only [putAll, Act.put, List.setIfInBounds_toArray, List.set_cons_zero, List.set_cons_succ]
      rfl
    refine one_ (i := 9) (N := some 14) #[true, true, true, true, true, true, true, true, true, true, true, false, false, false] rfl rfl (one_of HT_.out (by kernel_rfl)) (by decide) (fun K_ hK => ?_)
    refine append_int rfl (.tmp 11) (.tmp 13) 24 3 rfl Try.underlying24 infoInt N0 (.slice AV vs.length cV) vs v _ W rfl HM.out.2.2.2.2.1 ⟨g13, 0, none⟩ 1 rfl HM.out.1 (by omega) HM.out.2.2.1 ?_
    intro V1 W1 hR hg hat
    have HE := hid (end_of HN.out HM.out hR hg hat)
    obtain ⟨AV1, cV1, hq⟩ := Kd.R_slice hR
    rw [List.length_append, List.length_singleton] at hq
    subst hq
    refine hK.out _ _ ⟨HE.out.1.cell 2, HE.out.1.cell 3⟩ (fun hHeld => ?_)
    clear hK K_
    have e2 := hHeld.1
    have e3 := hHeld.2
    have f2 : W1.frozen? ⟨X, 2, none⟩ = false := HE.out.1.free 2
    have f3 : W1.frozen? ⟨X, 3, none⟩ = false := HE.out.1.free 3
    clear hR hg hat hHeld
    refine norm_ (a' := ?_) ?_ ?_
    rotate_left
    · show Act.put _ (some 14) _ = _
      simp only [Act.put, List.setIfInBounds_toArray, List.set_cons_zero, List.set_cons_succ]
      rfl
    refine last_ (i := 11) (N := none) #[true, true, true, true, true, true, true, true, true, true, true, true, false, false] rfl rfl (one_of HT_.out (by kernel_rfl)) (by decide) (fun K_ hK => ?_)
    refine skip_ (w1 := ?_) (by rfl) rfl ?_ ?_
    rotate_left
    · go_simp
      rfl
    refine hK.out _ _ ?_
    clear hK K_
    refine pure_ (i := 12) (N := some 16) (v := ?_) (a' := ?_) #[true, true, true, true, true, true, true, true, true, true, true, true, true, false] rfl rfl (any_of HT_.out (by kernel_rfl)) (fun _ _ _ h => h) (Or.inl ⟨by rfl, ?_⟩) ?_ ?_
    rotate_left
    · intro w'
      go_simp
      with_reducible rfl
    rotate_left
    · simp only [Act.put, List.setIfInBounds_toArray, List.set_cons_zero, List.set_cons_succ]
      rfl
    refine last_ (i := 13) (N := none) #[true, true, true, true, true, true, true, true, true, true, true, true, true, true] rfl rfl (one_of HT_.out (by kernel_rfl)) (by decide) (fun K_ hK => ?_)
    refine skip_ (w1 := ?_) (by rfl) rfl ?_ ?_
    rotate_left
    · go_simp
      rfl
    refine hK.out _ _ ?_
    clear hK K_
    refine done_ (done_of HT_.out (by kernel_rfl)) ?_
    try go_wp2
    go_end0
    exact ⟨rfl, HE.out.2.1, HE.out.2.2⟩
  case hord =>
    intro hcont
    clear hHeld
    refine two_ (i := 3) (j := 8) (Ni := some 8) (Nj := some 13) #[true, true, true, true, false, true, true, true, false, false, false, false, false, false] #[true, true, true, false, false, true, true, true, true, false, false, false, false, false] rfl rfl rfl rfl (two_of HT_.out (by kernel_rfl)) (by decide) (by decide) (fun K_ hK => ?_) (fun K_ hK => ?_)
    · refine value_ (w1 := ?_) (v := ?_) (by rfl) rfl ?_ ?_
      rotate_left 2
      · go_simp
        constructor
        · rfl
        · rfl
      refine hK.out _ _ ⟨(H.out.alloc _).cell2, (H.out.alloc _).cell3⟩ (fun hHeld => ?_)
      clear hK K_
      refine norm_ (a' := ?_) ?_ ?_
      rotate_left
      · show Act.put _ (some 8) _ = _
        simp only [Act.put, List.setIfInBounds_toArray, List.set_cons_zero, List.set_cons_succ]
        rfl
      have H1 := hid (H.out.alloc (.cells #[.int .i64 k] 3))
      have C1 := hid (box_cell W0 (.int .i64 k) 3)
      clear hHeld
      refine two_ (i := 4) (j := 8) (Ni := some 9) (Nj := some 13) #[true, true, true, true, true, true, true, true, false, false, false, false, false, false] #[true, true, true, true, false, true, true, true, true, false, false, false, false, false] rfl rfl rfl rfl (two_of HT_.out (by kernel_rfl)) (by decide) (by decide) (fun K_ hK => ?_) (fun K_ hK => ?_)
      · refine append_int rfl (.tmp 6) (.tmp 8) 24 3 rfl Try.underlying24 infoInt N0 (.slice AK ks.length cK) ks k _ _ rfl H1.out.2.2.1 ⟨W0.heap.size, 0, none⟩ 1 rfl C1.out (by omega) H1.out.2.1 ?_
        intro K1 W1 hR hg hat
        have HP := hid (part_of HN.out H1.out hR hg hat)
        refine hK.out _ _ ⟨HP.out.1.cell 2, HP.out.1.cell 3⟩ (fun hHeld => ?_)
        clear hK K_ hR hg hat hHeld
        refine norm_ (a' := ?_) ?_ ?_
        rotate_left
        · show Act.put _ (some 9) _ = _
          simp only [Act.put, List.setIfInBounds_toArray, List.set_cons_zero, List.set_cons_succ]
          rfl
        refine pure_ (i := 10) (N := some 15) (v := ?_) (a' := ?_) #[true, true, true, true, true, true, true, true, false, false, true, false, false, false] rfl rfl (any_of HT_.out (by kernel_rfl)) (fun _ _ _ h => h) (Or.inl ⟨by rfl, ?_⟩) ?_ ?_
        rotate_left
        · intro w'
          go_simp
          with_reducible rfl
        rotate_left
        · simp only [Act.put, List.setIfInBounds_toArray, List.set_cons_zero, List.set_cons_succ]
          rfl
        refine one_ (i := 8) (N := some 13) #[true, true, true, true, true, true, true, true, true, false, true, false, false, false] rfl rfl (one_of HT_.out (by kernel_rfl)) (by decide) (fun K_ hK => ?_)
        refine value_ (w1 := ?_) (v := ?_) (by rfl) rfl ?_ ?_
        rotate_left 2
        · go_simp
          constructor
          · rfl
          · rfl
        refine hK.out _ _ ⟨(HP.out.1.alloc _).cell 2, (HP.out.1.alloc _).cell 3⟩ (fun hHeld => ?_)
        clear hK K_
        exact norm_ rfl (hcont ⟨K1, W0.heap.size, W1.heap.size⟩ _ ⟨box_cell W1 _ _, HP.out.1.alloc _, by rw [alloc_size]; exact Nat.le_succ_of_le HP.out.2.1, Kd.R_alloc HP.out.2.2.1 _, Kd.R_alloc HP.out.2.2.2.1 _, HP.out.2.2.2.2.alloc _⟩)
      · refine value_ (w1 := ?_) (v := ?_) (by rfl) rfl ?_ ?_
        rotate_left 2
        · go_simp
          constructor
          · rfl
          · rfl
        refine hK.out _ _ ⟨(H1.out.alloc _).cell2, (H1.out.alloc _).cell3⟩ (fun hHeld => ?_)
        clear hK K_
        refine norm_ (a' := ?_) ?_ ?_
        rotate_left
        · show Act.put _ (some 13) _ = _
          simp only [Act.put, List.setIfInBounds_toArray, List.set_cons_zero, List.set_cons_succ]
          rfl
        have C2 := hid (((Below.refl _ _).alloc (Nat.le_refl _) (.cells #[.int .i64 v] 3) : Below _ (W0.alloc (.cells #[.int .i64 k] 3)) _))
        have H3 := hid (H1.out.alloc (.cells #[.int .i64 v] 3))
        have C3 := hid (box_cell' (W0.alloc (.cells #[.int .i64 k] 3)) (.int .i64 v) 3 (alloc_size _ _))
        clear H1 hHeld
        have H1 := H3
        clear H3
        refine one_ (i := 4) (N := some 9) #[true, true, true, true, true, true, true, true, true, false, false, false, false, false] rfl rfl (one_of HT_.out (by kernel_rfl)) (by decide) (fun K_ hK => ?_)
        refine append_int rfl (.tmp 6) (.tmp 8) 24 3 rfl Try.underlying24 infoInt N0 (.slice AK ks.length cK) ks k _ _ rfl H1.out.2.2.1 ⟨W0.heap.size, 0, none⟩ 1 rfl ((C2.out.cell (by rw [alloc_size]; exact Nat.lt_succ_self _)).trans C1.out) (by omega) H1.out.2.1 ?_
        intro K1 W1 hR hg hat
        have HP := hid (part_of HN.out H1.out hR hg hat)
        refine hK.out _ _ ⟨HP.out.1.cell 2, HP.out.1.cell 3⟩ (fun hHeld => ?_)
        have C4 := hid (hg.cell C3.out (fun e => by have := own_ge H.out.2.2.1 _ e.symm; simp only at this; omega))
        clear hK K_ hR hg hat hHeld
        refine norm_ (a' := ?_) ?_ ?_
        rotate_left
        · show Act.put _ (some 9) _ = _
          simp only [Act.put, List.setIfInBounds_toArray, List.set_cons_zero, List.set_cons_succ]
          rfl
        refine pure_ (i := 10) (N := some 15) (v := ?_) (a' := ?_) #[true, true, true, true, true, true, true, true, true, false, true, false, false, false] rfl rfl (any_of HT_.out (by kernel_rfl)) (fun _ _ _ h => h) (Or.inl ⟨by rfl, ?_⟩) ?_ ?_
        rotate_left
        · intro w'
          go_simp
          with_reducible rfl
        rotate_left
        · simp only [Act.put, List.setIfInBounds_toArray, List.set_cons_zero, List.set_cons_succ]
          rfl
        exact norm_ rfl (hcont ⟨K1, W0.heap.size, W0.heap.size + 1⟩ _ ⟨C4.out, HP.out⟩)
    · refine value_ (w1 := ?_) (v := ?_) (by rfl) rfl ?_ ?_
      rotate_left 2
      · go_simp
        constructor
        · rfl
        · rfl
      refine hK.out _ _ ⟨(H.out.alloc _).cell2, (H.out.alloc _).cell3⟩ (fun hHeld => ?_)
      clear hK K_
      refine norm_ (a' := ?_) ?_ ?_
      rotate_left
      · show Act.put _ (some 13) _ = _
        simp only [Act.put, List.setIfInBounds_toArray, List.set_cons_zero, List.set_cons_succ]
        rfl
      have H0 := hid (H.out.alloc (.cells #[.int .i64 v] 3))
      have C1 := hid (box_cell W0 (.int .i64 v) 3)
      clear hHeld
      refine one_ (i := 3) (N := some 8) #[true, true, true, true, false, true, true, true, true, false, false, false, false, false] rfl rfl (one_of HT_.out (by kernel_rfl)) (by decide) (fun K_ hK => ?_)
      refine value_ (w1 := ?_) (v := ?_) (by rfl) rfl ?_ ?_
      rotate_left 2
      · go_simp
        constructor
        · rfl
        · rfl
      refine hK.out _ _ ⟨(H0.out.alloc _).cell2, (H0.out.alloc _).cell3⟩ (fun hHeld => ?_)
      clear hK K_
      refine norm_ (a' := ?_) ?_ ?_
      rotate_left
      · show Act.put _ (some 8) _ = _
        simp only [Act.put, List.setIfInBounds_toArray, List.set_cons_zero, List.set_cons_succ]
        rfl
      have H1 := hid (H0.out.alloc (.cells #[.int .i64 k] 3))
      have C3 := hid (box_cell' (W0.alloc (.cells #[.int .i64 v] 3)) (.int .i64 k) 3 (alloc_size _ _))
      have C2 := hid (((Below.refl _ _).alloc (Nat.le_refl _) (.cells #[.int .i64 k] 3) : Below _ (W0.alloc (.cells #[.int .i64 v] 3)) _))
      clear hHeld
      refine one_ (i := 4) (N := some 9) #[true, true, true, true, true, true, true, true, true, false, false, false, false, false] rfl rfl (one_of HT_.out (by kernel_rfl)) (by decide) (fun K_ hK => ?_)
      refine append_int rfl (.tmp 6) (.tmp 8) 24 3 rfl Try.underlying24 infoInt N0 (.slice AK ks.length cK) ks k _ _ rfl H1.out.2.2.1 ⟨_, 0, none⟩ 1 rfl C3.out (by omega) H1.out.2.1 ?_
      intro K1 W1 hR hg hat
      have HP := hid (part_of HN.out H1.out hR hg hat)
      refine hK.out _ _ ⟨HP.out.1.cell 2, HP.out.1.cell 3⟩ (fun hHeld => ?_)
      have C4 := hid (hg.cell ((C2.out.cell (by rw [alloc_size]; exact Nat.lt_succ_self _)).trans C1.out) (fun e => by have := own_ge H.out.2.2.1 _ e.symm; simp only at this; omega))
      clear hK K_ hR hg hat hHeld
      refine norm_ (a' := ?_) ?_ ?_
      rotate_left
      · show Act.put _ (some 9) _ = _
        simp only [Act.put, List.setIfInBounds_toArray, List.set_cons_zero, List.set_cons_succ]
        rfl
      refine pure_ (i := 10) (N := some 15) (v := ?_) (a' := ?_) #[true, true, true, true, true, true, true, true, true, false, true, false, false, false] rfl rfl (any_of HT_.out (by kernel_rfl)) (fun _ _ _ h => h) (Or.inl ⟨by rfl, ?_⟩) ?_ ?_
      rotate_left
      · intro w'
        go_simp
        with_reducible rfl
      rotate_left
      · simp only [Act.put, List.setIfInBounds_toArray, List.set_cons_zero, List.set_cons_succ]
        rfl
      exact norm_ rfl (hcont ⟨K1, W0.heap.size + 1, W0.heap.size⟩ _ ⟨C4.out, HP.out⟩)
end Go.Proofs.Ytjlcebgfknfelaa.Avl

namespace Go.Proofs.Ytjlcebgfknfelaa.Avl
open Go Go.RowKit Go.Proofs.Ytjlcebgfknfelaa.Hk Go.Proofs.Ytjlcebgfknfelaa.AvlPure Go.Proofs.Ytjlcebgfknfelaa.Less Go.Proofs.Ytjlcebgfknfelaa.Row Go.Proofs.YtjlcebgfknfelaaW.PrintWords Go.Proofs.YtjlcebgfknfelaaW.PrintLast Go.Proofs.YtjlcebgfknfelaaW.PrintMore
/-- The function value that gathers into X. -/
def cloV (X : Nat) : Value := .func (.func 65) #[] #[.pointer (some ⟨X, 0, none⟩)]
def keys (t : T) : List Int := t.list.map (·.1)
def vals (t : T) : List Int := t.list.map (·.2)
theorem keys_length (t : T) : ((keys t).length : Int) = t.size := by rw [T.size_list]; simp [keys]
theorem vals_length (t : T) : (vals t).length = (keys t).length := by simp [keys, vals]
theorem keys_node (k v h : Int) (l r : T) : keys (.node k v h l r) = keys l ++ k :: keys r := by simp [keys, T.list]
theorem vals_node (k v h : Int) (l r : T) : vals (.node k v h l r) = vals l ++ v :: vals r := by simp [vals, T.list]
set_option maxHeartbeats 4000000 in
set_option maxRecDepth 100000 in
theorem each_any (N0 X : Nat) (val : Int) (okv : Bool) : ∀ (t : N) (ks vs : List Int) (w : World), t.In w → (∀ b ∈ t.ids, b < N0 ∧ b ≠ X) → Acc N0 X val okv ks vs w → vs.length = ks.length →
    (ks.length : Int) + t.raw.size ≤ 1099511627776 →
    Calls Try.prog 87 #[t.ptr, cloV X] w fun e w' => e = .returned (.tuple #[]) ∧ Acc N0 X val okv (ks ++ keys t.raw) (vs ++ vals t.raw) w' ∧ Fr (fun b => b = X ∨ N0 ≤ b) w w'
  | .nil, ks, vs, w, _, _, hA, _, _ => by
    have HA : Hid (Acc N0 X val okv ks vs w) := hA
    clear hA
    show Calls Try.prog 87 #[.pointer none, .func (.func 65) #[] #[.pointer (some ⟨X, 0, none⟩)]] w _
    go_enter Try.func87, Try.ntmps87
    go_wp2_with fail
    (try simp only [Exit.inBlock, Exit.then]); refine bodyPost_ret (results_none rfl _ _ _) rfl ?_
    exact ⟨rfl, by show Acc N0 X val okv (ks ++ []) (vs ++ []) w; rw [List.append_nil, List.append_nil]; exact HA.out, Fr.refl _ _⟩
  | .node b k v h l r, ks, vs, w, hin, hid', hA, hlen, hsz => by
    have e0 : (N.node b k v h l r).raw.size = 1 + l.raw.size + r.raw.size := rfl
    have s1 := T.size_nonneg l.raw
    have s2 := T.size_nonneg r.raw
    rw [e0] at hsz
    have HA : Hid (Acc N0 X val okv ks vs w) := hA
    have HI : Hid ((N.node b k v h l r).In w) := hin
    have HD : Hid ((b < N0 ∧ b ≠ X) ∧ (∀ x ∈ l.ids, x < N0 ∧ x ≠ X) ∧ (∀ x ∈ r.ids, x < N0 ∧ x ≠ X)) :=
      ⟨hid' b (by simp [N.ids]), fun x hx => hid' x (by simp [N.ids, hx]), fun x hx => hid' x (by simp [N.ids, hx])⟩
    have kl := keys_length l.raw
    have HZ : Hid ((ks.length : Int) + l.raw.size ≤ 1099511627776 ∧ (ks ++ keys l.raw).length ≤ 1099511627776 ∧ (vs ++ vals l.raw).length ≤ 1099511627776 ∧
        (vs ++ vals l.raw ++ [v]).length = (ks ++ keys l.raw ++ [k]).length ∧ ((ks ++ keys l.raw ++ [k]).length : Int) + r.raw.size ≤ 1099511627776) := by
      have vl := vals_length l.raw
      simp only [List.length_append, List.length_singleton]
      refine ⟨by omega, by omega, by omega, by omega, by omega⟩
    have c3 : w.cell? ⟨b, 3, none⟩ = some l.ptr := hin.1.cell 3
    have HR : Hid (ks ++ keys (N.node b k v h l r).raw = ks ++ keys l.raw ++ [k] ++ keys r.raw ∧ vs ++ vals (N.node b k v h l r).raw = vs ++ vals l.raw ++ [v] ++ vals r.raw) := by
      constructor
      · show ks ++ keys (.node k v h l.raw r.raw) = _
        rw [keys_node]; simp
      · show vs ++ vals (.node k v h l.raw r.raw) = _
        rw [vals_node]; simp
    have HL : Hid (vs.length = ks.length) := hlen
    clear hin hid' hA hlen hsz e0 s1 s2 kl
    show Calls Try.prog 87 #[.pointer (some ⟨b, 0, none⟩), .func (.func 65) #[] #[.pointer (some ⟨X, 0, none⟩)]] w _
    go_enter Try.func87, Try.ntmps87
    go_wp2_with fail
    refine (each_any N0 X val okv l ks vs w HI.out.2.1 HD.out.2.1 HA.out HL.out HZ.out.1).mono ?_
    rintro e w1 ⟨rfl, hA1, hF1⟩
    have B1 := HI.out.1.fr hF1 (fun e => by have := HD.out.1; omega)
    have R1 := N.In.fr hF1 HI.out.2.2 (fun x hx e => by have := HD.out.2.2 x hx; omega)
    have c0 : w1.cell? ⟨b, 0, none⟩ = some (.int .i64 k) := B1.cell 0
    have c1 : w1.cell? ⟨b, 1, none⟩ = some (.int .i64 v) := B1.cell 1
    have H1 : Hid (Acc N0 X val okv (ks ++ keys l.raw) (vs ++ vals l.raw) w1 ∧ Fr (fun b => b = X ∨ N0 ≤ b) w w1 ∧ Blk w1 b #[.int .i64 k, .int .i64 v, .int .i64 h, l.ptr, r.ptr] 119 ∧ r.In w1) := ⟨hA1, hF1, B1, R1⟩
    clear hA1 hF1 B1 R1 c3
    go_wp2_with fail
    refine still_tail_drew 9 (by kernel_rfl) (by kernel_rfl) ?_
    simp only [List.take_succ_cons, List.take_zero, List.drop_succ_cons, List.drop_zero]
    repeat still_step
    refine wpStill_nil ?_
    go_wp2_with fail
    refine (avlDo1_any N0 X val okv (ks ++ keys l.raw) (vs ++ vals l.raw) k v w1.drew H1.out.1.drew HZ.out.2.1 HZ.out.2.2.1).mono ?_
    rintro e w2 ⟨rfl, hA2, hF2⟩
    have hF2' : Fr (fun b => b = X ∨ N0 ≤ b) w1 w2 := ⟨hF2.os, hF2.tape, hF2.output, hF2.size, hF2.block⟩
    have B2 := H1.out.2.2.1.fr hF2' (fun e => by have := HD.out.1; omega)
    have R2 := N.In.fr hF2' H1.out.2.2.2 (fun x hx e => by have := HD.out.2.2 x hx; omega)
    have c4 : w2.cell? ⟨b, 4, none⟩ = some r.ptr := B2.cell 4
    have H2 : Hid (Acc N0 X val okv (ks ++ keys l.raw ++ [k]) (vs ++ vals l.raw ++ [v]) w2 ∧ Fr (fun b => b = X ∨ N0 ≤ b) w w2 ∧ r.In w2) := ⟨hA2, H1.out.2.1.trans hF2' (fun _ _ e => e), R2⟩
    clear hA2 hF2 hF2' B2 R2 c0 c1
    go_wp2_with fail
    refine (each_any N0 X val okv r (ks ++ keys l.raw ++ [k]) (vs ++ vals l.raw ++ [v]) w2 H2.out.2.2 HD.out.2.2 H2.out.1 HZ.out.2.2.2.1 HZ.out.2.2.2.2).mono ?_
    rintro e w3 ⟨rfl, hA3, hF3⟩
    have H3 : Hid (Acc N0 X val okv (ks ++ keys l.raw ++ [k] ++ keys r.raw) (vs ++ vals l.raw ++ [v] ++ vals r.raw) w3 ∧ Fr (fun b => b = X ∨ N0 ≤ b) w w3) := ⟨hA3, H2.out.2.1.trans hF3 (fun _ _ e => e)⟩
    clear hA3 hF3
    go_wp2_with fail
    go_end0
    exact ⟨rfl, by rw [HR.out.1, HR.out.2]; exact H3.out.1, H3.out.2⟩
end Go.Proofs.Ytjlcebgfknfelaa.Avl

namespace Go.Proofs.Ytjlcebgfknfelaa.Avl
open Go Go.RowKit Go.Proofs.Ytjlcebgfknfelaa.Hk Go.Proofs.Ytjlcebgfknfelaa.AvlPure Go.Proofs.Ytjlcebgfknfelaa.Less Go.Proofs.Ytjlcebgfknfelaa.Row Go.Proofs.YtjlcebgfknfelaaW.PrintWords Go.Proofs.YtjlcebgfknfelaaW.PrintLast Go.Proofs.YtjlcebgfknfelaaW.PrintMore
/-- A tree in memory: its own variable at R. -/
structure Tree (base R : Nat) (tb : List Int) (t : N) (w : World) : Prop where
  blk : ∃ lv, Blk w R #[t.ptr, lv] 96 ∧ LessS base w lv tb
  ge : base ≤ R
  notin : R ∉ t.ids
  good : Good base w t
theorem In.kept {w w' : World} {t : N} (h : t.In w) (hk : ∀ b ∈ t.ids, w'.heap[b]? = w.heap[b]?) : t.In w' := by
  induction t with
  | nil => trivial
  | node b k v h' l r ihl ihr =>
    exact ⟨(hk b (by simp [N.ids])).trans h.1, ihl h.2.1 (fun x hx => hk x (by simp [N.ids, hx])), ihr h.2.2 (fun x hx => hk x (by simp [N.ids, hx]))⟩
theorem Tree.kept {base R : Nat} {tb : List Int} {t : N} {w w' : World} (h : Tree base R tb t w) (hb : Below base w w') (hR : w'.heap[R]? = w.heap[R]?) (hk : ∀ b ∈ t.ids, w'.heap[b]? = w.heap[b]?) : Tree base R tb t w' := by
  obtain ⟨⟨lv, B, L⟩, g, n, G⟩ := h
  exact ⟨⟨lv, hR.trans B, L.to hb⟩, g, n, ⟨In.kept G.mem hk, G.nodup, G.above, G.right, G.even⟩⟩
theorem Tree.lt {base R : Nat} {tb : List Int} {t : N} {w : World} (h : Tree base R tb t w) : R < w.heap.size ∧ ∀ b ∈ t.ids, b < w.heap.size := by
  obtain ⟨⟨lv, B, L⟩, g, n, G⟩ := h
  exact ⟨B.lt, fun b hb => N.In.lt G.mem b hb⟩
/-- Only what is new, or no block of the tree, has turned. -/
theorem Tree.below {base R : Nat} {tb : List Int} {t : N} {w w' : World} (h : Tree base R tb t w) (hb : Below w.heap.size w w') : Tree base R tb t w' :=
  h.kept (have hg := h.ge; have hl := h.lt.1; ⟨hb.os, hb.tape, hb.output, hb.size, fun k hk => hb.block k (by omega)⟩) (hb.block R h.lt.1) (fun b hx => hb.block b (h.lt.2 b hx))
/-- What is behind a call that turns the tree. -/
def Turned (base R : Nat) (tb : List Int) (t : N) (raw' : T) (w w' : World) : Prop :=
  ∃ t', Tree base R tb t' w' ∧ t'.raw = raw' ∧ Fr (fun b => b = R ∨ b ∈ t.ids) w w' ∧ ∀ b ∈ t'.ids, b ∈ t.ids ∨ w.heap.size ≤ b
theorem turned_of {base R : Nat} {tb : List Int} {t t' : N} {w w1 : World} {lv : Value} (hT : Tree base R tb t w) (hbl : Blk w R #[t.ptr, lv] 96) (hL : LessS base w lv tb) (hp : Put base t t' w w1)
    (hr : T.Right t'.raw) (he : T.Even t'.raw) : Blk w1 R #[t.ptr, lv] 96 ∧ Turned base R tb t t'.raw w (w1.setCell ⟨R, 0, none⟩ t'.ptr) := by
  have hB1 := hbl.fr hp.fr (fun h => hT.notin h)
  have hf : Fr (fun b => b = R ∨ b ∈ t.ids) w (w1.setCell ⟨R, 0, none⟩ t'.ptr) := (hp.fr.mono (fun k _ hk => .inr hk)).setCell (p := ⟨R, 0, none⟩) (fun _ => .inl rfl) _
  have hR' : R ∉ t'.ids := fun h => by
    rcases hp.ids R h with h | h
    · exact hT.notin h
    · have := hT.lt.1; omega
  have hge := hT.ge
  have hlt := hT.lt.1
  refine ⟨hB1, t', ⟨⟨lv, hB1.set 0 t'.ptr, hL.to (hf.below (by omega) (fun k hk => ?_))⟩, hT.ge, hR', ⟨?_, hp.nodup, fun b hb => ?_, hr, he⟩⟩, rfl, hf, hp.ids⟩
  · rcases hk with rfl | hk
    · exact hge
    · exact hT.good.above k hk
  · exact In.kept hp.mem (fun b hb => Below.heap_setCell _ _ _ _ (fun e => hR' (by have e' : b = R := e; subst e'; exact hb)))
  · rcases hp.ids b hb with h | h
    · exact hT.good.above b h
    · omega
set_option maxHeartbeats 4000000 in
set_option maxRecDepth 100000 in
theorem tPut_any (base R : Nat) (tb : List Int) (t : N) (key val : Int) (w : World) (hT : Tree base R tb t w) (ht : t.raw.tall ≤ 4294950000) :
    Calls Try.prog 60 #[.pointer (some ⟨R, 0, none⟩), .int .i64 key, .int .i64 val] w fun e w' => e = .returned (.tuple #[]) ∧ Turned base R tb t (T.ins (rankOf tb) key val t.raw) w w' := by
  obtain ⟨⟨lv, hB, hL⟩, g, n, G⟩ := hT
  have c0 : w.cell? ⟨R, 0, none⟩ = some t.ptr := hB.cell 0
  have c1 : w.cell? ⟨R, 1, none⟩ = some lv := hB.cell 1
  have hlt := hB.lt
  have HT : Hid (Tree base R tb t w) := ⟨⟨lv, hB, hL⟩, g, n, G⟩
  have HB : Hid (Blk w R #[t.ptr, lv] 96 ∧ LessS base w lv tb ∧ Good base w.drew t ∧ base ≤ w.drew.heap.size ∧ LessS base w.drew lv tb ∧ t.raw.tall ≤ 4294950000) := ⟨hB, hL, G.drew, Nat.le_of_lt (Nat.lt_of_le_of_lt g hlt), hL.drew, ht⟩
  clear hB hL g n G hlt ht
  obtain ⟨q, hq⟩ := t.ptr_some
  have HQ : Hid (t.ptr = .pointer q) := hq
  rw [hq] at c0
  clear hq
  go_enter Try.func60, Try.ntmps60
  refine wp_first_tail (.tmp 0) (some 6) 11 (by kernel_rfl) ⟨rfl, rfl, rfl⟩ (by kernel_rfl) (by kernel_rfl) (by kernel_rfl) (fun _ _ _ h => h) (by kernel_rfl) ?_
  simp only [tied, List.modify_succ_cons, List.modify_zero_cons, List.take_succ_cons, List.take_zero, List.drop_succ_cons, List.drop_zero]
  repeat still_step
  refine wpStill_nil ?_
  go_wp2_with fail
  rw [← HQ.out]
  refine (add_any base tb key val lv t w.drew HB.out.2.2.1 HB.out.2.2.2.2.2 HB.out.2.2.2.1 HB.out.2.2.2.2.1).mono ?_
  rintro e w1 ⟨t', rfl, hraw, hput⟩
  have hput' := hput.of_drew
  have hR := T.right_ins (rankOf tb) key val HB.out.2.2.1.right
  have hE := (T.even_ins (rankOf tb) key val HB.out.2.2.1.right HB.out.2.2.1.even).1
  have HE := hid (turned_of HT.out HB.out.1 HB.out.2.1 hput' (by rw [hraw]; exact hR) (by rw [hraw]; exact hE))
  have d0 : w1.cell? ⟨R, 0, none⟩ = some t.ptr := HE.out.1.cell 0
  have f0 : w1.frozen? ⟨R, 0, none⟩ = false := HE.out.1.free 0
  have HR := hid hraw
  obtain ⟨u, hu⟩ := t'.ptr_some
  rw [hu] at HE ⊢
  clear hraw hput hput' hR hE c0 c1
  go_wp2_with fail
  go_end0
  exact ⟨rfl, HR.out ▸ HE.out.2⟩
set_option maxHeartbeats 4000000 in
set_option maxRecDepth 100000 in
theorem tRemove_any (base R : Nat) (tb : List Int) (t : N) (key : Int) (w : World) (hT : Tree base R tb t w) (ht : t.raw.tall ≤ 4294950000) :
    Calls Try.prog 61 #[.pointer (some ⟨R, 0, none⟩), .int .i64 key] w fun e w' => e = .returned (.tuple #[]) ∧ Turned base R tb t (T.rem (rankOf tb) t.raw key) w w' := by
  obtain ⟨⟨lv, hB, hL⟩, g, n, G⟩ := hT
  have c0 : w.cell? ⟨R, 0, none⟩ = some t.ptr := hB.cell 0
  have c1 : w.cell? ⟨R, 1, none⟩ = some lv := hB.cell 1
  have hlt := hB.lt
  have HT : Hid (Tree base R tb t w) := ⟨⟨lv, hB, hL⟩, g, n, G⟩
  have HB : Hid (Blk w R #[t.ptr, lv] 96 ∧ LessS base w lv tb ∧ Good base w.drew t ∧ base ≤ w.drew.heap.size ∧ LessS base w.drew lv tb ∧ t.raw.tall ≤ 4294950000) := ⟨hB, hL, G.drew, Nat.le_of_lt (Nat.lt_of_le_of_lt g hlt), hL.drew, ht⟩
  clear hB hL g n G hlt ht
  obtain ⟨q, hq⟩ := t.ptr_some
  have HQ : Hid (t.ptr = .pointer q) := hq
  rw [hq] at c0
  clear hq
  go_enter Try.func61, Try.ntmps61
  refine wp_first_tail (.tmp 0) (some 4) 10 (by kernel_rfl) ⟨rfl, rfl, rfl⟩ (by kernel_rfl) (by kernel_rfl) (by kernel_rfl) (fun _ _ _ h => h) (by kernel_rfl) ?_
  simp only [tied, List.modify_succ_cons, List.modify_zero_cons, List.take_succ_cons, List.take_zero, List.drop_succ_cons, List.drop_zero]
  repeat still_step
  refine wpStill_nil ?_
  go_wp2_with fail
  rw [← HQ.out]
  refine (remove_any base tb lv t key w.drew HB.out.2.2.1 HB.out.2.2.2.2.2 HB.out.2.2.2.1 HB.out.2.2.2.2.1).mono ?_
  rintro e w1 ⟨t', rfl, hraw, hput⟩
  have hput' := hput.of_drew
  have hR := T.right_rem (rankOf tb) key HB.out.2.2.1.right HB.out.2.2.1.even
  have hE := (T.even_rem (rankOf tb) key HB.out.2.2.1.right HB.out.2.2.1.even).1
  have HE := hid (turned_of HT.out HB.out.1 HB.out.2.1 hput' (by rw [hraw]; exact hR) (by rw [hraw]; exact hE))
  have d0 : w1.cell? ⟨R, 0, none⟩ = some t.ptr := HE.out.1.cell 0
  have f0 : w1.frozen? ⟨R, 0, none⟩ = false := HE.out.1.free 0
  have HR := hid hraw
  obtain ⟨u, hu⟩ := t'.ptr_some
  rw [hu] at HE ⊢
  clear hraw hput hput' hR hE c0 c1
  go_wp2_with fail
  go_end0
  exact ⟨rfl, HR.out ▸ HE.out.2⟩
/-- What Get tells. -/
def got (tb : List Int) (t : T) (key : Int) : Int × Bool := match T.find (rankOf tb) key t with | none => (0, false) | some p => (p.2, true)
set_option maxHeartbeats 4000000 in
set_option maxRecDepth 100000 in
theorem tGet_any (base R : Nat) (tb : List Int) (t : N) (key : Int) (w : World) (hT : Tree base R tb t w) :
    Calls Try.prog 62 #[.pointer (some ⟨R, 0, none⟩), .int .i64 key] w fun e w' => e = .returned (.tuple #[.int .i64 (got tb t.raw key).1, .bool (got tb t.raw key).2]) ∧ ∃ n, w' = w.drewN n := by
  obtain ⟨⟨lv, hB, hL⟩, g, n, G⟩ := hT
  have c0 : w.cell? ⟨R, 0, none⟩ = some t.ptr := hB.cell 0
  have c1 : w.cell? ⟨R, 1, none⟩ = some lv := hB.cell 1
  have HB : Hid (t.In w.drew ∧ LessS base w.drew lv tb) := ⟨G.mem.drew, hL.drew⟩
  have HF : Hid (T.find (rankOf tb) key t.raw = match N.sub (rankOf tb) key t with | .nil => none | .node _ k v _ _ _ => some (k, v)) := sub_find (rankOf tb) key t
  clear hB hL g n G
  obtain ⟨q, hq⟩ := t.ptr_some
  have HQ : Hid (t.ptr = .pointer q) := hq
  rw [hq] at c0
  clear hq
  go_enter Try.func62, Try.ntmps62
  go_wp2_with fail
  refine still_tail_drew 9 (by kernel_rfl) (by kernel_rfl) ?_
  simp only [List.take_succ_cons, List.take_zero, List.drop_succ_cons, List.drop_zero]
  repeat still_step
  refine wpStill_nil ?_
  go_wp2_with fail
  rw [← HQ.out]
  refine (search_any base tb key lv t w.drew HB.out.1 HB.out.2).mono ?_
  rintro e w1 ⟨rfl, m, rfl⟩
  have HI := hid (sub_in (t := t) (rankOf tb) key HB.out.1)
  generalize N.sub (rankOf tb) key t = s at HI HF ⊢
  cases s with
  | nil =>
    have HG : Hid (got tb t.raw key = (0, false)) := by
      show got tb t.raw key = _
      unfold got
      rw [HF.out]
    clear HF
    rw [show (N.nil).ptr = .pointer none from rfl]
    go_wp2_with fail
    go_ret2
    exact ⟨by rw [HG.out]; rfl, _, rfl⟩
  | node b k v h l r =>
    have HG : Hid (got tb t.raw key = (v, true)) := by
      show got tb t.raw key = _
      unfold got
      rw [HF.out]
    have k1 : w.cell? ⟨b, 1, none⟩ = some (.int .i64 v) := HI.out.1.cell 1
    clear HF
    rw [show (N.node b k v h l r).ptr = .pointer (some ⟨b, 0, none⟩) from rfl]
    go_wp2_with fail
    go_ret2
    exact ⟨by rw [HG.out]; rfl, _, rfl⟩
set_option maxHeartbeats 4000000 in
set_option maxRecDepth 100000 in
theorem tSize_any (base R : Nat) (tb : List Int) (t : N) (w : World) (hT : Tree base R tb t w) (hs : t.raw.size ≤ 4611686018427387) :
    Calls Try.prog 63 #[.pointer (some ⟨R, 0, none⟩)] w fun e w' => e = .returned (.int .i64 t.raw.size) ∧ ∃ n, w' = w.drewN n := by
  obtain ⟨⟨lv, hB, hL⟩, g, n, G⟩ := hT
  have c0 : w.cell? ⟨R, 0, none⟩ = some t.ptr := hB.cell 0
  have HB : Hid (t.In w ∧ t.raw.size ≤ 4611686018427387) := ⟨G.mem, hs⟩
  clear hB hL g n G hs
  obtain ⟨q, hq⟩ := t.ptr_some
  have HQ : Hid (t.ptr = .pointer q) := hq
  rw [hq] at c0
  clear hq
  go_enter Try.func63, Try.ntmps63
  go_wp2_with fail
  rw [← HQ.out]
  refine (size_any t _ HB.out.1 HB.out.2).mono ?_
  rintro e w1 ⟨rfl, m, rfl⟩
  go_wp2_with fail
  go_ret
  exact ⟨rfl, m, rfl⟩
set_option maxHeartbeats 4000000 in
set_option maxRecDepth 100000 in
theorem tHeight_any (base R : Nat) (tb : List Int) (t : N) (w : World) (hT : Tree base R tb t w) :
    Calls Try.prog 66 #[.pointer (some ⟨R, 0, none⟩)] w fun e w' => e = .returned (.int .i64 t.raw.ht) ∧ w' = w := by
  obtain ⟨⟨lv, hB, hL⟩, g, n, G⟩ := hT
  have c0 : w.cell? ⟨R, 0, none⟩ = some t.ptr := hB.cell 0
  have HB : Hid (t.In w) := G.mem
  clear hB hL g n G
  obtain ⟨q, hq⟩ := t.ptr_some
  have HQ : Hid (t.ptr = .pointer q) := hq
  rw [hq] at c0
  clear hq
  go_enter Try.func66, Try.ntmps66
  go_wp2_with fail
  rw [← HQ.out]
  refine (getHeight_any t _ HB.out).mono ?_
  rintro e w1 ⟨rfl, rfl⟩
  go_wp2_with fail
  go_ret
  exact ⟨rfl, rfl⟩
set_option maxHeartbeats 4000000 in
set_option maxRecDepth 100000 in
theorem tEach_any (base R : Nat) (tb : List Int) (t : N) (N0 X : Nat) (val : Int) (okv : Bool) (w : World) (hT : Tree base R tb t w) (hid' : ∀ b ∈ t.ids, b < N0 ∧ b ≠ X) (hA : Acc N0 X val okv [] [] w) (hs : t.raw.size ≤ 1099511627776) :
    Calls Try.prog 64 #[.pointer (some ⟨R, 0, none⟩), cloV X] w fun e w' => e = .returned (.tuple #[]) ∧ Acc N0 X val okv (keys t.raw) (vals t.raw) w' ∧ Fr (fun b => b = X ∨ N0 ≤ b) w w' := by
  obtain ⟨⟨lv, hB, hL⟩, g, n, G⟩ := hT
  have c0 : w.cell? ⟨R, 0, none⟩ = some t.ptr := hB.cell 0
  have HB : Hid (t.In w ∧ (∀ b ∈ t.ids, b < N0 ∧ b ≠ X) ∧ Acc N0 X val okv [] [] w ∧ ((([] : List Int).length : Int)) + t.raw.size ≤ 1099511627776) := ⟨G.mem, hid', hA, by simpa using hs⟩
  clear hB hL g n G hid' hA hs
  obtain ⟨q, hq⟩ := t.ptr_some
  have HQ : Hid (t.ptr = .pointer q) := hq
  rw [hq] at c0
  clear hq
  show Calls Try.prog 64 #[.pointer (some ⟨R, 0, none⟩), .func (.func 65) #[] #[.pointer (some ⟨X, 0, none⟩)]] w _
  go_enter Try.func64, Try.ntmps64
  go_wp2_with fail
  rw [← HQ.out]
  refine (each_any N0 X val okv t [] [] w HB.out.1 HB.out.2.1 HB.out.2.2.1 rfl HB.out.2.2.2).mono ?_
  rintro e w1 ⟨rfl, hA, hF⟩
  have H := hid hA
  have H2 := hid hF
  clear hA hF
  go_wp2_with fail
  go_end0
  exact ⟨rfl, H.out, H2.out⟩
theorem less_any (A : Option Addr) (c : Nat) (tb : List Int) (w : World) (hC : Kd.C (Kd.int .i64) w A tb.length tb) (hn : tb.length ≤ 140737488351232) :
    Calls Try.prog 47 #[.slice A tb.length c] w fun e w' => ∃ lv, e = .returned lv ∧ w' = w.alloc (.cells #[.slice A tb.length c] 24) ∧ LessS w'.heap.size w' lv tb := by
  have HC : Hid (Kd.C (Kd.int .i64) w A tb.length tb ∧ tb.length ≤ 140737488351232) := ⟨hC, hn⟩
  clear hC hn
  go_enter Try.func47, Try.ntmps47
  go_wp2_with fail
  go_ret
  exact ⟨_, rfl, rfl, LessS.of ⟨HC.out.2, w.heap.size, A, c, rfl, Blk.new w _ _, Kd.C_alloc HC.out.1 _⟩⟩
theorem New_any (base : Nat) (tb : List Int) (lv : Value) (w : World) (hL : LessS base w lv tb) (hb : base ≤ w.heap.size) :
    Calls Try.prog 46 #[lv] w fun e w' => ∃ R, e = .returned (.pointer (some ⟨R, 0, none⟩)) ∧ Tree base R tb .nil w' ∧ Below w.heap.size w w' := by
  obtain ⟨_, B, A, c, rfl, _, _⟩ := hL.now
  have HL : Hid (LessS base w (.func (.func 67) #[] #[.pointer (some ⟨B, 0, none⟩)]) tb) := hL
  clear hL
  go_enter Try.func46, Try.ntmps46
  go_wp2_with fail
  go_ret
  exact ⟨w.heap.size, rfl, ⟨⟨_, Blk.new w _ _, HL.out.to ((Below.refl _ _).alloc hb _)⟩, hb, by simp [N.ids], ⟨trivial, List.nodup_nil, fun b h => by simp [N.ids] at h, trivial, trivial⟩⟩, (Below.refl _ _).alloc (Nat.le_refl _) _⟩
end Go.Proofs.Ytjlcebgfknfelaa.Avl

namespace Go.Proofs.Ytjlcebgfknfelaa.AvlPure
namespace T
theorem size_reb (t : T) : size (reb t) = size t := by rw [size_list, size_list, list_reb]
theorem size_ins (rk : Int → Int) (key val : Int) : ∀ t : T, size (ins rk key val t) ≤ size t + 1
  | nil => by simp [ins, size]
  | node k v h l r => by
    have hl := size_ins rk key val l
    have hr := size_ins rk key val r
    unfold ins
    split
    · rw [size_reb]; simp only [size]; omega
    · split
      · rw [size_reb]; simp only [size]; omega
      · rw [size_reb]; simp only [size]; omega
theorem size_rem (rk : Int → Int) : ∀ (t : T) (key : Int), size (rem rk t key) ≤ size t
  | nil, _ => by simp [rem]
  | node k v h l r, key => by
    have hl := size_rem rk l key
    have hr := size_rem rk r key
    have hr2 := size_rem rk r (least r).1
    have sl := size_nonneg l
    have sr := size_nonneg r
    unfold rem
    split
    · rw [size_reb]; simp only [size]; omega
    · split
      · rw [size_reb]; simp only [size]; omega
      · split
        · split
          · simp only [size]; omega
          · rw [size_reb]; simp only [size]; omega
        · split
          · rw [size_reb]; simp only [size]; omega
          · rw [size_reb]; simp only [size]; omega
/-- A balanced tree of twice as_ many levels has more nodes than that power of two. -/
theorem even_size : ∀ (n : Nat) {t : T}, Even t → 2 * (n : Int) ≤ tall t → (2 : Int) ^ n ≤ size t + 1
  | 0, t, _, _ => by have := size_nonneg t; simp; omega
  | n + 1, nil, _, h => by simp [tall] at h; omega
  | n + 1, node k v h' l r, he, h => by
    obtain ⟨h1, h2, h3, h4⟩ := he
    have e1 : tall (node k v h' l r) = 1 + max (tall l) (tall r) := rfl
    have e2 : size (node k v h' l r) = 1 + size l + size r := rfl
    rw [e1] at h
    have a1 := even_size n h3 (by omega)
    have a2 := even_size n h4 (by omega)
    rw [e2, Int.pow_succ]
    omega
theorem even_low {t : T} (he : Even t) (hs : size t ≤ 1099511627776) : tall t ≤ 100 := by
  rcases Int.lt_or_le (tall t) 82 with h | h
  · omega
  · have := even_size 41 he (by omega)
    have e : (2 : Int) ^ 41 = 2199023255552 := by decide
    omega
end T
end Go.Proofs.Ytjlcebgfknfelaa.AvlPure

namespace Go.Proofs.Ytjlcebgfknfelaa.Avl
open Go Go.RowKit Go.Proofs.Ytjlcebgfknfelaa.Hk Go.Proofs.Ytjlcebgfknfelaa.AvlPure Go.Proofs.Ytjlcebgfknfelaa.Less Go.Proofs.Ytjlcebgfknfelaa.Row Go.Proofs.YtjlcebgfknfelaaW.PrintWords Go.Proofs.YtjlcebgfknfelaaW.PrintLast Go.Proofs.YtjlcebgfknfelaaW.PrintMore
abbrev Act3 := Int × Int × Int
abbrev Told4 := Int × Bool × List Int × List Int
def actK : Kd Act3 := Kd.pair (Kd.int .i64) (Kd.pair (Kd.int .i64) (Kd.int .i64))
def toldK : Kd Told4 := Kd.pair (Kd.int .i64) (Kd.pair Kd.bool (Kd.pair (Kd.slice 3 (Kd.int .i64)) (Kd.slice 3 (Kd.int .i64))))
def stepT (tb : List Int) (t : T) (a : Act3) : T := if a.1 = 0 then T.ins (rankOf tb) a.2.1 a.2.2 t else if a.1 = 1 then T.rem (rankOf tb) t a.2.1 else t
def tellT (tb : List Int) (t : T) (a : Act3) : Told4 :=
  if a.1 = 2 then ((got tb t a.2.1).1, (got tb t a.2.1).2, [], []) else if a.1 = 3 then (t.size, false, [], []) else if a.1 = 4 then (0, false, keys t, vals t) else if a.1 = 5 then (t.ht, false, [], []) else (0, false, [], [])
def runT (tb : List Int) : T → List Act3 → T
  | t, [] => t
  | t, a :: l => runT tb (stepT tb t a) l
def toldT (tb : List Int) : T → List Act3 → List Told4
  | _, [] => []
  | t, a :: l => tellT tb t a :: toldT tb (stepT tb t a) l
theorem toldT_length (tb : List Int) : ∀ (l : List Act3) (t : T), (toldT tb t l).length = l.length
  | [], _ => rfl
  | a :: l, t => by simp [toldT, toldT_length tb l]
theorem at_act {w : World} {A : Option Addr} {n : Nat} {xs : List Act3} (h : Kd.C actK w A n xs) (i : Nat) (hi : i < xs.length) : ∃ ad, A = some ad ∧ w.cell? (ad.add (i * 3)) = some (.int .i64 xs[i].1) ∧
    w.cell? ⟨(ad.add (i * 3)).block, (ad.add (i * 3)).off + 1, none⟩ = some (.int .i64 xs[i].2.1) ∧ w.cell? ⟨(ad.add (i * 3)).block, (ad.add (i * 3)).off + 2, none⟩ = some (.int .i64 xs[i].2.2) := by
  have hn := h.1
  obtain ⟨ad, c, e, _, hK, hc0⟩ := Kd.C_get h ((0, 0, 0) : Act3) i (by omega) (by omega)
  have hx : xs.getD (i : Int).toNat (0, 0, 0) = xs[i] := by simp [List.getD_eq_getElem?_getD, hi]
  rw [hx] at hK
  have hc : ∀ j u, c[j]? = some u → w.cell? (ad.add (i * 3 + j)) = some u := hc0
  obtain ⟨c0, c1, rfl, h0, d0, d1, rfl, h1, h2⟩ := hK
  cases h0; cases h1; cases h2
  exact ⟨ad, e, hc 0 _ rfl, by rw [← add_field _ _ 1 (by omega)]; exact hc 1 _ rfl, by rw [← add_field _ _ 2 (by omega)]; exact hc 2 _ rfl⟩
theorem infoTold : (Try.prog.info? 46).map (fun i => (i.zero, i.size, i.bytes)) = some (some (.agg #[(.int .i64 0), (.bool false), (.slice none 0 0), (.slice none 0 0)]), 4, 64) := by kernel_rfl
/-- What holds between the steps of a script that began at w with the tree t0. -/
structure Inv (base R : Nat) (tb : List Int) (t0 : N) (w : World) (t : N) (out : Value) (rs : List Told4) (wr : World) : Prop where
  tree : Tree base R tb t wr
  ids : ∀ b ∈ t.ids, b ∈ t0.ids ∨ w.heap.size ≤ b
  row : Kd.S toldK 46 wr w.heap.size (fun b => b ≠ R ∧ b ∉ t.ids) out rs
  fr : Fr (fun b => b = R ∨ b ∈ t0.ids) w wr
section
variable {base R : Nat} {tb : List Int} {t0 t : N} {w wr W w' w1 : World} {out : Value} {rs : List Told4}
theorem Inv.below (h : Inv base R tb t0 w t out rs wr) (hb : Below wr.heap.size wr w') : Inv base R tb t0 w t out rs w' :=
  ⟨h.tree.below hb, h.ids, Kd.S_below h.row hb, h.fr.trans (S' := fun _ => False) ⟨hb.os, hb.tape, hb.output, hb.size, fun k hk _ => hb.block k hk⟩ (fun _ _ h => h.elim)⟩
theorem Inv.turned (h : Inv base R tb t0 w t out rs W) {raw' : T} (hT : Turned base R tb t raw' W w') : ∃ t', t'.raw = raw' ∧ Inv base R tb t0 w t' out rs w' := by
  obtain ⟨t', a1, a2, a3, a4⟩ := hT
  refine ⟨t', a2, a1, fun b hb => ?_, ?_, h.fr.trans a3 (fun n hn hk => ?_)⟩
  · rcases a4 b hb with h1 | h1
    · exact h.ids b h1
    · exact .inr (Nat.le_trans h.fr.size h1)
  · refine Kd.S_mono (Kd.S_step (Kd.S_bound h.row) (fun k hk hlt => a3.block k hlt (fun e => ?_))) (fun k hk => ⟨hk.1.1, fun hb => ?_⟩)
    · rcases e with e | e
      · exact hk.1.1 e
      · exact hk.1.2 e
    · rcases a4 k hb with h1 | h1
      · exact hk.1.2 h1
      · have := hk.2.2.1; omega
  · rcases hk with hk | hk
    · exact .inl hk
    · rcases h.ids n hk with h1 | h1
      · exact .inr h1
      · omega
/-- Behind the append of what a step tells. -/
theorem Inv.append (h : Inv base R tb t0 w t out rs W) (hb : base ≤ w.heap.size) {v1 : Value} {p : Told4} (hR : Kd.S toldK 46 w1 w.heap.size (fun b => b ≠ R ∧ b ∉ t.ids) v1 (rs ++ [p])) (hg : W.grownBy w1 out.ownBlock) :
    Inv base R tb t0 w t v1 (rs ++ [p]) w1 := by
  obtain ⟨_, inner, ho, _⟩ := Kd.S_R h.row
  have hlo : ∀ k, out.ownBlock = some k → w.heap.size ≤ k := fun k hk => (ho.lt k hk).1
  refine ⟨h.tree.kept ⟨hg.os, hg.tape, hg.output, hg.size, fun k hk => ?_⟩ (hg.block R h.tree.lt.1 (fun e => ((Kd.S_R h.row).1 R e.symm).1 rfl)) (fun b hx => hg.block b (h.tree.lt.2 b hx) (fun e => ((Kd.S_R h.row).1 b e.symm).2 hx)), h.ids, hR, grown_fr h.fr hg (fun k hk hlt => ?_)⟩
  · have hRs := h.tree.lt.1
    have hge := h.tree.ge
    exact hg.block k (by omega) (fun e => by have := hlo k e.symm; omega)
  · have := hlo k hk; omega
end
/-- What a step tells, made of cells: no rows. -/
theorem told_flat (W : World) (base : Nat) (v : Int) (b : Bool) : toldK.M W base (fun _ => False) (v, b, [], []) [.int .i64 v, .bool b, .slice none 0 0, .slice none 0 0] :=
  ⟨[_], [_, _, _], rfl, rfl, [_], [_, _], rfl, rfl, [_], [_], rfl, ⟨_, rfl, Kd.R_nil ..⟩, ⟨_, rfl, Kd.R_nil ..⟩⟩
theorem told_rows {W : World} {base N0 : Nat} {K V : Value} {ks vs : List Int} {ok : Nat → Prop} (hb : base ≤ N0) (hK : (Kd.int .i64).R 3 W N0 ok K ks) {ok' : Nat → Prop} (hV : (Kd.int .i64).R 3 W N0 ok' V vs) (v : Int) (b : Bool) :
    toldK.M W base (fun k => N0 ≤ k) (v, b, ks, vs) [.int .i64 v, .bool b, K, V] :=
  ⟨[_], [_, _, _], rfl, rfl, [_], [_, _], rfl, rfl, [_], [_], rfl, ⟨_, rfl, Kd.R_lower (Kd.R_reok rfl hK (fun k hk => (own_ge hK k hk).1)) hb⟩, ⟨_, rfl, Kd.R_lower (Kd.R_reok rfl hV (fun k hk => (own_ge hV k hk).1)) hb⟩⟩
set_option maxHeartbeats 8000000 in
set_option maxRecDepth 100000 in
theorem avlDo_any (base R : Nat) (tb : List Int) (t0 : N) (w : World) (A : Option Addr) (c : Nat) (l : List Act3) (hT : Tree base R tb t0 w) (hb : base ≤ w.heap.size) (hC : ∀ W, Below base w W → Kd.C actK W A l.length l)
    (hs : t0.raw.size + l.length ≤ 1099511627776) (hl : l.length ≤ 2147483647) :
    Calls Try.prog 45 #[.pointer (some ⟨R, 0, none⟩), .slice A l.length c] w fun e w' => ∃ t' v, e = .returned v ∧ t'.raw = runT tb t0.raw l ∧ Inv base R tb t0 w t' v (toldT tb t0.raw l) w' := by
  have HC : Hid (∀ W, Below base w W → Kd.C actK W A l.length l) := hC
  have HT : Hid (Tree base R tb t0 w) := hT
  have HB : Hid (base ≤ w.heap.size) := hb
  clear hC hT hb
  go_enter Try.func45, Try.ntmps45
  go_wp2_with fail
  go_loopg [5, 11] l.length (fun g v5 v11 wr => ∃ (i : Nat) (t : N) (rs : List Told4), v11 = .int .i64 i ∧ i ≤ l.length ∧ Hid (g + i = l.length) ∧ Hid (Inv base R tb t0 w t v5 rs wr ∧ rs.length = i ∧ rs ++ toldT tb t.raw (l.drop i) = toldT tb t0.raw l ∧ runT tb t.raw (l.drop i) = runT tb t0.raw l ∧ t.raw.size + ((l.length : Int) - i) ≤ 1099511627776))
  case atStart => exact ⟨0, t0, [], rfl, Nat.zero_le _, Nat.add_zero _, ⟨HT.out, fun b hb => .inl hb, Kd.S_nil .., Fr.refl _ _⟩, rfl, rfl, rfl, by simpa using hs⟩
  case round =>
    obtain ⟨i, t, rs, rfl, hi, HG, HI⟩ := hrel
    by_cases hlt : i < l.length
    · obtain ⟨ad, rfl, x0, x1, x2⟩ := at_act (HC.out wr (by
        have h := HI.out.1.fr
        have hg := HT.out.ge
        exact h.below HB.out (fun k hk => by
          rcases hk with rfl | hk
          · exact hg
          · exact HT.out.good.above k hk))) i hlt
      have HX : Hid (l.drop i = l[i] :: l.drop (i + 1)) := List.drop_eq_getElem_cons hlt
      generalize l[i] = x at x0 x1 x2 HX
      obtain ⟨d, k, v⟩ := x
      simp only at x0 x1 x2
      have HL := hid hlt
      have HW := hid (HI.out.1.below (((Below.refl _ _).alloc (Nat.le_refl _) (.cells #[.int .i64 d, .int .i64 k, .int .i64 v] 66)).alloc (by rw [alloc_size]; exact Nat.le_succ _) (.cells #[.int .i64 0, .bool false, .slice none 0 0, .slice none 0 0] 46)))
      have HLT := hid HI.out.1.tree.lt
      have HZ := hid HI.out.2
      obtain ⟨k1, rfl⟩ : ∃ k1, gk = k1 + 1 := ⟨gk - 1, by have := HG.out; omega⟩
      have hE := T.even_low HI.out.1.tree.good.even (by have := HZ.out.2.2.2; omega)
      have HEV : Hid (t.raw.tall ≤ 100) := hE
      have HXN : Hid (wr.heap.size + 1 ≠ R ∧ wr.heap.size + 1 ∉ t.ids) := ⟨by have := HLT.out.1; omega, fun h => by have := HLT.out.2 _ h; omega⟩
      clear hE hlt
      by_cases h0 : d = 0
      · subst h0
        go_wp2_with fail
        refine (tPut_any base R tb t k v _ HW.out.tree (by have := HEV.out; omega)).mono ?_
        rintro e w2 ⟨rfl, hT⟩
        obtain ⟨t', hraw, hI⟩ := HW.out.turned hT
        have hX : Blk w2 (wr.heap.size + 1) #[.int .i64 0, .bool false, .slice none 0 0, .slice none 0 0] 46 := by
          have h0_ := (Blk.new (wr.alloc (.cells #[.int .i64 0, .int .i64 k, .int .i64 v] 66)) #[.int .i64 0, .bool false, .slice none 0 0, .slice none 0 0] 46)
          rw [alloc_size] at h0_
          obtain ⟨_, _, _, a3, _⟩ := hT
          exact h0_.fr a3 (fun e => e.elim HXN.out.1 HXN.out.2)
        have e0 : w2.cell? ⟨wr.heap.size + 1, 0, none⟩ = some ((.int .i64 0)) := hX.cell 0
        have e1 : w2.cell? ⟨wr.heap.size + 1, 1, none⟩ = some ((.bool false)) := hX.cell 1
        have e2 : w2.cell? ⟨wr.heap.size + 1, 2, none⟩ = some ((.slice none 0 0)) := hX.cell 2
        have e3 : w2.cell? ⟨wr.heap.size + 1, 3, none⟩ = some ((.slice none 0 0)) := hX.cell 3
        have H2 := hid hI
        have HR := hid hraw
        clear hT hI hraw hX x0 x1 x2
        go_wp2_with (first | (at_builtin; refine Kd.S_append toldK (w0 := w2) (W := w2) w.heap.size rfl (.tmp 57) (.tmp 59) 43 46 (.agg #[(.int .i64 0), (.bool false), (.slice none 0 0), (.slice none 0 0)]) 64 rfl Try.underlying43 infoTold rfl (by decide) (by omega) u5 rs (0, false, [], []) [(.int .i64 0), (.bool false), (.slice none 0 0), (.slice none 0 0)] (fun b => b ≠ R ∧ b ∉ t'.ids) (fun _ => False) rfl rfl (told_flat _ _ _ _) (fun _ hk => hk.elim) ?aF ?aO ?aB ?aS ?aL ?_; (case aF => exact fun k_ hk => by have h1 := H2.out.tree.lt; exact ⟨by omega, fun hb_ => by have := h1.2 _ hb_; omega⟩); (case aO => exact (Kd.S_mono H2.out.row (fun k_ hk => ⟨hk, fun h => h⟩))); (case aB => exact (Below.refl _ _)); (case aS => exact H2.out.fr.size); (case aL => have h1 := HZ.out.1; have h2 := HL.out; omega); intro v1 w3 ho hb hg hat))
        have HE := hid (H2.out.append HB.out ho hg)
        clear ho hb hg hat
        clear e0 e1 e2 e3
        go_wp2_with fail
        go_roundg k1
        case measure => omega
        case rel => exact ⟨i + 1, t', rs ++ [(0, false, [], [])], rfl, HL.out, by have := HG.out; show k1 + (i + 1) = _; omega, HE.out, by rw [List.length_append, HZ.out.1]; rfl, by rw [← HZ.out.2.1, HX.out, List.append_assoc]; rw [HR.out]; rfl, by rw [← HZ.out.2.2.1, HX.out]; rw [HR.out]; rfl, by rw [HR.out]; have h1 := T.size_ins (rankOf tb) k v t.raw; have := HZ.out.2.2.2; omega⟩
      · by_cases h1 : d = 1
        · subst h1
          go_wp2_with fail
          refine (tRemove_any base R tb t k _ HW.out.tree (by have := HEV.out; omega)).mono ?_
          rintro e w2 ⟨rfl, hT⟩
          obtain ⟨t', hraw, hI⟩ := HW.out.turned hT
          have hX : Blk w2 (wr.heap.size + 1) #[.int .i64 0, .bool false, .slice none 0 0, .slice none 0 0] 46 := by
            have h0_ := (Blk.new (wr.alloc (.cells #[.int .i64 1, .int .i64 k, .int .i64 v] 66)) #[.int .i64 0, .bool false, .slice none 0 0, .slice none 0 0] 46)
            rw [alloc_size] at h0_
            obtain ⟨_, _, _, a3, _⟩ := hT
            exact h0_.fr a3 (fun e => e.elim HXN.out.1 HXN.out.2)
          have e0 : w2.cell? ⟨wr.heap.size + 1, 0, none⟩ = some ((.int .i64 0)) := hX.cell 0
          have e1 : w2.cell? ⟨wr.heap.size + 1, 1, none⟩ = some ((.bool false)) := hX.cell 1
          have e2 : w2.cell? ⟨wr.heap.size + 1, 2, none⟩ = some ((.slice none 0 0)) := hX.cell 2
          have e3 : w2.cell? ⟨wr.heap.size + 1, 3, none⟩ = some ((.slice none 0 0)) := hX.cell 3
          have H2 := hid hI
          have HR := hid hraw
          clear hT hI hraw hX x0 x1 x2
          go_wp2_with (first | (at_builtin; refine Kd.S_append toldK (w0 := w2) (W := w2) w.heap.size rfl (.tmp 57) (.tmp 59) 43 46 (.agg #[(.int .i64 0), (.bool false), (.slice none 0 0), (.slice none 0 0)]) 64 rfl Try.underlying43 infoTold rfl (by decide) (by omega) u5 rs (0, false, [], []) [(.int .i64 0), (.bool false), (.slice none 0 0), (.slice none 0 0)] (fun b => b ≠ R ∧ b ∉ t'.ids) (fun _ => False) rfl rfl (told_flat _ _ _ _) (fun _ hk => hk.elim) ?aF ?aO ?aB ?aS ?aL ?_; (case aF => exact fun k_ hk => by have h1 := H2.out.tree.lt; exact ⟨by omega, fun hb_ => by have := h1.2 _ hb_; omega⟩); (case aO => exact (Kd.S_mono H2.out.row (fun k_ hk => ⟨hk, fun h => h⟩))); (case aB => exact (Below.refl _ _)); (case aS => exact H2.out.fr.size); (case aL => have h1 := HZ.out.1; have h2 := HL.out; omega); intro v1 w3 ho hb hg hat))
          have HE := hid (H2.out.append HB.out ho hg)
          clear ho hb hg hat
          clear e0 e1 e2 e3
          go_wp2_with fail
          go_roundg k1
          case measure => omega
          case rel => exact ⟨i + 1, t', rs ++ [(0, false, [], [])], rfl, HL.out, by have := HG.out; show k1 + (i + 1) = _; omega, HE.out, by rw [List.length_append, HZ.out.1]; rfl, by rw [← HZ.out.2.1, HX.out, List.append_assoc]; rw [HR.out]; rfl, by rw [← HZ.out.2.2.1, HX.out]; rw [HR.out]; rfl, by rw [HR.out]; have h1 := T.size_rem (rankOf tb) t.raw k; have := HZ.out.2.2.2; omega⟩
        · by_cases h2 : d = 2
          · subst h2
            go_wp2_with fail
            refine (tGet_any base R tb t k _ HW.out.tree).mono ?_
            rintro e w2 ⟨rfl, m, rfl⟩
            have hB2 : Below wr.heap.size wr (((wr.alloc (.cells #[.int .i64 2, .int .i64 k, .int .i64 v] 66)).alloc (.cells #[.int .i64 0, .bool false, .slice none 0 0, .slice none 0 0] 46)).drewN m) := (pw_below_drewN (((Below.refl _ _).alloc (Nat.le_refl _) _).alloc (by rw [alloc_size]; exact Nat.le_succ _) _) m)
            have hX0 : Blk (((wr.alloc (.cells #[.int .i64 2, .int .i64 k, .int .i64 v] 66)).alloc (.cells #[.int .i64 0, .bool false, .slice none 0 0, .slice none 0 0] 46)).drewN m) (wr.heap.size + 1) #[(.int .i64 0), (.bool false), (.slice none 0 0), (.slice none 0 0)] 46 := by
              have h0_ := (Blk.new (wr.alloc (.cells #[.int .i64 2, .int .i64 k, .int .i64 v] 66)) #[.int .i64 0, .bool false, .slice none 0 0, .slice none 0 0] 46)
              rw [alloc_size] at h0_
              exact h0_
            generalize ((wr.alloc (.cells #[.int .i64 2, .int .i64 k, .int .i64 v] 66)).alloc (.cells #[.int .i64 0, .bool false, .slice none 0 0, .slice none 0 0] 46)).drewN m = W2 at hB2 hX0 ⊢
            have g0 : W2.cell? ⟨wr.heap.size + 1, 0, none⟩ = some (.int .i64 0) := hX0.cell 0
            have f0 : W2.frozen? ⟨wr.heap.size + 1, 0, none⟩ = false := hX0.free 0
            have g1 : W2.cell? ⟨wr.heap.size + 1, 1, none⟩ = some (.bool false) := hX0.cell 1
            have f1 : W2.frozen? ⟨wr.heap.size + 1, 1, none⟩ = false := hX0.free 1
            have HQ : Hid (Blk W2 (wr.heap.size + 1) #[(.int .i64 0), (.bool false), (.slice none 0 0), (.slice none 0 0)] 46 ∧ Below wr.heap.size wr W2) := ⟨hX0, hB2⟩
            clear hX0 hB2 x0 x1 x2
            go_upto_region 19 with fail
            obtain ⟨hX0, hB2⟩ := HQ.out
            have H2 : Hid (Inv base R tb t0 w t u5 rs ((W2.setCell ⟨wr.heap.size + 1, 0, none⟩ (.int .i64 (got tb t.raw k).1)).setCell ⟨wr.heap.size + 1, 1, none⟩ (.bool (got tb t.raw k).2))) := HI.out.1.below ((hB2.setCell (p := ⟨wr.heap.size + 1, 0, none⟩) (Nat.le_succ _) (.int .i64 (got tb t.raw k).1)).setCell (p := ⟨wr.heap.size + 1, 1, none⟩) (Nat.le_succ _) (.bool (got tb t.raw k).2))
            have hX : Blk ((W2.setCell ⟨wr.heap.size + 1, 0, none⟩ (.int .i64 (got tb t.raw k).1)).setCell ⟨wr.heap.size + 1, 1, none⟩ (.bool (got tb t.raw k).2)) (wr.heap.size + 1) #[(.int .i64 (got tb t.raw k).1), (.bool (got tb t.raw k).2), (.slice none 0 0), (.slice none 0 0)] 46 := ((hX0.set 0 (.int .i64 (got tb t.raw k).1)).set 1 (.bool (got tb t.raw k).2))
            have e0 : ((W2.setCell ⟨wr.heap.size + 1, 0, none⟩ (.int .i64 (got tb t.raw k).1)).setCell ⟨wr.heap.size + 1, 1, none⟩ (.bool (got tb t.raw k).2)).cell? ⟨wr.heap.size + 1, 0, none⟩ = some ((.int .i64 (got tb t.raw k).1)) := hX.cell 0
            have e1 : ((W2.setCell ⟨wr.heap.size + 1, 0, none⟩ (.int .i64 (got tb t.raw k).1)).setCell ⟨wr.heap.size + 1, 1, none⟩ (.bool (got tb t.raw k).2)).cell? ⟨wr.heap.size + 1, 1, none⟩ = some ((.bool (got tb t.raw k).2)) := hX.cell 1
            have e2 : ((W2.setCell ⟨wr.heap.size + 1, 0, none⟩ (.int .i64 (got tb t.raw k).1)).setCell ⟨wr.heap.size + 1, 1, none⟩ (.bool (got tb t.raw k).2)).cell? ⟨wr.heap.size + 1, 2, none⟩ = some ((.slice none 0 0)) := hX.cell 2
            have e3 : ((W2.setCell ⟨wr.heap.size + 1, 0, none⟩ (.int .i64 (got tb t.raw k).1)).setCell ⟨wr.heap.size + 1, 1, none⟩ (.bool (got tb t.raw k).2)).cell? ⟨wr.heap.size + 1, 3, none⟩ = some ((.slice none 0 0)) := hX.cell 3
            clear hX hX0 hB2 HQ f0 g0 f1 g1
            generalize ((W2.setCell ⟨wr.heap.size + 1, 0, none⟩ (.int .i64 (got tb t.raw k).1)).setCell ⟨wr.heap.size + 1, 1, none⟩ (.bool (got tb t.raw k).2)) = w2 at H2 e0 e1 e2 e3 ⊢
            have HS : Hid (stepT tb t.raw (2, k, v) = t.raw ∧ tellT tb t.raw (2, k, v) = ((got tb t.raw k).1, (got tb t.raw k).2, [], [])) := ⟨rfl, rfl⟩
            go_wp2_with (first | (at_builtin; refine Kd.S_append toldK (w0 := w2) (W := w2) w.heap.size rfl (.tmp 57) (.tmp 59) 43 46 (.agg #[(.int .i64 0), (.bool false), (.slice none 0 0), (.slice none 0 0)]) 64 rfl Try.underlying43 infoTold rfl (by decide) (by omega) u5 rs ((got tb t.raw k).1, (got tb t.raw k).2, [], []) [(.int .i64 (got tb t.raw k).1), (.bool (got tb t.raw k).2), (.slice none 0 0), (.slice none 0 0)] (fun b => b ≠ R ∧ b ∉ t.ids) (fun _ => False) rfl rfl (told_flat _ _ _ _) (fun _ hk => hk.elim) ?aF ?aO ?aB ?aS ?aL ?_; (case aF => exact fun k_ hk => by have h1 := H2.out.tree.lt; exact ⟨by omega, fun hb_ => by have := h1.2 _ hb_; omega⟩); (case aO => exact (Kd.S_mono H2.out.row (fun k_ hk => ⟨hk, fun h => h⟩))); (case aB => exact (Below.refl _ _)); (case aS => exact H2.out.fr.size); (case aL => have h1 := HZ.out.1; have h2 := HL.out; omega); intro v1 w3 ho hb hg hat))
            have HE := hid (H2.out.append HB.out ho hg)
            clear ho hb hg hat
            clear e0 e1 e2 e3
            go_wp2_with fail
            go_roundg k1
            case measure => omega
            case rel => exact ⟨i + 1, t, rs ++ [((got tb t.raw k).1, (got tb t.raw k).2, [], [])], rfl, HL.out, by have := HG.out; show k1 + (i + 1) = _; omega, HE.out, by rw [List.length_append, HZ.out.1]; rfl, by rw [← HZ.out.2.1, HX.out, List.append_assoc]; rw [← HS.out.2]; show _ = rs ++ (_ :: toldT tb (stepT tb t.raw _) _); rw [HS.out.1]; rfl, by rw [← HZ.out.2.2.1, HX.out]; show _ = runT tb (stepT tb t.raw _) _; rw [HS.out.1], by have := HZ.out.2.2.2; omega⟩
          · by_cases h3 : d = 3
            · subst h3
              go_wp2_with fail
              refine (tSize_any base R tb t _ HW.out.tree (by have := HZ.out.2.2.2; have := HL.out; omega)).mono ?_
              rintro e w2 ⟨rfl, m, rfl⟩
              have hB2 : Below wr.heap.size wr (((wr.alloc (.cells #[.int .i64 3, .int .i64 k, .int .i64 v] 66)).alloc (.cells #[.int .i64 0, .bool false, .slice none 0 0, .slice none 0 0] 46)).drewN m) := (pw_below_drewN (((Below.refl _ _).alloc (Nat.le_refl _) _).alloc (by rw [alloc_size]; exact Nat.le_succ _) _) m)
              have hX0 : Blk (((wr.alloc (.cells #[.int .i64 3, .int .i64 k, .int .i64 v] 66)).alloc (.cells #[.int .i64 0, .bool false, .slice none 0 0, .slice none 0 0] 46)).drewN m) (wr.heap.size + 1) #[(.int .i64 0), (.bool false), (.slice none 0 0), (.slice none 0 0)] 46 := by
                have h0_ := (Blk.new (wr.alloc (.cells #[.int .i64 3, .int .i64 k, .int .i64 v] 66)) #[.int .i64 0, .bool false, .slice none 0 0, .slice none 0 0] 46)
                rw [alloc_size] at h0_
                exact h0_
              generalize ((wr.alloc (.cells #[.int .i64 3, .int .i64 k, .int .i64 v] 66)).alloc (.cells #[.int .i64 0, .bool false, .slice none 0 0, .slice none 0 0] 46)).drewN m = W2 at hB2 hX0 ⊢
              have g0 : W2.cell? ⟨wr.heap.size + 1, 0, none⟩ = some (.int .i64 0) := hX0.cell 0
              have f0 : W2.frozen? ⟨wr.heap.size + 1, 0, none⟩ = false := hX0.free 0
              have HQ : Hid (Blk W2 (wr.heap.size + 1) #[(.int .i64 0), (.bool false), (.slice none 0 0), (.slice none 0 0)] 46 ∧ Below wr.heap.size wr W2) := ⟨hX0, hB2⟩
              clear hX0 hB2 x0 x1 x2
              go_upto_region 19 with fail
              obtain ⟨hX0, hB2⟩ := HQ.out
              have H2 : Hid (Inv base R tb t0 w t u5 rs (W2.setCell ⟨wr.heap.size + 1, 0, none⟩ (.int .i64 t.raw.size))) := HI.out.1.below (hB2.setCell (p := ⟨wr.heap.size + 1, 0, none⟩) (Nat.le_succ _) (.int .i64 t.raw.size))
              have hX : Blk (W2.setCell ⟨wr.heap.size + 1, 0, none⟩ (.int .i64 t.raw.size)) (wr.heap.size + 1) #[(.int .i64 t.raw.size), (.bool false), (.slice none 0 0), (.slice none 0 0)] 46 := (hX0.set 0 (.int .i64 t.raw.size))
              have e0 : (W2.setCell ⟨wr.heap.size + 1, 0, none⟩ (.int .i64 t.raw.size)).cell? ⟨wr.heap.size + 1, 0, none⟩ = some ((.int .i64 t.raw.size)) := hX.cell 0
              have e1 : (W2.setCell ⟨wr.heap.size + 1, 0, none⟩ (.int .i64 t.raw.size)).cell? ⟨wr.heap.size + 1, 1, none⟩ = some ((.bool false)) := hX.cell 1
              have e2 : (W2.setCell ⟨wr.heap.size + 1, 0, none⟩ (.int .i64 t.raw.size)).cell? ⟨wr.heap.size + 1, 2, none⟩ = some ((.slice none 0 0)) := hX.cell 2
              have e3 : (W2.setCell ⟨wr.heap.size + 1, 0, none⟩ (.int .i64 t.raw.size)).cell? ⟨wr.heap.size + 1, 3, none⟩ = some ((.slice none 0 0)) := hX.cell 3
              clear hX hX0 hB2 HQ f0 g0
              generalize (W2.setCell ⟨wr.heap.size + 1, 0, none⟩ (.int .i64 t.raw.size)) = w2 at H2 e0 e1 e2 e3 ⊢
              have HS : Hid (stepT tb t.raw (3, k, v) = t.raw ∧ tellT tb t.raw (3, k, v) = (t.raw.size, false, [], [])) := ⟨rfl, rfl⟩
              go_wp2_with (first | (at_builtin; refine Kd.S_append toldK (w0 := w2) (W := w2) w.heap.size rfl (.tmp 57) (.tmp 59) 43 46 (.agg #[(.int .i64 0), (.bool false), (.slice none 0 0), (.slice none 0 0)]) 64 rfl Try.underlying43 infoTold rfl (by decide) (by omega) u5 rs (t.raw.size, false, [], []) [(.int .i64 t.raw.size), (.bool false), (.slice none 0 0), (.slice none 0 0)] (fun b => b ≠ R ∧ b ∉ t.ids) (fun _ => False) rfl rfl (told_flat _ _ _ _) (fun _ hk => hk.elim) ?aF ?aO ?aB ?aS ?aL ?_; (case aF => exact fun k_ hk => by have h1 := H2.out.tree.lt; exact ⟨by omega, fun hb_ => by have := h1.2 _ hb_; omega⟩); (case aO => exact (Kd.S_mono H2.out.row (fun k_ hk => ⟨hk, fun h => h⟩))); (case aB => exact (Below.refl _ _)); (case aS => exact H2.out.fr.size); (case aL => have h1 := HZ.out.1; have h2 := HL.out; omega); intro v1 w3 ho hb hg hat))
              have HE := hid (H2.out.append HB.out ho hg)
              clear ho hb hg hat
              clear e0 e1 e2 e3
              go_wp2_with fail
              go_roundg k1
              case measure => omega
              case rel => exact ⟨i + 1, t, rs ++ [(t.raw.size, false, [], [])], rfl, HL.out, by have := HG.out; show k1 + (i + 1) = _; omega, HE.out, by rw [List.length_append, HZ.out.1]; rfl, by rw [← HZ.out.2.1, HX.out, List.append_assoc]; rw [← HS.out.2]; show _ = rs ++ (_ :: toldT tb (stepT tb t.raw _) _); rw [HS.out.1]; rfl, by rw [← HZ.out.2.2.1, HX.out]; show _ = runT tb (stepT tb t.raw _) _; rw [HS.out.1], by have := HZ.out.2.2.2; omega⟩
            · by_cases h4 : d = 4
              · subst h4
                have HA : Hid (Acc (wr.heap.size + 2) (wr.heap.size + 1) 0 false [] [] ((wr.alloc (.cells #[.int .i64 4, .int .i64 k, .int .i64 v] 66)).alloc (.cells #[.int .i64 0, .bool false, .slice none 0 0, .slice none 0 0] 46))) := by
                  have h0_ := (Blk.new (wr.alloc (.cells #[.int .i64 4, .int .i64 k, .int .i64 v] 66)) #[.int .i64 0, .bool false, .slice none 0 0, .slice none 0 0] 46)
                  rw [alloc_size] at h0_
                  exact ⟨_, _, h0_, Nat.lt_succ_self _, by rw [alloc_size, alloc_size]; exact Nat.le_refl _, Kd.R_nil .., Kd.R_nil ..⟩
                go_wp2_with fail
                refine (tEach_any base R tb t (wr.heap.size + 2) (wr.heap.size + 1) 0 false _ HW.out.tree (fun b hb => by have := HLT.out.2 b hb; omega) HA.out (by have := HZ.out.2.2.2; have := HL.out; omega)).mono ?_
                rintro e w2 ⟨rfl, hA, hF⟩
                obtain ⟨K, V, hX, _, hN2, hK, hV⟩ := hA
                obtain ⟨AK, cK, hq⟩ := Kd.R_slice hK
                subst hq
                obtain ⟨AV, cV, hq⟩ := Kd.R_slice hV
                subst hq
                have HO : Hid (∀ k_, u5.ownBlock = some k_ → k_ < wr.heap.size) := fun k_ hk => (Kd.S_lt HI.out.1.row k_ hk)
                have hB2 : Below wr.heap.size wr w2 := (((Below.refl _ _).alloc (Nat.le_refl _) _).alloc (by rw [alloc_size]; exact Nat.le_succ _) _).trans ⟨hF.os, hF.tape, hF.output, hF.size, fun k_ hk => hF.block k_ (by rw [alloc_size, alloc_size]; omega) (fun e_ => by rcases e_ with e_ | e_ <;> omega)⟩
                have H2 := hid (HI.out.1.below hB2)
                have HS2 : Hid (Kd.S toldK 46 w2 w.heap.size (fun k_ => (k_ ≠ R ∧ k_ ∉ t.ids) ∧ ¬ wr.heap.size + 2 ≤ k_) u5 rs) := Kd.S_below (Kd.S_mono (Kd.S_bound HI.out.1.row) (fun k_ hk => ⟨hk.1, by have := hk.2.2.1; omega⟩)) hB2
                have HS : Hid (stepT tb t.raw (4, k, v) = t.raw ∧ tellT tb t.raw (4, k, v) = (0, false, keys t.raw, vals t.raw)) := ⟨rfl, rfl⟩
                have HM := hid (told_rows (base := w.heap.size) (by have := H2.out.fr.size; have := HI.out.1.fr.size; omega) hK hV 0 false)
                have e0 : w2.cell? ⟨wr.heap.size + 1, 0, none⟩ = some (.int .i64 0) := hX.cell 0
                have e1 : w2.cell? ⟨wr.heap.size + 1, 1, none⟩ = some (.bool false) := hX.cell 1
                have e2 : w2.cell? ⟨wr.heap.size + 1, 2, none⟩ = some (.slice AK (keys t.raw).length cK) := hX.cell 2
                have e3 : w2.cell? ⟨wr.heap.size + 1, 3, none⟩ = some (.slice AV (vals t.raw).length cV) := hX.cell 3
                clear hX hN2 hK hV hF hB2 x0 x1 x2
                go_wp2_with (first | (at_builtin; refine Kd.S_append toldK (w0 := w2) (W := w2) w.heap.size rfl (.tmp 57) (.tmp 59) 43 46 (.agg #[(.int .i64 0), (.bool false), (.slice none 0 0), (.slice none 0 0)]) 64 rfl Try.underlying43 infoTold rfl (by decide) (by omega) u5 rs (0, false, keys t.raw, vals t.raw) [.int .i64 0, .bool false, .slice AK (keys t.raw).length cK, .slice AV (vals t.raw).length cV] (fun b => b ≠ R ∧ b ∉ t.ids) (fun k_ => wr.heap.size + 2 ≤ k_) rfl rfl HM.out (fun k_ hk => ⟨⟨by have := HLT.out.1; omega, fun hb_ => by have := HLT.out.2 _ hb_; omega⟩, fun e_ => by have := HO.out k_ e_.symm; omega⟩) ?aF ?aO ?aB ?aS ?aL ?_; (case aF => exact fun k_ hk => by have h1 := H2.out.tree.lt; exact ⟨by omega, fun hb_ => by have := h1.2 _ hb_; omega⟩); (case aO => exact HS2.out); (case aB => exact (Below.refl _ _)); (case aS => exact H2.out.fr.size); (case aL => have h1 := HZ.out.1; have h2 := HL.out; omega); intro v1 w3 ho hb hg hat))
                have HE := hid (H2.out.append HB.out ho hg)
                clear ho hb hg hat
                clear e0 e1 e2 e3
                go_wp2_with fail
                go_roundg k1
                case measure => omega
                case rel => exact ⟨i + 1, t, rs ++ [(0, false, keys t.raw, vals t.raw)], rfl, HL.out, by have := HG.out; show k1 + (i + 1) = _; omega, HE.out, by rw [List.length_append, HZ.out.1]; rfl, by rw [← HZ.out.2.1, HX.out, List.append_assoc]; rw [← HS.out.2]; show _ = rs ++ (_ :: toldT tb (stepT tb t.raw _) _); rw [HS.out.1]; rfl, by rw [← HZ.out.2.2.1, HX.out]; show _ = runT tb (stepT tb t.raw _) _; rw [HS.out.1], by have := HZ.out.2.2.2; omega⟩
              · by_cases h5 : d = 5
                · subst h5
                  go_wp2_with fail
                  refine (tHeight_any base R tb t _ HW.out.tree).mono ?_
                  rintro e w2 ⟨rfl, rfl⟩
                  have H2 : Hid (Inv base R tb t0 w t u5 rs (((wr.alloc (.cells #[.int .i64 5, .int .i64 k, .int .i64 v] 66)).alloc (.cells #[.int .i64 t.raw.ht, .bool false, .slice none 0 0, .slice none 0 0] 46)))) := HI.out.1.below (((Below.refl _ _).alloc (Nat.le_refl _) _).alloc (by rw [alloc_size]; exact Nat.le_succ _) _)
                  have HS : Hid (stepT tb t.raw (5, k, v) = t.raw ∧ tellT tb t.raw (5, k, v) = (t.raw.ht, false, [], [])) := ⟨rfl, rfl⟩
                  have hX : Blk (((wr.alloc (.cells #[.int .i64 5, .int .i64 k, .int .i64 v] 66)).alloc (.cells #[.int .i64 t.raw.ht, .bool false, .slice none 0 0, .slice none 0 0] 46))) (wr.heap.size + 1) #[(.int .i64 t.raw.ht), (.bool false), (.slice none 0 0), (.slice none 0 0)] 46 := by
                    have h0_ := Blk.new (wr.alloc (.cells #[.int .i64 5, .int .i64 k, .int .i64 v] 66)) #[(.int .i64 t.raw.ht), (.bool false), (.slice none 0 0), (.slice none 0 0)] 46
                    rw [alloc_size] at h0_
                    exact h0_
                  have e0 : (((wr.alloc (.cells #[.int .i64 5, .int .i64 k, .int .i64 v] 66)).alloc (.cells #[.int .i64 t.raw.ht, .bool false, .slice none 0 0, .slice none 0 0] 46))).cell? ⟨wr.heap.size + 1, 0, none⟩ = some ((.int .i64 t.raw.ht)) := hX.cell 0
                  have e1 : (((wr.alloc (.cells #[.int .i64 5, .int .i64 k, .int .i64 v] 66)).alloc (.cells #[.int .i64 t.raw.ht, .bool false, .slice none 0 0, .slice none 0 0] 46))).cell? ⟨wr.heap.size + 1, 1, none⟩ = some ((.bool false)) := hX.cell 1
                  have e2 : (((wr.alloc (.cells #[.int .i64 5, .int .i64 k, .int .i64 v] 66)).alloc (.cells #[.int .i64 t.raw.ht, .bool false, .slice none 0 0, .slice none 0 0] 46))).cell? ⟨wr.heap.size + 1, 2, none⟩ = some ((.slice none 0 0)) := hX.cell 2
                  have e3 : (((wr.alloc (.cells #[.int .i64 5, .int .i64 k, .int .i64 v] 66)).alloc (.cells #[.int .i64 t.raw.ht, .bool false, .slice none 0 0, .slice none 0 0] 46))).cell? ⟨wr.heap.size + 1, 3, none⟩ = some ((.slice none 0 0)) := hX.cell 3
                  clear hX
                  go_upto_region 19 with fail
                  generalize ((wr.alloc (.cells #[.int .i64 5, .int .i64 k, .int .i64 v] 66)).alloc (.cells #[.int .i64 t.raw.ht, .bool false, .slice none 0 0, .slice none 0 0] 46)) = w2 at H2 e0 e1 e2 e3 ⊢
                  clear x0 x1 x2
                  go_wp2_with (first | (at_builtin; refine Kd.S_append toldK (w0 := w2) (W := w2) w.heap.size rfl (.tmp 57) (.tmp 59) 43 46 (.agg #[(.int .i64 0), (.bool false), (.slice none 0 0), (.slice none 0 0)]) 64 rfl Try.underlying43 infoTold rfl (by decide) (by omega) u5 rs (t.raw.ht, false, [], []) [(.int .i64 t.raw.ht), (.bool false), (.slice none 0 0), (.slice none 0 0)] (fun b => b ≠ R ∧ b ∉ t.ids) (fun _ => False) rfl rfl (told_flat _ _ _ _) (fun _ hk => hk.elim) ?aF ?aO ?aB ?aS ?aL ?_; (case aF => exact fun k_ hk => by have h1 := H2.out.tree.lt; exact ⟨by omega, fun hb_ => by have := h1.2 _ hb_; omega⟩); (case aO => exact (Kd.S_mono H2.out.row (fun k_ hk => ⟨hk, fun h => h⟩))); (case aB => exact (Below.refl _ _)); (case aS => exact H2.out.fr.size); (case aL => have h1 := HZ.out.1; have h2 := HL.out; omega); intro v1 w3 ho hb hg hat))
                  have HE := hid (H2.out.append HB.out ho hg)
                  clear ho hb hg hat
                  go_wp2_with fail
                  go_roundg k1
                  case measure => omega
                  case rel => exact ⟨i + 1, t, rs ++ [(t.raw.ht, false, [], [])], rfl, HL.out, by have := HG.out; show k1 + (i + 1) = _; omega, HE.out, by rw [List.length_append, HZ.out.1]; rfl, by rw [← HZ.out.2.1, HX.out, List.append_assoc]; rw [← HS.out.2]; show _ = rs ++ (_ :: toldT tb (stepT tb t.raw _) _); rw [HS.out.1]; rfl, by rw [← HZ.out.2.2.1, HX.out]; show _ = runT tb (stepT tb t.raw _) _; rw [HS.out.1], by have := HZ.out.2.2.2; omega⟩
                · have H2 : Hid (Inv base R tb t0 w t u5 rs (((wr.alloc (.cells #[.int .i64 d, .int .i64 k, .int .i64 v] 66)).alloc (.cells #[.int .i64 0, .bool false, .slice none 0 0, .slice none 0 0] 46)))) := HI.out.1.below (((Below.refl _ _).alloc (Nat.le_refl _) _).alloc (by rw [alloc_size]; exact Nat.le_succ _) _)
                  have HS : Hid (stepT tb t.raw (d, k, v) = t.raw ∧ tellT tb t.raw (d, k, v) = (0, false, [], [])) := ⟨(if_neg h0).trans (if_neg h1), (if_neg h2).trans ((if_neg h3).trans ((if_neg h4).trans (if_neg h5)))⟩
                  have hX : Blk (((wr.alloc (.cells #[.int .i64 d, .int .i64 k, .int .i64 v] 66)).alloc (.cells #[.int .i64 0, .bool false, .slice none 0 0, .slice none 0 0] 46))) (wr.heap.size + 1) #[(.int .i64 0), (.bool false), (.slice none 0 0), (.slice none 0 0)] 46 := by
                    have h0_ := Blk.new (wr.alloc (.cells #[.int .i64 d, .int .i64 k, .int .i64 v] 66)) #[(.int .i64 0), (.bool false), (.slice none 0 0), (.slice none 0 0)] 46
                    rw [alloc_size] at h0_
                    exact h0_
                  have e0 : (((wr.alloc (.cells #[.int .i64 d, .int .i64 k, .int .i64 v] 66)).alloc (.cells #[.int .i64 0, .bool false, .slice none 0 0, .slice none 0 0] 46))).cell? ⟨wr.heap.size + 1, 0, none⟩ = some ((.int .i64 0)) := hX.cell 0
                  have e1 : (((wr.alloc (.cells #[.int .i64 d, .int .i64 k, .int .i64 v] 66)).alloc (.cells #[.int .i64 0, .bool false, .slice none 0 0, .slice none 0 0] 46))).cell? ⟨wr.heap.size + 1, 1, none⟩ = some ((.bool false)) := hX.cell 1
                  have e2 : (((wr.alloc (.cells #[.int .i64 d, .int .i64 k, .int .i64 v] 66)).alloc (.cells #[.int .i64 0, .bool false, .slice none 0 0, .slice none 0 0] 46))).cell? ⟨wr.heap.size + 1, 2, none⟩ = some ((.slice none 0 0)) := hX.cell 2
                  have e3 : (((wr.alloc (.cells #[.int .i64 d, .int .i64 k, .int .i64 v] 66)).alloc (.cells #[.int .i64 0, .bool false, .slice none 0 0, .slice none 0 0] 46))).cell? ⟨wr.heap.size + 1, 3, none⟩ = some ((.slice none 0 0)) := hX.cell 3
                  clear hX
                  go_upto_region 19 with fail
                  generalize ((wr.alloc (.cells #[.int .i64 d, .int .i64 k, .int .i64 v] 66)).alloc (.cells #[.int .i64 0, .bool false, .slice none 0 0, .slice none 0 0] 46)) = w2 at H2 e0 e1 e2 e3 ⊢
                  clear x0 x1 x2
                  go_wp2_with (first | (at_builtin; refine Kd.S_append toldK (w0 := w2) (W := w2) w.heap.size rfl (.tmp 57) (.tmp 59) 43 46 (.agg #[(.int .i64 0), (.bool false), (.slice none 0 0), (.slice none 0 0)]) 64 rfl Try.underlying43 infoTold rfl (by decide) (by omega) u5 rs (0, false, [], []) [(.int .i64 0), (.bool false), (.slice none 0 0), (.slice none 0 0)] (fun b => b ≠ R ∧ b ∉ t.ids) (fun _ => False) rfl rfl (told_flat _ _ _ _) (fun _ hk => hk.elim) ?aF ?aO ?aB ?aS ?aL ?_; (case aF => exact fun k_ hk => by have h1 := H2.out.tree.lt; exact ⟨by omega, fun hb_ => by have := h1.2 _ hb_; omega⟩); (case aO => exact (Kd.S_mono H2.out.row (fun k_ hk => ⟨hk, fun h => h⟩))); (case aB => exact (Below.refl _ _)); (case aS => exact H2.out.fr.size); (case aL => have h1 := HZ.out.1; have h2 := HL.out; omega); intro v1 w3 ho hb hg hat))
                  have HE := hid (H2.out.append HB.out ho hg)
                  clear ho hb hg hat
                  go_wp2_with fail
                  go_roundg k1
                  case measure => omega
                  case rel => exact ⟨i + 1, t, rs ++ [(0, false, [], [])], rfl, HL.out, by have := HG.out; show k1 + (i + 1) = _; omega, HE.out, by rw [List.length_append, HZ.out.1]; rfl, by rw [← HZ.out.2.1, HX.out, List.append_assoc]; rw [← HS.out.2]; show _ = rs ++ (_ :: toldT tb (stepT tb t.raw _) _); rw [HS.out.1]; rfl, by rw [← HZ.out.2.2.1, HX.out]; show _ = runT tb (stepT tb t.raw _) _; rw [HS.out.1], by have := HZ.out.2.2.2; omega⟩
    · have e : i = l.length := by omega
      subst e
      have HF : Hid (rs = toldT tb t0.raw l ∧ t.raw = runT tb t0.raw l) := by
        have h1 := HI.out.2.2.1
        have h2 := HI.out.2.2.2.1
        rw [List.drop_length] at h1 h2
        exact ⟨by simpa [toldT] using h1, h2⟩
      go_wp2_with fail
      go_ret
      exact ⟨t, _, rfl, HF.out.2, HF.out.1 ▸ HI.out.1⟩
set_option maxRecDepth 100000 in
theorem AvlRun_any (A0 : Option Addr) (c0 : Nat) (tb : List Int) (A : Option Addr) (c : Nat) (l : List Act3) (w : World) (h0 : Kd.C (Kd.int .i64) w A0 tb.length tb) (hn : tb.length ≤ 2147483647) (hC : Kd.C actK w A l.length l) (hl : l.length ≤ 2147483647) :
    Calls Try.prog 23 #[.slice A0 tb.length c0, .slice A l.length c] w fun e w' => ∃ v, e = .returned v ∧ Kd.S toldK 46 w' w.heap.size (fun _ => True) v (toldT tb .nil l) ∧ Below w.heap.size w w' := by
  have H0 := hid h0
  have HC := hid hC
  clear h0 hC
  go_enter Try.func23, Try.ntmps23
  go_wp2_with fail
  refine (less_any A0 c0 tb w H0.out (by omega)).mono ?_
  rintro e w1 ⟨lv, rfl, hw, hL⟩
  have HL := hid hL
  have HB1 : Hid (Below w.heap.size w w1) := by rw [hw]; exact (Below.refl _ _).alloc (Nat.le_refl _) _
  clear hL hw
  go_wp2_with fail
  refine (New_any w1.heap.size tb lv w1 HL.out (Nat.le_refl _)).mono ?_
  rintro e w2 ⟨R, rfl, hT, hB⟩
  have HT := hid hT
  have HB2 := hid hB
  clear hT hB
  go_wp2_with fail
  refine (avlDo_any w1.heap.size R tb .nil w2 A c l HT.out HB2.out.size (fun W hW => ?_) ?_ hl).mono ?_
  · exact Kd.C_below HC.out ((below_then HB1.out HB1.out.size HB2.out).trans ⟨hW.os, hW.tape, hW.output, hW.size, fun k hk => hW.block k (Nat.lt_of_lt_of_le hk HB1.out.size)⟩)
  · show (0 : Int) + _ ≤ _
    omega
  rintro e w3 ⟨t', v, rfl, hraw, hI⟩
  have HI := hid hI
  clear hI hraw
  go_wp2_with fail
  go_ret
  have b1 := HB1.out
  have b2 := HB2.out
  have b3 : Below w1.heap.size w2 w3 := HI.out.fr.below b2.size (fun k hk => by
    rcases hk with rfl | hk
    · exact HT.out.ge
    · simp [N.ids] at hk)
  exact ⟨_, rfl, Kd.S_mono (Kd.S_lower HI.out.row (Nat.le_trans b1.size b2.size)) (fun _ _ => trivial), (below_then b1 b1.size b2).trans ⟨b3.os, b3.tape, b3.output, b3.size, fun k hk => b3.block k (Nat.lt_of_lt_of_le hk b1.size)⟩⟩
end Go.Proofs.Ytjlcebgfknfelaa.Avl

namespace Go.Proofs.Ytjlcebgfknfelaa.QFnTreesAgree
open Go.RowKit Go.Proofs.YtjlcebgfknfelaaW.PrintWords Go.Proofs.YtjlcebgfknfelaaW.PrintLast Go.Proofs.YtjlcebgfknfelaaW.PrintMore
attribute [local go_sem] max2_int min2_int max_two min_two max_three min_three max_four min_four   -- for this text's walks alone
set_option linter.unusedVariables false
set_option linter.unusedSimpArgs false
-- NOT PRINTED: function 81 (avl_node_int_int_getHeight)
def told_of (p : Avl.Told4) : S46 := ⟨p.1, p.2.1, p.2.2.1, p.2.2.2⟩
def impl_AvlRun.f (l0 : List Int) (l1 : List (S66)) : Option (List (S46)) :=
  if l0.length ≤ 2147483647 then (if l1.length ≤ 2147483647 then some ((Avl.toldT l0 .nil (l1.map fun x => (x.f0, x.f1, x.f2))).map told_of) else none) else none
theorem impl_AvlRun.calls (A0 : Option Addr) (c0 : Nat) (l0 : List Int) (A1 : Option Addr) (c1 : Nat) (l1 : List (S66)) (r : List (S46)) (w : World) (hr0 : Kd.C (Kd.int .i64) w A0 l0.length l0) (hc0 : l0.length ≤ c0) (hr1 : Kd.C k66 w A1 l1.length l1) (hc1 : l1.length ≤ c1) (h : impl_AvlRun.f l0 l1 = some r) :
    Calls Try.prog 23 #[.slice A0 l0.length c0, .slice A1 l1.length c1] w fun e w' => ∃ v0_ : Value, e = .returned (v0_) ∧ Kd.S k46 46 w' w.heap.size (fun _ => True) v0_ r ∧ Below w.heap.size w w' := by
  unfold impl_AvlRun.f at h
  by_cases q1 : l0.length ≤ 2147483647
  · rw [if_pos q1] at h
    by_cases q2 : l1.length ≤ 2147483647
    · rw [if_pos q2] at h
      obtain rfl := Option.some.inj h
      have hC := Row.C_iso hr1
      have hl : (l1.map fun x : S66 => (x.f0, x.f1, x.f2)).length = l1.length := List.length_map ..
      have H := Avl.AvlRun_any A0 c0 l0 A1 c1 (l1.map fun x : S66 => (x.f0, x.f1, x.f2)) w hr0 q1 (by rw [hl]; exact hC) (by rw [hl]; exact q2)
      rw [hl] at H
      refine H.mono ?_
      rintro e w' ⟨v, he, hS, hB⟩
      refine ⟨v, he, Row.S_iso ?_, hB⟩
      rw [List.map_map, show ((fun x : S46 => (x.f0, x.f1, x.f2, x.f3)) ∘ told_of) = id from rfl, List.map_id]
      exact hS
    · rw [if_neg q2] at h; cases h
  · rw [if_neg q1] at h; cases h
def spec_Same.l0 : Nat → List Int → List Int → Int → Option (Bool)
  | 0, _, _, _ => none
  | k + 1, x0, x1, x5 => if x5 < (x0.length : Int) then (if 0 ≤ x5 then (if x5 < (x1.length : Int) then (if (rd x0 x5) = (rd x1 x5) then (spec_Same.l0 k x0 x1 (wrap64 (x5 + 1))) else (some false)) else (none)) else (none)) else (some true)
def spec_Same.f (k : Nat) (l0 : List Int) (l1 : List Int) : Option (Bool) := if (l0.length : Int) = (l1.length : Int) then (spec_Same.l0 k l0 l1 0) else (some false)
set_option maxHeartbeats 8000000 in
set_option maxRecDepth 100000 in
theorem spec_Same.calls (k : Nat) (A0 : Option Addr) (c0 : Nat) (l0 : List Int) (A1 : Option Addr) (c1 : Nat) (l1 : List Int) (r : Bool) (w : World) (hr0 : Kd.C (Kd.int .i64) w A0 l0.length l0) (hc0 : l0.length ≤ c0) (hr1 : Kd.C (Kd.int .i64) w A1 l1.length l1) (hc1 : l1.length ≤ c1) (h : spec_Same.f k l0 l1 = some r) :
    Calls Try.prog 18 #[.slice A0 l0.length c0, .slice A1 l1.length c1] w fun e w' => e = .returned (.bool r) ∧ Drawn0 w w' := by
  have HR0 := Aside0.mk hr0
  have HC0 := Aside0.mk hc0
  clear hr0 hc0
  have HR1 := Aside0.mk hr1
  have HC1 := Aside0.mk hc1
  clear hr1 hc1
  have H : (if (l0.length : Int) = (l1.length : Int) then (spec_Same.l0 k l0 l1 0) else (some false)) = some r := h
  clear h
  by_cases c3 : (l0.length : Int) = (l1.length : Int)
  · rw [if_pos c3] at H
    have c3b0 : ((l0.length : Int) == (l1.length : Int)) = true := beq_iff_eq.mpr c3
    have c3b1 : ((l0.length : Int) != (l1.length : Int)) = false := bne_eq_false_iff_eq.mpr c3
    have c3b2 : (l0.length == l1.length) = true := by first | simpa using c3 | (simp at c3 ⊢; omega)
    clear c3
    have H' := Aside0.mk H
    clear H
    go_enter Try.func18, Try.ntmps18
    go_wp2
    repeat (go_quiet (fail); try go_wp2)
    go_loopg [5] k (fun kq v5 w' => ∃ (x5_1 : Int), v5 = .int .i64 x5_1 ∧ Aside0 (spec_Same.l0 kq l0 l1 x5_1 = some r) ∧ Aside0 (kq ≤ k) ∧ Drawn0 w w')
    case atStart => exact ⟨(0), (by first | rfl | (simp; done) | (simp [*]; done)), H', ⟨Nat.le_refl _⟩, by repeat (first | exact Drawn0.refl _ | apply Drawn0.step)⟩
    case round =>
      clear H'
      try clear c1
      try clear p2
      try clear c3
      try clear c3b0
      try clear c3b1
      try clear c3b2
      obtain ⟨x5_1, rfl, HA, HK1, ⟨m1, rfl⟩⟩ := hrel
      cases gk with
      | zero => exact absurd HA.out (by simp [spec_Same.l0])
      | succ k1 =>
        have H := HA.out
        clear HA
        simp only [spec_Same.l0] at H
        by_cases c4 : x5_1 < (l0.length : Int)
        · rw [if_pos c4] at H
          have c4b0 : decide (x5_1 < (l0.length : Int)) = true := decide_eq_true c4
          clear c4
          by_cases c5 : 0 ≤ x5_1
          · rw [if_pos c5] at H
            have c5b0 : decide (0 ≤ x5_1) = true := decide_eq_true c5
            clear c5
            by_cases c6 : x5_1 < (l1.length : Int)
            · rw [if_pos c6] at H
              have c6b0 : decide (x5_1 < (l1.length : Int)) = true := decide_eq_true c6
              clear c6
              by_cases c7 : (rd l0 x5_1) = (rd l1 x5_1)
              · rw [if_pos c7] at H
                have c7b0 : ((rd l0 x5_1) == (rd l1 x5_1)) = true := beq_iff_eq.mpr c7
                have c7b1 : ((rd l0 x5_1) != (rd l1 x5_1)) = false := bne_eq_false_iff_eq.mpr c7
                clear c7
                have H' := Aside0.mk H
                clear H
                have p104 : 0 ≤ (x5_1 : Int) := of_decide_eq_true (by first | (with_reducible assumption) | assumption)
                have q104 : x5_1 < (l0.length : Int) := of_decide_eq_true (by first | (with_reducible assumption) | assumption)
                obtain ⟨ad104, e104, hx104_0⟩ := Kd.at_int HR0.out x5_1 p104 q104
                cases e104
                replace p104 := eq_true p104
                replace q104 := eq_true q104
                have p105 : 0 ≤ (x5_1 : Int) := of_decide_eq_true (by first | (with_reducible assumption) | assumption)
                have q105 : x5_1 < (l1.length : Int) := of_decide_eq_true (by first | (with_reducible assumption) | assumption)
                obtain ⟨ad105, e105, hx105_0⟩ := Kd.at_int HR1.out x5_1 p105 q105
                cases e105
                replace p105 := eq_true p105
                replace q105 := eq_true q105
                go_wp2
                repeat (go_quiet (fail); try go_wp2)
                go_roundg k1
                case measure => have := HK1.out; omega
                case rel => exact ⟨(wrap64 (x5_1 + 1)), (by first | rfl | (simp; done) | (simp [*]; done)), H', ⟨by have := HK1.out; omega⟩, by repeat (first | exact Drawn0.refl _ | apply Drawn0.step)⟩
              · rw [if_neg c7] at H
                have c7b0 : ((rd l0 x5_1) == (rd l1 x5_1)) = false := beq_eq_false_iff_ne.mpr c7
                have c7b1 : ((rd l0 x5_1) != (rd l1 x5_1)) = true := bne_iff_ne.mpr c7
                obtain rfl := Option.some.inj H
                have p104 : 0 ≤ (x5_1 : Int) := of_decide_eq_true (by first | (with_reducible assumption) | assumption)
                have q104 : x5_1 < (l0.length : Int) := of_decide_eq_true (by first | (with_reducible assumption) | assumption)
                obtain ⟨ad104, e104, hx104_0⟩ := Kd.at_int HR0.out x5_1 p104 q104
                cases e104
                replace p104 := eq_true p104
                replace q104 := eq_true q104
                have p105 : 0 ≤ (x5_1 : Int) := of_decide_eq_true (by first | (with_reducible assumption) | assumption)
                have q105 : x5_1 < (l1.length : Int) := of_decide_eq_true (by first | (with_reducible assumption) | assumption)
                obtain ⟨ad105, e105, hx105_0⟩ := Kd.at_int HR1.out x5_1 p105 q105
                cases e105
                replace p105 := eq_true p105
                replace q105 := eq_true q105
                go_wp2
                repeat (go_quiet (fail); try go_wp2)
                go_ret
                exact ⟨by first | rfl | (simp; done) | (simp [*]; done), by repeat (first | exact Drawn0.refl _ | apply Drawn0.step)⟩
            · rw [if_neg c6] at H
              exact absurd H (by simp)
          · rw [if_neg c5] at H
            exact absurd H (by simp)
        · rw [if_neg c4] at H
          have c4b0 : decide (x5_1 < (l0.length : Int)) = false := decide_eq_false c4
          clear c4
          obtain rfl := Option.some.inj H
          go_wp2
          repeat (go_quiet (fail); try go_wp2)
          go_ret
          exact ⟨by first | rfl | (simp; done) | (simp [*]; done), by repeat (first | exact Drawn0.refl _ | apply Drawn0.step)⟩
  · rw [if_neg c3] at H
    have c3b0 : ((l0.length : Int) == (l1.length : Int)) = false := beq_eq_false_iff_ne.mpr c3
    have c3b1 : ((l0.length : Int) != (l1.length : Int)) = true := bne_iff_ne.mpr c3
    have c3b2 : (l0.length == l1.length) = false := by first | simpa using c3 | (simp at c3 ⊢; omega)
    obtain rfl := Option.some.inj H
    go_enter Try.func18, Try.ntmps18
    go_wp2
    repeat (go_quiet (fail); try go_wp2)
    go_ret
    exact ⟨by first | rfl | (simp; done) | (simp [*]; done), by repeat (first | exact Drawn0.refl _ | apply Drawn0.step)⟩
def spec_Rank.f (l0 : List Int) (a1 : Int) : Option (Int) := if (l0.length : Int) = 0 then (some a1) else (if 0 ≤ (Int.tmod (wrap64 ((Int.tmod a1 (l0.length : Int)) + (l0.length : Int))) (l0.length : Int)) then (if (Int.tmod (wrap64 ((Int.tmod a1 (l0.length : Int)) + (l0.length : Int))) (l0.length : Int)) < (l0.length : Int) then (some (rd l0 (Int.tmod (wrap64 ((Int.tmod a1 (l0.length : Int)) + (l0.length : Int))) (l0.length : Int)))) else (none)) else (none))
set_option maxHeartbeats 8000000 in
set_option maxRecDepth 100000 in
theorem spec_Rank.calls (A0 : Option Addr) (c0 : Nat) (l0 : List Int) (a1 : Int) (r : Int) (w : World) (hr0 : Kd.C (Kd.int .i64) w A0 l0.length l0) (hc0 : l0.length ≤ c0) (h : spec_Rank.f l0 a1 = some r) :
    Calls Try.prog 50 #[.slice A0 l0.length c0, .int .i64 a1] w fun e w' => e = .returned (.int .i64 r) ∧ Drawn0 w w' := by
  have HR0 := Aside0.mk hr0
  have HC0 := Aside0.mk hc0
  clear hr0 hc0
  have H : (if (l0.length : Int) = 0 then (some a1) else (if 0 ≤ (Int.tmod (wrap64 ((Int.tmod a1 (l0.length : Int)) + (l0.length : Int))) (l0.length : Int)) then (if (Int.tmod (wrap64 ((Int.tmod a1 (l0.length : Int)) + (l0.length : Int))) (l0.length : Int)) < (l0.length : Int) then (some (rd l0 (Int.tmod (wrap64 ((Int.tmod a1 (l0.length : Int)) + (l0.length : Int))) (l0.length : Int)))) else (none)) else (none))) = some r := h
  clear h
  by_cases c3 : (l0.length : Int) = 0
  · rw [if_pos c3] at H
    have c3b0 : ((l0.length : Int) == 0) = true := beq_iff_eq.mpr c3
    have c3b1 : ((l0.length : Int) != 0) = false := bne_eq_false_iff_eq.mpr c3
    clear c3
    obtain rfl := Option.some.inj H
    go_enter Try.func50, Try.ntmps50
    go_wp2
    go_ret
    exact ⟨by first | rfl | (simp; done) | (simp [*]; done), by repeat (first | exact Drawn0.refl _ | apply Drawn0.step)⟩
  · rw [if_neg c3] at H
    have c3b0 : ((l0.length : Int) == 0) = false := beq_eq_false_iff_ne.mpr c3
    have c3b1 : ((l0.length : Int) != 0) = true := bne_iff_ne.mpr c3
    have c3b2 : ¬ (l0 = []) := fun h_ => c3 (by rw [h_]; rfl)
    obtain ⟨ji4, hji4⟩ : ∃ j_ : Int, (Int.tmod (wrap64 ((Int.tmod a1 (l0.length : Int)) + (l0.length : Int))) (l0.length : Int)) = j_ := ⟨_, rfl⟩
    replace H : (if 0 ≤ (ji4) then (if (ji4) < (l0.length : Int) then (some (rd l0 (ji4))) else (none)) else (none)) = some r := by first | (rw [hji4] at H; exact H) | (simp only [hji4] at H ⊢; exact H)
    by_cases c5 : 0 ≤ (ji4)
    · rw [if_pos c5] at H
      have c5b0 : decide (0 ≤ (ji4)) = true := decide_eq_true c5
      clear c5
      by_cases c6 : (ji4) < (l0.length : Int)
      · rw [if_pos c6] at H
        have c6b0 : decide ((ji4) < (l0.length : Int)) = true := decide_eq_true c6
        clear c6
        obtain rfl := Option.some.inj H
        have p106 : 0 ≤ ((ji4) : Int) := of_decide_eq_true (by first | (with_reducible assumption) | assumption)
        have q106 : (ji4) < (l0.length : Int) := of_decide_eq_true (by first | (with_reducible assumption) | assumption)
        obtain ⟨ad106, e106, hx106_0⟩ := Kd.at_int HR0.out (ji4) p106 q106
        cases e106
        replace p106 := eq_true p106
        replace q106 := eq_true q106
        go_enter Try.func50, Try.ntmps50
        go_wp2
        go_ret
        exact ⟨by first | rfl | (simp; done) | (simp only [← hji4] <;> (first | rfl | simp)) | (simp [*]; done), by repeat (first | exact Drawn0.refl _ | apply Drawn0.step)⟩
      · rw [if_neg c6] at H
        exact absurd H (by simp)
    · rw [if_neg c5] at H
      exact absurd H (by simp)
def spec_Alike.f (l0 : List Int) (a1 : Int) (a2 : Int) : Option (Bool) := (spec_Rank.f l0 a1).bind fun t107 => ((spec_Rank.f l0 a2).bind fun t108 => (some (t107 == t108)))
set_option maxHeartbeats 8000000 in
set_option maxRecDepth 100000 in
theorem spec_Alike.calls (A0 : Option Addr) (c0 : Nat) (l0 : List Int) (a1 : Int) (a2 : Int) (r : Bool) (w : World) (hr0 : Kd.C (Kd.int .i64) w A0 l0.length l0) (hc0 : l0.length ≤ c0) (h : spec_Alike.f l0 a1 a2 = some r) :
    Calls Try.prog 37 #[.slice A0 l0.length c0, .int .i64 a1, .int .i64 a2] w fun e w' => e = .returned (.bool r) ∧ Drawn0 w w' := by
  have HR0 := Aside0.mk hr0
  have HC0 := Aside0.mk hc0
  clear hr0 hc0
  have H : ((spec_Rank.f l0 a1).bind fun t107 => ((spec_Rank.f l0 a2).bind fun t108 => (some (t107 == t108)))) = some r := h
  clear h
  replace H := Option.bind_eq_some_iff.mp H
  obtain ⟨t107, A40, H⟩ := H
  replace H : ((spec_Rank.f l0 a2).bind fun t108 => (some (t107 == t108))) = some r := H
  have A4 := Aside0.mk A40
  clear A40
  replace H := Option.bind_eq_some_iff.mp H
  obtain ⟨t108, A50, H⟩ := H
  replace H : (some (t107 == t108)) = some r := H
  have A5 := Aside0.mk A50
  clear A50
  obtain rfl := Option.some.inj H
  go_enter Try.func37, Try.ntmps37
  go_wp2_with (first | ((with_reducible refine gate_callee (f := 50) rfl ?_); refine goesL_ (some 9) rfl rfl Try.func50 (by kernel_rfl) rfl #[.slice A0 l0.length c0, .int .i64 a1] rfl (by (try simp only [List.map_toArray, List.map_cons, List.map_nil]); first | done | rfl | (simp only [List.length_drop, List.length_take]; rfl)) ?_; (with_reducible refine (spec_Rank.calls _ _ l0 a1 t107 _ ?side1 ?side2 A4.out).mono ?_); (case side1 => repeat (first | exact HR0.out | (with_reducible refine Kd.C_alloc ?_ _) | (with_reducible refine Kd.C_drewN ?_ _) | (with_reducible refine Kd.C_drew ?_))); (case side2 => exact HC0.out); rintro e w' ⟨rfl, ⟨nd, rfl⟩⟩; refine ⟨_, rfl, ?_⟩) | ((with_reducible refine gate_callee (f := 50) rfl ?_); refine goesL_ (some 12) rfl rfl Try.func50 (by kernel_rfl) rfl #[.slice A0 l0.length c0, .int .i64 a2] rfl (by (try simp only [List.map_toArray, List.map_cons, List.map_nil]); first | done | rfl | (simp only [List.length_drop, List.length_take]; rfl)) ?_; (with_reducible refine (spec_Rank.calls _ _ l0 a2 t108 _ ?side1 ?side2 A5.out).mono ?_); (case side1 => repeat (first | exact HR0.out | (with_reducible refine Kd.C_alloc ?_ _) | (with_reducible refine Kd.C_drewN ?_ _) | (with_reducible refine Kd.C_drew ?_))); (case side2 => exact HC0.out); rintro e w' ⟨rfl, ⟨nd, rfl⟩⟩; refine ⟨_, rfl, ?_⟩))
  go_ret
  exact ⟨by first | rfl | (simp; done) | (simp [*]; done), by repeat (first | exact Drawn0.refl _ | apply Drawn0.step)⟩
mutual
def spec_SameTold.j0 : Nat → List Int → Int → Bool → Int → Bool → List Int → List Int → Int → Bool → List Int → List Int → Option (Bool)
  | 0, _, _, _, _, _, _, _, _, _, _, _ => none
  | k + 1, x0, x1, x31, x110000, x110001, x110002, x110003, x111000, x111001, x111002, x111003 => if x31 = true then (some false) else (spec_SameTold.l0 k x0 x1 0 x110000 x110001 x110002 x110003 x111000 x111001 x111002 x111003)
def spec_SameTold.l0 : Nat → List Int → Int → Int → Int → Bool → List Int → List Int → Int → Bool → List Int → List Int → Option (Bool)
  | 0, _, _, _, _, _, _, _, _, _, _, _ => none
  | k + 1, x0, x1, x9, x110000, x110001, x110002, x110003, x111000, x111001, x111002, x111003 => if x9 < (x110002.length : Int) then (if 0 ≤ x9 then (if x9 < (x111002.length : Int) then ((spec_Alike.f x0 (rd x110002 x9) (rd x111002 x9)).bind fun t114 => (if t114 = true then (spec_SameTold.l0 k x0 x1 (wrap64 (x9 + 1)) x110000 x110001 x110002 x110003 x111000 x111001 x111002 x111003) else (some false))) else (none)) else (none)) else (if x1 = 2 then (if x110001 = true then (some (x110000 == x111000)) else (some true)) else (some (x110000 == x111000)))
end
def spec_SameTold.f (k : Nat) (l0 : List Int) (a1 : Int) (a2_0 : Int) (a2_1 : Bool) (l2_2 : List Int) (l2_3 : List Int) (a3_0 : Int) (a3_1 : Bool) (l3_2 : List Int) (l3_3 : List Int) : Option (Bool) := if (a2_1 != a3_1) = true then (spec_SameTold.j0 k l0 a1 true a2_0 a2_1 l2_2 l2_3 a3_0 a3_1 l3_2 l3_3) else (if (l2_2.length : Int) = (l3_2.length : Int) then ((spec_Same.f k l2_3 l3_3).bind fun t111 => (spec_SameTold.j0 k l0 a1 (!t111) a2_0 a2_1 l2_2 l2_3 a3_0 a3_1 l3_2 l3_3)) else (spec_SameTold.j0 k l0 a1 true a2_0 a2_1 l2_2 l2_3 a3_0 a3_1 l3_2 l3_3))
set_option maxHeartbeats 8000000 in
set_option maxRecDepth 100000 in
theorem spec_SameTold.calls (k : Nat) (A0 : Option Addr) (c0 : Nat) (l0 : List Int) (a1 : Int) (a2_0 : Int) (a2_1 : Bool) (A2_2 : Option Addr) (c2_2 : Nat) (l2_2 : List Int) (A2_3 : Option Addr) (c2_3 : Nat) (l2_3 : List Int) (a3_0 : Int) (a3_1 : Bool) (A3_2 : Option Addr) (c3_2 : Nat) (l3_2 : List Int) (A3_3 : Option Addr) (c3_3 : Nat) (l3_3 : List Int) (r : Bool) (w : World) (hr0 : Kd.C (Kd.int .i64) w A0 l0.length l0) (hc0 : l0.length ≤ c0) (hr2_2 : Kd.C (Kd.int .i64) w A2_2 l2_2.length l2_2) (hc2_2 : l2_2.length ≤ c2_2) (hr2_3 : Kd.C (Kd.int .i64) w A2_3 l2_3.length l2_3) (hc2_3 : l2_3.length ≤ c2_3) (hr3_2 : Kd.C (Kd.int .i64) w A3_2 l3_2.length l3_2) (hc3_2 : l3_2.length ≤ c3_2) (hr3_3 : Kd.C (Kd.int .i64) w A3_3 l3_3.length l3_3) (hc3_3 : l3_3.length ≤ c3_3) (h : spec_SameTold.f k l0 a1 a2_0 a2_1 l2_2 l2_3 a3_0 a3_1 l3_2 l3_3 = some r) :
    Calls Try.prog 49 #[.slice A0 l0.length c0, .int .i64 a1, .agg #[.int .i64 a2_0, .bool a2_1, .slice A2_2 l2_2.length c2_2, .slice A2_3 l2_3.length c2_3], .agg #[.int .i64 a3_0, .bool a3_1, .slice A3_2 l3_2.length c3_2, .slice A3_3 l3_3.length c3_3]] w fun e w' => e = .returned (.bool r) ∧ Below w.heap.size w w' := by
  have hu46 := Try.underlying46
  have HR0 := Aside0.mk hr0
  have HC0 := Aside0.mk hc0
  clear hr0 hc0
  have HR2_2 := Aside0.mk hr2_2
  have HC2_2 := Aside0.mk hc2_2
  clear hr2_2 hc2_2
  have HR2_3 := Aside0.mk hr2_3
  have HC2_3 := Aside0.mk hc2_3
  clear hr2_3 hc2_3
  have HR3_2 := Aside0.mk hr3_2
  have HC3_2 := Aside0.mk hc3_2
  clear hr3_2 hc3_2
  have HR3_3 := Aside0.mk hr3_3
  have HC3_3 := Aside0.mk hc3_3
  clear hr3_3 hc3_3
  have HB := Aside0.mk (Below.refl w.heap.size w)
  have H : (if (a2_1 != a3_1) = true then (spec_SameTold.j0 k l0 a1 true a2_0 a2_1 l2_2 l2_3 a3_0 a3_1 l3_2 l3_3) else (if (l2_2.length : Int) = (l3_2.length : Int) then ((spec_Same.f k l2_3 l3_3).bind fun t111 => (spec_SameTold.j0 k l0 a1 (!t111) a2_0 a2_1 l2_2 l2_3 a3_0 a3_1 l3_2 l3_3)) else (spec_SameTold.j0 k l0 a1 true a2_0 a2_1 l2_2 l2_3 a3_0 a3_1 l3_2 l3_3))) = some r := h
  clear h
  have HC5 := Aside0.mk H
  clear H
  go_enter Try.func49, Try.ntmps49
  go_upto_region 1 with (first | ((with_reducible refine gate_dst (N := 6) rfl ?_); (try (refine gate_guard (by rfl) ?_; dsimp only)); refine box_event ?hg (N := 6) ?hd (cs := #[.int .i64 a2_0, .bool a2_1, .slice A2_2 l2_2.length c2_2, .slice A2_3 l2_3.length c2_3]) (t := 46) ?hr ?_; (case hd => rfl); (case hg => rfl); (case hr => first | (go_simp; done) | (go_simp; rfl)); intro gb109 hg w6 hbox hb; have n0_ := Aside0.mk (below_step (by repeat (first | (with_reducible first | exact HB.out | apply below_alloc | apply pw_below_drewN | apply below_drew1) | exact HB.out)) hb); have n1_ := Aside0.mk (hbox); have n2_ := Aside0.mk ((by rw [hg]; exact (below_size (by repeat (first | (with_reducible first | exact HB.out | apply below_alloc | apply pw_below_drewN | apply below_drew1) | exact HB.out))) : w.heap.size ≤ gb109)); have n3_ := Aside0.mk ((by rw [hg]; exact (below_size (by repeat (first | (with_reducible first | exact HB.out | apply below_alloc | apply pw_below_drewN | apply below_drew1) | exact HB.out))) : w.heap.size ≤ gb109)); clear HB; have HB := n0_; have BK109 := n1_; have GW109 := n2_; have GE109 := n3_; clear n0_ n1_ n2_ n3_; clear hb hbox hg) | ((with_reducible refine gate_dst (N := 7) rfl ?_); (try (refine gate_guard (by rfl) ?_; dsimp only)); refine box_event ?hg (N := 7) ?hd (cs := #[.int .i64 a3_0, .bool a3_1, .slice A3_2 l3_2.length c3_2, .slice A3_3 l3_3.length c3_3]) (t := 46) ?hr ?_; (case hd => rfl); (case hg => rfl); (case hr => first | (go_simp; done) | (go_simp; rfl)); intro gb110 hg w7 hbox hb; have n0_ := Aside0.mk (blk_below (g := gb109) (o := .cells #[.int .i64 a2_0, .bool a2_1, .slice A2_2 l2_2.length c2_2, .slice A2_3 l2_3.length c2_3] 46 (0, 0)) (by (with_reducible repeat (first | refine blk_drewN ?_ _ | refine blk_drew ?_ | refine blk_alloc ?_ _)); exact BK109.out) hb); have n1_ := Aside0.mk (below_step (by repeat (first | (with_reducible first | exact HB.out | apply below_alloc | apply pw_below_drewN | apply below_drew1 | refine below_set ?_ GE109.out) | exact HB.out)) hb); have n2_ := Aside0.mk (hbox); have n3_ := Aside0.mk ((by rw [hg]; exact (below_size (by repeat (first | (with_reducible first | exact HB.out | apply below_alloc | apply pw_below_drewN | apply below_drew1 | refine below_set ?_ GE109.out) | exact HB.out))) : w.heap.size ≤ gb110)); have n4_ := Aside0.mk ((by rw [hg]; exact (below_size (by repeat (first | (with_reducible first | exact HB.out | apply below_alloc | apply pw_below_drewN | apply below_drew1 | refine below_set ?_ GE109.out) | exact HB.out))) : w.heap.size ≤ gb110)); have n5_ := Aside0.mk ((by rw [hg]; exact Nat.ne_of_lt (blk_lt (g := gb109) (o := .cells #[.int .i64 a2_0, .bool a2_1, .slice A2_2 l2_2.length c2_2, .slice A2_3 l2_3.length c2_3] 46 (0, 0)) (by (with_reducible repeat (first | refine blk_drewN ?_ _ | refine blk_drew ?_ | refine blk_alloc ?_ _)); exact BK109.out)) : gb109 ≠ gb110)); have n6_ := Aside0.mk ((by rw [hg]; exact Nat.ne_of_gt (blk_lt (g := gb109) (o := .cells #[.int .i64 a2_0, .bool a2_1, .slice A2_2 l2_2.length c2_2, .slice A2_3 l2_3.length c2_3] 46 (0, 0)) (by (with_reducible repeat (first | refine blk_drewN ?_ _ | refine blk_drew ?_ | refine blk_alloc ?_ _)); exact BK109.out)) : gb110 ≠ gb109)); clear BK109; clear HB; have BK109 := n0_; have HB := n1_; have BK110 := n2_; have GW110 := n3_; have GE110 := n4_; have NB109_110 := n5_; have NB110_109 := n6_; clear n0_ n1_ n2_ n3_ n4_ n5_ n6_; clear hb hbox hg))
  repeat (go_quiet (first | ((with_reducible refine gate_dst (N := 6) rfl ?_); (try (refine gate_guard (by rfl) ?_; dsimp only)); refine box_event ?hg (N := 6) ?hd (cs := #[.int .i64 a2_0, .bool a2_1, .slice A2_2 l2_2.length c2_2, .slice A2_3 l2_3.length c2_3]) (t := 46) ?hr ?_; (case hd => rfl); (case hg => rfl); (case hr => first | (go_simp; done) | (go_simp; rfl)); intro gb109 hg w6 hbox hb; have n0_ := Aside0.mk (below_step (by repeat (first | (with_reducible first | exact HB.out | apply below_alloc | apply pw_below_drewN | apply below_drew1) | exact HB.out)) hb); have n1_ := Aside0.mk (hbox); have n2_ := Aside0.mk ((by rw [hg]; exact (below_size (by repeat (first | (with_reducible first | exact HB.out | apply below_alloc | apply pw_below_drewN | apply below_drew1) | exact HB.out))) : w.heap.size ≤ gb109)); have n3_ := Aside0.mk ((by rw [hg]; exact (below_size (by repeat (first | (with_reducible first | exact HB.out | apply below_alloc | apply pw_below_drewN | apply below_drew1) | exact HB.out))) : w.heap.size ≤ gb109)); clear HB; have HB := n0_; have BK109 := n1_; have GW109 := n2_; have GE109 := n3_; clear n0_ n1_ n2_ n3_; clear hb hbox hg) | ((with_reducible refine gate_dst (N := 7) rfl ?_); (try (refine gate_guard (by rfl) ?_; dsimp only)); refine box_event ?hg (N := 7) ?hd (cs := #[.int .i64 a3_0, .bool a3_1, .slice A3_2 l3_2.length c3_2, .slice A3_3 l3_3.length c3_3]) (t := 46) ?hr ?_; (case hd => rfl); (case hg => rfl); (case hr => first | (go_simp; done) | (go_simp; rfl)); intro gb110 hg w7 hbox hb; have n0_ := Aside0.mk (blk_below (g := gb109) (o := .cells #[.int .i64 a2_0, .bool a2_1, .slice A2_2 l2_2.length c2_2, .slice A2_3 l2_3.length c2_3] 46 (0, 0)) (by (with_reducible repeat (first | refine blk_drewN ?_ _ | refine blk_drew ?_ | refine blk_alloc ?_ _)); exact BK109.out) hb); have n1_ := Aside0.mk (below_step (by repeat (first | (with_reducible first | exact HB.out | apply below_alloc | apply pw_below_drewN | apply below_drew1 | refine below_set ?_ GE109.out) | exact HB.out)) hb); have n2_ := Aside0.mk (hbox); have n3_ := Aside0.mk ((by rw [hg]; exact (below_size (by repeat (first | (with_reducible first | exact HB.out | apply below_alloc | apply pw_below_drewN | apply below_drew1 | refine below_set ?_ GE109.out) | exact HB.out))) : w.heap.size ≤ gb110)); have n4_ := Aside0.mk ((by rw [hg]; exact (below_size (by repeat (first | (with_reducible first | exact HB.out | apply below_alloc | apply pw_below_drewN | apply below_drew1 | refine below_set ?_ GE109.out) | exact HB.out))) : w.heap.size ≤ gb110)); have n5_ := Aside0.mk ((by rw [hg]; exact Nat.ne_of_lt (blk_lt (g := gb109) (o := .cells #[.int .i64 a2_0, .bool a2_1, .slice A2_2 l2_2.length c2_2, .slice A2_3 l2_3.length c2_3] 46 (0, 0)) (by (with_reducible repeat (first | refine blk_drewN ?_ _ | refine blk_drew ?_ | refine blk_alloc ?_ _)); exact BK109.out)) : gb109 ≠ gb110)); have n6_ := Aside0.mk ((by rw [hg]; exact Nat.ne_of_gt (blk_lt (g := gb109) (o := .cells #[.int .i64 a2_0, .bool a2_1, .slice A2_2 l2_2.length c2_2, .slice A2_3 l2_3.length c2_3] 46 (0, 0)) (by (with_reducible repeat (first | refine blk_drewN ?_ _ | refine blk_drew ?_ | refine blk_alloc ?_ _)); exact BK109.out)) : gb110 ≠ gb109)); clear BK109; clear HB; have BK109 := n0_; have HB := n1_; have BK110 := n2_; have GW110 := n3_; have GE110 := n4_; have NB109_110 := n5_; have NB110_109 := n6_; clear n0_ n1_ n2_ n3_ n4_ n5_ n6_; clear hb hbox hg)); go_upto_region 1 with (first | ((with_reducible refine gate_dst (N := 6) rfl ?_); (try (refine gate_guard (by rfl) ?_; dsimp only)); refine box_event ?hg (N := 6) ?hd (cs := #[.int .i64 a2_0, .bool a2_1, .slice A2_2 l2_2.length c2_2, .slice A2_3 l2_3.length c2_3]) (t := 46) ?hr ?_; (case hd => rfl); (case hg => rfl); (case hr => first | (go_simp; done) | (go_simp; rfl)); intro gb109 hg w6 hbox hb; have n0_ := Aside0.mk (below_step (by repeat (first | (with_reducible first | exact HB.out | apply below_alloc | apply pw_below_drewN | apply below_drew1) | exact HB.out)) hb); have n1_ := Aside0.mk (hbox); have n2_ := Aside0.mk ((by rw [hg]; exact (below_size (by repeat (first | (with_reducible first | exact HB.out | apply below_alloc | apply pw_below_drewN | apply below_drew1) | exact HB.out))) : w.heap.size ≤ gb109)); have n3_ := Aside0.mk ((by rw [hg]; exact (below_size (by repeat (first | (with_reducible first | exact HB.out | apply below_alloc | apply pw_below_drewN | apply below_drew1) | exact HB.out))) : w.heap.size ≤ gb109)); clear HB; have HB := n0_; have BK109 := n1_; have GW109 := n2_; have GE109 := n3_; clear n0_ n1_ n2_ n3_; clear hb hbox hg) | ((with_reducible refine gate_dst (N := 7) rfl ?_); (try (refine gate_guard (by rfl) ?_; dsimp only)); refine box_event ?hg (N := 7) ?hd (cs := #[.int .i64 a3_0, .bool a3_1, .slice A3_2 l3_2.length c3_2, .slice A3_3 l3_3.length c3_3]) (t := 46) ?hr ?_; (case hd => rfl); (case hg => rfl); (case hr => first | (go_simp; done) | (go_simp; rfl)); intro gb110 hg w7 hbox hb; have n0_ := Aside0.mk (blk_below (g := gb109) (o := .cells #[.int .i64 a2_0, .bool a2_1, .slice A2_2 l2_2.length c2_2, .slice A2_3 l2_3.length c2_3] 46 (0, 0)) (by (with_reducible repeat (first | refine blk_drewN ?_ _ | refine blk_drew ?_ | refine blk_alloc ?_ _)); exact BK109.out) hb); have n1_ := Aside0.mk (below_step (by repeat (first | (with_reducible first | exact HB.out | apply below_alloc | apply pw_below_drewN | apply below_drew1 | refine below_set ?_ GE109.out) | exact HB.out)) hb); have n2_ := Aside0.mk (hbox); have n3_ := Aside0.mk ((by rw [hg]; exact (below_size (by repeat (first | (with_reducible first | exact HB.out | apply below_alloc | apply pw_below_drewN | apply below_drew1 | refine below_set ?_ GE109.out) | exact HB.out))) : w.heap.size ≤ gb110)); have n4_ := Aside0.mk ((by rw [hg]; exact (below_size (by repeat (first | (with_reducible first | exact HB.out | apply below_alloc | apply pw_below_drewN | apply below_drew1 | refine below_set ?_ GE109.out) | exact HB.out))) : w.heap.size ≤ gb110)); have n5_ := Aside0.mk ((by rw [hg]; exact Nat.ne_of_lt (blk_lt (g := gb109) (o := .cells #[.int .i64 a2_0, .bool a2_1, .slice A2_2 l2_2.length c2_2, .slice A2_3 l2_3.length c2_3] 46 (0, 0)) (by (with_reducible repeat (first | refine blk_drewN ?_ _ | refine blk_drew ?_ | refine blk_alloc ?_ _)); exact BK109.out)) : gb109 ≠ gb110)); have n6_ := Aside0.mk ((by rw [hg]; exact Nat.ne_of_gt (blk_lt (g := gb109) (o := .cells #[.int .i64 a2_0, .bool a2_1, .slice A2_2 l2_2.length c2_2, .slice A2_3 l2_3.length c2_3] 46 (0, 0)) (by (with_reducible repeat (first | refine blk_drewN ?_ _ | refine blk_drew ?_ | refine blk_alloc ?_ _)); exact BK109.out)) : gb110 ≠ gb109)); clear BK109; clear HB; have BK109 := n0_; have HB := n1_; have BK110 := n2_; have GW110 := n3_; have GE110 := n4_; have NB109_110 := n5_; have NB110_109 := n6_; clear n0_ n1_ n2_ n3_ n4_ n5_ n6_; clear hb hbox hg)))
  (try simp only [Act.put, List.setIfInBounds_toArray, List.set_cons_zero, List.set_cons_succ])
  go_cut [31] (fun v31 wc => ∃ (kq : Nat) (x31_4 : Bool), v31 = .bool x31_4 ∧ Aside0 (spec_SameTold.j0 kq l0 a1 x31_4 a2_0 a2_1 l2_2 l2_3 a3_0 a3_1 l3_2 l3_3 = some r) ∧ Aside0 (kq ≤ k) ∧ Aside0 (wc.heap[gb109]? = some (.cells #[.int .i64 a2_0, .bool a2_1, (.slice A2_2 l2_2.length c2_2), (.slice A2_3 l2_3.length c2_3)] 46 (0, 0))) ∧ Aside0 (wc.heap[gb110]? = some (.cells #[.int .i64 a3_0, .bool a3_1, (.slice A3_2 l3_2.length c3_2), (.slice A3_3 l3_3.length c3_3)] 46 (0, 0))) ∧ Aside0 (Below w.heap.size w wc))
  case first =>
    have H := HC5.out
    clear HC5
    by_cases c8 : (a2_1 != a3_1) = true
    · rw [if_pos c8] at H
      have c8b0 : (a2_1 != a3_1) = true := c8
      (try (have c8b1 : decide (a2_1 = a3_1) = false := by simpa using c8))
      (try (have c8b2 : (a2_1 == a3_1) = false := by simpa using c8))
      (try (have c8b3 : ¬ (a2_1 = a3_1) := by simpa using c8))
      clear c8
      (first | rw [c8b0] | (simp only [i64_w, i32_w]; rw [c8b0]) | skip)
      have H' := Aside0.mk H
      clear H
      have hnb9 := NB109_110.out
      have hnc9 := NB110_109.out
      have hcz10_0 : w7.cell? ⟨gb109, 0, none⟩ = some (.int .i64 a2_0) := (blk_cell BK109.out 0).trans rfl
      have hcz10_1 : w7.cell? ⟨gb109, 1, none⟩ = some (.bool a2_1) := (blk_cell BK109.out 1).trans rfl
      have hcz10_2 : w7.cell? ⟨gb109, 2, none⟩ = some (.slice A2_2 l2_2.length c2_2) := (blk_cell BK109.out 2).trans rfl
      have hcz10_3 : w7.cell? ⟨gb109, 3, none⟩ = some (.slice A2_3 l2_3.length c2_3) := (blk_cell BK109.out 3).trans rfl
      have hfz10_0 := blk_frozen BK109.out 0
      have hfz10_1 := blk_frozen BK109.out 1
      have hfz10_2 := blk_frozen BK109.out 2
      have hfz10_3 := blk_frozen BK109.out 3
      have hcz11_0 : w7.cell? ⟨gb110, 0, none⟩ = some (.int .i64 a3_0) := (blk_cell BK110.out 0).trans rfl
      have hcz11_1 : w7.cell? ⟨gb110, 1, none⟩ = some (.bool a3_1) := (blk_cell BK110.out 1).trans rfl
      have hcz11_2 : w7.cell? ⟨gb110, 2, none⟩ = some (.slice A3_2 l3_2.length c3_2) := (blk_cell BK110.out 2).trans rfl
      have hcz11_3 : w7.cell? ⟨gb110, 3, none⟩ = some (.slice A3_3 l3_3.length c3_3) := (blk_cell BK110.out 3).trans rfl
      have hfz11_0 := blk_frozen BK110.out 0
      have hfz11_1 := blk_frozen BK110.out 1
      have hfz11_2 := blk_frozen BK110.out 2
      have hfz11_3 := blk_frozen BK110.out 3
      go_wp2
      repeat (go_quiet (fail); try go_wp2)
      go_meet
      case rel => exact ⟨_, (true), (by first | rfl | (simp; done) | (simp [*]; done)), H', ⟨by first | omega | exact Nat.le_refl _⟩, ⟨by (with_reducible repeat (first | refine blk_drewN ?_ _ | refine blk_drew ?_ | refine blk_alloc ?_ _)); exact BK109.out⟩, ⟨by (with_reducible repeat (first | refine blk_drewN ?_ _ | refine blk_drew ?_ | refine blk_alloc ?_ _)); exact BK110.out⟩, ⟨by repeat (first | (with_reducible first | exact HB.out | apply below_alloc | apply pw_below_drewN | apply below_drew1 | refine below_set ?_ GE109.out | refine below_set ?_ GE110.out) | exact HB.out)⟩⟩
    · rw [if_neg c8] at H
      have c8b0 : (a2_1 != a3_1) = false := by simpa using c8
      (try (have c8b1 : decide (a2_1 = a3_1) = true := by simpa using c8))
      (try (have c8b2 : (a2_1 == a3_1) = true := by simpa using c8))
      clear c8
      (first | rw [c8b0] | (simp only [i64_w, i32_w]; rw [c8b0]) | skip)
      by_cases c12 : (l2_2.length : Int) = (l3_2.length : Int)
      · rw [if_pos c12] at H
        have c12b0 : ((l2_2.length : Int) == (l3_2.length : Int)) = true := beq_iff_eq.mpr c12
        have c12b1 : ((l2_2.length : Int) != (l3_2.length : Int)) = false := bne_eq_false_iff_eq.mpr c12
        have c12b2 : (l2_2.length == l3_2.length) = true := by first | simpa using c12 | (simp at c12 ⊢; omega)
        clear c12
        replace H := Option.bind_eq_some_iff.mp H
        obtain ⟨t111, A130, H⟩ := H
        replace H : (spec_SameTold.j0 k l0 a1 (!t111) a2_0 a2_1 l2_2 l2_3 a3_0 a3_1 l3_2 l3_3) = some r := H
        have A13 := Aside0.mk A130
        clear A130
        have H' := Aside0.mk H
        clear H
        have hnb14 := NB109_110.out
        have hnc14 := NB110_109.out
        have hcz15_0 : w7.cell? ⟨gb109, 0, none⟩ = some (.int .i64 a2_0) := (blk_cell BK109.out 0).trans rfl
        have hcz15_1 : w7.cell? ⟨gb109, 1, none⟩ = some (.bool a2_1) := (blk_cell BK109.out 1).trans rfl
        have hcz15_2 : w7.cell? ⟨gb109, 2, none⟩ = some (.slice A2_2 l2_2.length c2_2) := (blk_cell BK109.out 2).trans rfl
        have hcz15_3 : w7.cell? ⟨gb109, 3, none⟩ = some (.slice A2_3 l2_3.length c2_3) := (blk_cell BK109.out 3).trans rfl
        have hfz15_0 := blk_frozen BK109.out 0
        have hfz15_1 := blk_frozen BK109.out 1
        have hfz15_2 := blk_frozen BK109.out 2
        have hfz15_3 := blk_frozen BK109.out 3
        have hcz16_0 : w7.cell? ⟨gb110, 0, none⟩ = some (.int .i64 a3_0) := (blk_cell BK110.out 0).trans rfl
        have hcz16_1 : w7.cell? ⟨gb110, 1, none⟩ = some (.bool a3_1) := (blk_cell BK110.out 1).trans rfl
        have hcz16_2 : w7.cell? ⟨gb110, 2, none⟩ = some (.slice A3_2 l3_2.length c3_2) := (blk_cell BK110.out 2).trans rfl
        have hcz16_3 : w7.cell? ⟨gb110, 3, none⟩ = some (.slice A3_3 l3_3.length c3_3) := (blk_cell BK110.out 3).trans rfl
        have hfz16_0 := blk_frozen BK110.out 0
        have hfz16_1 := blk_frozen BK110.out 1
        have hfz16_2 := blk_frozen BK110.out 2
        have hfz16_3 := blk_frozen BK110.out 3
        go_wp2_with (first | (go_at_call 18; (with_reducible refine (spec_Same.calls k _ _ l2_3 _ _ l3_3 t111 _ ?side1 ?side2 ?side3 ?side4 A13.out).mono ?_); (case side1 => repeat (first | exact (Kd.C_below HR2_3.out HB.out) | (with_reducible refine Kd.C_alloc ?_ _) | (with_reducible refine Kd.C_drewN ?_ _) | (with_reducible refine Kd.C_drew ?_))); (case side2 => exact HC2_3.out); (case side3 => repeat (first | exact (Kd.C_below HR3_3.out HB.out) | (with_reducible refine Kd.C_alloc ?_ _) | (with_reducible refine Kd.C_drewN ?_ _) | (with_reducible refine Kd.C_drew ?_))); (case side4 => exact HC3_3.out); rintro e w' ⟨rfl, ⟨nd, rfl⟩⟩; (try first | exact ⟨rfl, _, World.drewN_drewN _ _ _⟩ | exact ⟨rfl, _, Eq.trans (World.drewN_drewN _ _ _) (congrArg (World.drewN _) (Nat.add_assoc _ _ _))⟩)))
        repeat (go_quiet (first | (go_at_call 18; (with_reducible refine (spec_Same.calls k _ _ l2_3 _ _ l3_3 t111 _ ?side1 ?side2 ?side3 ?side4 A13.out).mono ?_); (case side1 => repeat (first | exact (Kd.C_below HR2_3.out HB.out) | (with_reducible refine Kd.C_alloc ?_ _) | (with_reducible refine Kd.C_drewN ?_ _) | (with_reducible refine Kd.C_drew ?_))); (case side2 => exact HC2_3.out); (case side3 => repeat (first | exact (Kd.C_below HR3_3.out HB.out) | (with_reducible refine Kd.C_alloc ?_ _) | (with_reducible refine Kd.C_drewN ?_ _) | (with_reducible refine Kd.C_drew ?_))); (case side4 => exact HC3_3.out); rintro e w' ⟨rfl, ⟨nd, rfl⟩⟩; (try first | exact ⟨rfl, _, World.drewN_drewN _ _ _⟩ | exact ⟨rfl, _, Eq.trans (World.drewN_drewN _ _ _) (congrArg (World.drewN _) (Nat.add_assoc _ _ _))⟩))); try go_wp2_with (first | (go_at_call 18; (with_reducible refine (spec_Same.calls k _ _ l2_3 _ _ l3_3 t111 _ ?side1 ?side2 ?side3 ?side4 A13.out).mono ?_); (case side1 => repeat (first | exact (Kd.C_below HR2_3.out HB.out) | (with_reducible refine Kd.C_alloc ?_ _) | (with_reducible refine Kd.C_drewN ?_ _) | (with_reducible refine Kd.C_drew ?_))); (case side2 => exact HC2_3.out); (case side3 => repeat (first | exact (Kd.C_below HR3_3.out HB.out) | (with_reducible refine Kd.C_alloc ?_ _) | (with_reducible refine Kd.C_drewN ?_ _) | (with_reducible refine Kd.C_drew ?_))); (case side4 => exact HC3_3.out); rintro e w' ⟨rfl, ⟨nd, rfl⟩⟩; (try first | exact ⟨rfl, _, World.drewN_drewN _ _ _⟩ | exact ⟨rfl, _, Eq.trans (World.drewN_drewN _ _ _) (congrArg (World.drewN _) (Nat.add_assoc _ _ _))⟩))))
        go_meet
        case rel => exact ⟨_, (!t111), (by first | rfl | (simp; done) | (simp [*]; done)), H', ⟨by first | omega | exact Nat.le_refl _⟩, ⟨by (with_reducible repeat (first | refine blk_drewN ?_ _ | refine blk_drew ?_ | refine blk_alloc ?_ _)); exact BK109.out⟩, ⟨by (with_reducible repeat (first | refine blk_drewN ?_ _ | refine blk_drew ?_ | refine blk_alloc ?_ _)); exact BK110.out⟩, ⟨by repeat (first | (with_reducible first | exact HB.out | apply below_alloc | apply pw_below_drewN | apply below_drew1 | refine below_set ?_ GE109.out | refine below_set ?_ GE110.out) | exact HB.out)⟩⟩
      · rw [if_neg c12] at H
        have c12b0 : ((l2_2.length : Int) == (l3_2.length : Int)) = false := beq_eq_false_iff_ne.mpr c12
        have c12b1 : ((l2_2.length : Int) != (l3_2.length : Int)) = true := bne_iff_ne.mpr c12
        have c12b2 : (l2_2.length == l3_2.length) = false := by first | simpa using c12 | (simp at c12 ⊢; omega)
        have H' := Aside0.mk H
        clear H
        have hnb17 := NB109_110.out
        have hnc17 := NB110_109.out
        have hcz18_0 : w7.cell? ⟨gb109, 0, none⟩ = some (.int .i64 a2_0) := (blk_cell BK109.out 0).trans rfl
        have hcz18_1 : w7.cell? ⟨gb109, 1, none⟩ = some (.bool a2_1) := (blk_cell BK109.out 1).trans rfl
        have hcz18_2 : w7.cell? ⟨gb109, 2, none⟩ = some (.slice A2_2 l2_2.length c2_2) := (blk_cell BK109.out 2).trans rfl
        have hcz18_3 : w7.cell? ⟨gb109, 3, none⟩ = some (.slice A2_3 l2_3.length c2_3) := (blk_cell BK109.out 3).trans rfl
        have hfz18_0 := blk_frozen BK109.out 0
        have hfz18_1 := blk_frozen BK109.out 1
        have hfz18_2 := blk_frozen BK109.out 2
        have hfz18_3 := blk_frozen BK109.out 3
        have hcz19_0 : w7.cell? ⟨gb110, 0, none⟩ = some (.int .i64 a3_0) := (blk_cell BK110.out 0).trans rfl
        have hcz19_1 : w7.cell? ⟨gb110, 1, none⟩ = some (.bool a3_1) := (blk_cell BK110.out 1).trans rfl
        have hcz19_2 : w7.cell? ⟨gb110, 2, none⟩ = some (.slice A3_2 l3_2.length c3_2) := (blk_cell BK110.out 2).trans rfl
        have hcz19_3 : w7.cell? ⟨gb110, 3, none⟩ = some (.slice A3_3 l3_3.length c3_3) := (blk_cell BK110.out 3).trans rfl
        have hfz19_0 := blk_frozen BK110.out 0
        have hfz19_1 := blk_frozen BK110.out 1
        have hfz19_2 := blk_frozen BK110.out 2
        have hfz19_3 := blk_frozen BK110.out 3
        go_wp2
        repeat (go_quiet (fail); try go_wp2)
        go_meet
        case rel => exact ⟨_, (true), (by first | rfl | (simp; done) | (simp [*]; done)), H', ⟨by first | omega | exact Nat.le_refl _⟩, ⟨by (with_reducible repeat (first | refine blk_drewN ?_ _ | refine blk_drew ?_ | refine blk_alloc ?_ _)); exact BK109.out⟩, ⟨by (with_reducible repeat (first | refine blk_drewN ?_ _ | refine blk_drew ?_ | refine blk_alloc ?_ _)); exact BK110.out⟩, ⟨by repeat (first | (with_reducible first | exact HB.out | apply below_alloc | apply pw_below_drewN | apply below_drew1 | refine below_set ?_ GE109.out | refine below_set ?_ GE110.out) | exact HB.out)⟩⟩
  case rest =>
    clear HC5
    try clear c1
    try clear c2
    try clear p2
    try clear c3
    try clear c4
    try clear c8
    try clear c8b0
    try clear c8b1
    try clear c8b2
    try clear c9
    try clear c12
    try clear c12b0
    try clear c12b1
    try clear c12b2
    try clear c14
    try clear c17
    try clear hcz10_0
    try clear hcz10_1
    try clear hcz10_2
    try clear hcz10_3
    try clear hcz11_0
    try clear hcz11_1
    try clear hcz11_2
    try clear hcz11_3
    try clear hcz15_0
    try clear hcz15_1
    try clear hcz15_2
    try clear hcz15_3
    try clear hcz16_0
    try clear hcz16_1
    try clear hcz16_2
    try clear hcz16_3
    try clear hcz18_0
    try clear hcz18_1
    try clear hcz18_2
    try clear hcz18_3
    try clear hcz19_0
    try clear hcz19_1
    try clear hcz19_2
    try clear hcz19_3
    try clear hfz10_0
    try clear hfz10_1
    try clear hfz10_2
    try clear hfz10_3
    try clear hfz11_0
    try clear hfz11_1
    try clear hfz11_2
    try clear hfz11_3
    try clear hfz15_0
    try clear hfz15_1
    try clear hfz15_2
    try clear hfz15_3
    try clear hfz16_0
    try clear hfz16_1
    try clear hfz16_2
    try clear hfz16_3
    try clear hfz18_0
    try clear hfz18_1
    try clear hfz18_2
    try clear hfz18_3
    try clear hfz19_0
    try clear hfz19_1
    try clear hfz19_2
    try clear hfz19_3
    obtain ⟨kq, x31_4, rfl, HA, HJ4, BK109, BK110, HB⟩ := hcut
    cases kq with
    | zero => exact absurd HA.out (by simp [spec_SameTold.j0])
    | succ kj4 =>
      have H := HA.out
      clear HA
      simp only [spec_SameTold.j0] at H
      by_cases c20 : x31_4 = true
      · subst c20
        have H1 : (some false) = some r := by rw [if_pos rfl] at H; exact H
        clear H
        have H := H1
        clear H1
        obtain rfl := Option.some.inj H
        go_wp2
        repeat (go_quiet (fail); try go_wp2)
        go_ret
        exact ⟨by first | rfl | (simp [errW_none, errW_some] <;> rfl) | (simp [*, errW_none, errW_some] <;> rfl), by repeat (first | (with_reducible first | exact HB.out | apply below_alloc | apply pw_below_drewN | apply below_drew1 | refine below_set ?_ GE109.out | refine below_set ?_ GE110.out) | exact HB.out)⟩
      · replace c20 := Bool.eq_false_iff.mpr c20
        subst c20
        have H1 : (spec_SameTold.l0 kj4 l0 a1 0 a2_0 a2_1 l2_2 l2_3 a3_0 a3_1 l3_2 l3_3) = some r := by rw [if_neg (show ¬ (false = true) by decide)] at H; exact H
        clear H
        have H := H1
        clear H1
        have H' := Aside0.mk H
        clear H
        go_wp2
        repeat (go_quiet (fail); try go_wp2)
        go_loopg [9] kj4 (fun kq v9 w' => ∃ (x9_2 : Int), v9 = .int .i64 x9_2 ∧ Aside0 (spec_SameTold.l0 kq l0 a1 x9_2 a2_0 a2_1 l2_2 l2_3 a3_0 a3_1 l3_2 l3_3 = some r) ∧ Aside0 (kq ≤ kj4) ∧ Aside0 (w'.heap[gb109]? = some (.cells #[.int .i64 a2_0, .bool a2_1, (.slice A2_2 l2_2.length c2_2), (.slice A2_3 l2_3.length c2_3)] 46 (0, 0))) ∧ Aside0 (w'.heap[gb110]? = some (.cells #[.int .i64 a3_0, .bool a3_1, (.slice A3_2 l3_2.length c3_2), (.slice A3_3 l3_3.length c3_3)] 46 (0, 0))) ∧ Aside0 (Below w.heap.size w w'))
        case atStart => exact ⟨(0), (by first | rfl | (simp; done) | (simp [*]; done)), H', ⟨Nat.le_refl _⟩, ⟨by (with_reducible repeat (first | refine blk_drewN ?_ _ | refine blk_drew ?_ | refine blk_alloc ?_ _)); exact BK109.out⟩, ⟨by (with_reducible repeat (first | refine blk_drewN ?_ _ | refine blk_drew ?_ | refine blk_alloc ?_ _)); exact BK110.out⟩, ⟨by repeat (first | (with_reducible first | exact HB.out | apply below_alloc | apply pw_below_drewN | apply below_drew1 | refine below_set ?_ GE109.out | refine below_set ?_ GE110.out) | exact HB.out)⟩⟩
        case round =>
          clear H'
          try clear c1
          try clear c2
          try clear p2
          try clear c3
          try clear c4
          try clear c8
          try clear c8b0
          try clear c8b1
          try clear c8b2
          try clear c9
          try clear c12
          try clear c12b0
          try clear c12b1
          try clear c12b2
          try clear c14
          try clear c17
          try clear c20
          try clear hcz10_0
          try clear hcz10_1
          try clear hcz10_2
          try clear hcz10_3
          try clear hcz11_0
          try clear hcz11_1
          try clear hcz11_2
          try clear hcz11_3
          try clear hcz15_0
          try clear hcz15_1
          try clear hcz15_2
          try clear hcz15_3
          try clear hcz16_0
          try clear hcz16_1
          try clear hcz16_2
          try clear hcz16_3
          try clear hcz18_0
          try clear hcz18_1
          try clear hcz18_2
          try clear hcz18_3
          try clear hcz19_0
          try clear hcz19_1
          try clear hcz19_2
          try clear hcz19_3
          try clear hfz10_0
          try clear hfz10_1
          try clear hfz10_2
          try clear hfz10_3
          try clear hfz11_0
          try clear hfz11_1
          try clear hfz11_2
          try clear hfz11_3
          try clear hfz15_0
          try clear hfz15_1
          try clear hfz15_2
          try clear hfz15_3
          try clear hfz16_0
          try clear hfz16_1
          try clear hfz16_2
          try clear hfz16_3
          try clear hfz18_0
          try clear hfz18_1
          try clear hfz18_2
          try clear hfz18_3
          try clear hfz19_0
          try clear hfz19_1
          try clear hfz19_2
          try clear hfz19_3
          try clear p2
          obtain ⟨x9_2, rfl, HA, HK2, BK109, BK110, HB⟩ := hrel
          cases gk with
          | zero => exact absurd HA.out (by simp [spec_SameTold.l0])
          | succ k2 =>
            have H := HA.out
            clear HA
            simp only [spec_SameTold.l0] at H
            by_cases c21 : x9_2 < (l2_2.length : Int)
            · rw [if_pos c21] at H
              have c21b0 : decide (x9_2 < (l2_2.length : Int)) = true := decide_eq_true c21
              clear c21
              by_cases c22 : 0 ≤ x9_2
              · rw [if_pos c22] at H
                have c22b0 : decide (0 ≤ x9_2) = true := decide_eq_true c22
                clear c22
                by_cases c23 : x9_2 < (l3_2.length : Int)
                · rw [if_pos c23] at H
                  have c23b0 : decide (x9_2 < (l3_2.length : Int)) = true := decide_eq_true c23
                  clear c23
                  replace H := Option.bind_eq_some_iff.mp H
                  obtain ⟨t114, A240, H⟩ := H
                  replace H : (if t114 = true then (spec_SameTold.l0 k2 l0 a1 (wrap64 (x9_2 + 1)) a2_0 a2_1 l2_2 l2_3 a3_0 a3_1 l3_2 l3_3) else (some false)) = some r := H
                  have A24 := Aside0.mk A240
                  clear A240
                  by_cases c25 : t114 = true
                  · subst c25
                    have H1 : (spec_SameTold.l0 k2 l0 a1 (wrap64 (x9_2 + 1)) a2_0 a2_1 l2_2 l2_3 a3_0 a3_1 l3_2 l3_3) = some r := by rw [if_pos rfl] at H; exact H
                    clear H
                    have H := H1
                    clear H1
                    have H' := Aside0.mk H
                    clear H
                    have hnb26 := NB109_110.out
                    have hnc26 := NB110_109.out
                    have hcz27_0 : wr.cell? ⟨gb109, 0, none⟩ = some (.int .i64 a2_0) := (blk_cell BK109.out 0).trans rfl
                    have hcz27_1 : wr.cell? ⟨gb109, 1, none⟩ = some (.bool a2_1) := (blk_cell BK109.out 1).trans rfl
                    have hcz27_2 : wr.cell? ⟨gb109, 2, none⟩ = some (.slice A2_2 l2_2.length c2_2) := (blk_cell BK109.out 2).trans rfl
                    have hcz27_3 : wr.cell? ⟨gb109, 3, none⟩ = some (.slice A2_3 l2_3.length c2_3) := (blk_cell BK109.out 3).trans rfl
                    have hfz27_0 := blk_frozen BK109.out 0
                    have hfz27_1 := blk_frozen BK109.out 1
                    have hfz27_2 := blk_frozen BK109.out 2
                    have hfz27_3 := blk_frozen BK109.out 3
                    have p112 : 0 ≤ (x9_2 : Int) := of_decide_eq_true (by first | (with_reducible assumption) | assumption)
                    have q112 : x9_2 < (l2_2.length : Int) := of_decide_eq_true (by first | (with_reducible assumption) | assumption)
                    obtain ⟨ad112, e112, hx112_0⟩ := Kd.at_int HR2_2.out x9_2 p112 q112
                    cases e112
                    replace hx112_0 := (HB.out.cell (World.block_lt_of_cell? w _ hx112_0)).trans hx112_0
                    replace p112 := eq_true p112
                    replace q112 := eq_true q112
                    have hcz28_0 : wr.cell? ⟨gb110, 0, none⟩ = some (.int .i64 a3_0) := (blk_cell BK110.out 0).trans rfl
                    have hcz28_1 : wr.cell? ⟨gb110, 1, none⟩ = some (.bool a3_1) := (blk_cell BK110.out 1).trans rfl
                    have hcz28_2 : wr.cell? ⟨gb110, 2, none⟩ = some (.slice A3_2 l3_2.length c3_2) := (blk_cell BK110.out 2).trans rfl
                    have hcz28_3 : wr.cell? ⟨gb110, 3, none⟩ = some (.slice A3_3 l3_3.length c3_3) := (blk_cell BK110.out 3).trans rfl
                    have hfz28_0 := blk_frozen BK110.out 0
                    have hfz28_1 := blk_frozen BK110.out 1
                    have hfz28_2 := blk_frozen BK110.out 2
                    have hfz28_3 := blk_frozen BK110.out 3
                    have p113 : 0 ≤ (x9_2 : Int) := of_decide_eq_true (by first | (with_reducible assumption) | assumption)
                    have q113 : x9_2 < (l3_2.length : Int) := of_decide_eq_true (by first | (with_reducible assumption) | assumption)
                    obtain ⟨ad113, e113, hx113_0⟩ := Kd.at_int HR3_2.out x9_2 p113 q113
                    cases e113
                    replace hx113_0 := (HB.out.cell (World.block_lt_of_cell? w _ hx113_0)).trans hx113_0
                    replace p113 := eq_true p113
                    replace q113 := eq_true q113
                    go_wp2_with (first | (go_at_call 37; (with_reducible refine (spec_Alike.calls _ _ l0 (rd l2_2 x9_2) (rd l3_2 x9_2) true _ ?side1 ?side2 A24.out).mono ?_); (case side1 => repeat (first | exact (Kd.C_below HR0.out HB.out) | (with_reducible refine Kd.C_alloc ?_ _) | (with_reducible refine Kd.C_drewN ?_ _) | (with_reducible refine Kd.C_drew ?_))); (case side2 => exact HC0.out); rintro e w' ⟨rfl, ⟨nd, rfl⟩⟩; (try first | exact ⟨rfl, _, World.drewN_drewN _ _ _⟩ | exact ⟨rfl, _, Eq.trans (World.drewN_drewN _ _ _) (congrArg (World.drewN _) (Nat.add_assoc _ _ _))⟩)))
                    repeat (go_quiet (first | (go_at_call 37; (with_reducible refine (spec_Alike.calls _ _ l0 (rd l2_2 x9_2) (rd l3_2 x9_2) true _ ?side1 ?side2 A24.out).mono ?_); (case side1 => repeat (first | exact (Kd.C_below HR0.out HB.out) | (with_reducible refine Kd.C_alloc ?_ _) | (with_reducible refine Kd.C_drewN ?_ _) | (with_reducible refine Kd.C_drew ?_))); (case side2 => exact HC0.out); rintro e w' ⟨rfl, ⟨nd, rfl⟩⟩; (try first | exact ⟨rfl, _, World.drewN_drewN _ _ _⟩ | exact ⟨rfl, _, Eq.trans (World.drewN_drewN _ _ _) (congrArg (World.drewN _) (Nat.add_assoc _ _ _))⟩))); try go_wp2_with (first | (go_at_call 37; (with_reducible refine (spec_Alike.calls _ _ l0 (rd l2_2 x9_2) (rd l3_2 x9_2) true _ ?side1 ?side2 A24.out).mono ?_); (case side1 => repeat (first | exact (Kd.C_below HR0.out HB.out) | (with_reducible refine Kd.C_alloc ?_ _) | (with_reducible refine Kd.C_drewN ?_ _) | (with_reducible refine Kd.C_drew ?_))); (case side2 => exact HC0.out); rintro e w' ⟨rfl, ⟨nd, rfl⟩⟩; (try first | exact ⟨rfl, _, World.drewN_drewN _ _ _⟩ | exact ⟨rfl, _, Eq.trans (World.drewN_drewN _ _ _) (congrArg (World.drewN _) (Nat.add_assoc _ _ _))⟩))))
                    go_roundg k2
                    case measure => have := HJ4.out; have := HK2.out; omega
                    case rel => exact ⟨(wrap64 (x9_2 + 1)), (by first | rfl | (simp; done) | (simp [*]; done)), H', ⟨by have := HJ4.out; have := HK2.out; omega⟩, ⟨by (with_reducible repeat (first | refine blk_drewN ?_ _ | refine blk_drew ?_ | refine blk_alloc ?_ _)); exact BK109.out⟩, ⟨by (with_reducible repeat (first | refine blk_drewN ?_ _ | refine blk_drew ?_ | refine blk_alloc ?_ _)); exact BK110.out⟩, ⟨by repeat (first | (with_reducible first | exact HB.out | apply below_alloc | apply pw_below_drewN | apply below_drew1 | refine below_set ?_ GE109.out | refine below_set ?_ GE110.out) | exact HB.out)⟩⟩
                  · replace c25 := Bool.eq_false_iff.mpr c25
                    subst c25
                    have H1 : (some false) = some r := by rw [if_neg (show ¬ (false = true) by decide)] at H; exact H
                    clear H
                    have H := H1
                    clear H1
                    obtain rfl := Option.some.inj H
                    have hnb29 := NB109_110.out
                    have hnc29 := NB110_109.out
                    have hcz30_0 : wr.cell? ⟨gb109, 0, none⟩ = some (.int .i64 a2_0) := (blk_cell BK109.out 0).trans rfl
                    have hcz30_1 : wr.cell? ⟨gb109, 1, none⟩ = some (.bool a2_1) := (blk_cell BK109.out 1).trans rfl
                    have hcz30_2 : wr.cell? ⟨gb109, 2, none⟩ = some (.slice A2_2 l2_2.length c2_2) := (blk_cell BK109.out 2).trans rfl
                    have hcz30_3 : wr.cell? ⟨gb109, 3, none⟩ = some (.slice A2_3 l2_3.length c2_3) := (blk_cell BK109.out 3).trans rfl
                    have hfz30_0 := blk_frozen BK109.out 0
                    have hfz30_1 := blk_frozen BK109.out 1
                    have hfz30_2 := blk_frozen BK109.out 2
                    have hfz30_3 := blk_frozen BK109.out 3
                    have p112 : 0 ≤ (x9_2 : Int) := of_decide_eq_true (by first | (with_reducible assumption) | assumption)
                    have q112 : x9_2 < (l2_2.length : Int) := of_decide_eq_true (by first | (with_reducible assumption) | assumption)
                    obtain ⟨ad112, e112, hx112_0⟩ := Kd.at_int HR2_2.out x9_2 p112 q112
                    cases e112
                    replace hx112_0 := (HB.out.cell (World.block_lt_of_cell? w _ hx112_0)).trans hx112_0
                    replace p112 := eq_true p112
                    replace q112 := eq_true q112
                    have hcz31_0 : wr.cell? ⟨gb110, 0, none⟩ = some (.int .i64 a3_0) := (blk_cell BK110.out 0).trans rfl
                    have hcz31_1 : wr.cell? ⟨gb110, 1, none⟩ = some (.bool a3_1) := (blk_cell BK110.out 1).trans rfl
                    have hcz31_2 : wr.cell? ⟨gb110, 2, none⟩ = some (.slice A3_2 l3_2.length c3_2) := (blk_cell BK110.out 2).trans rfl
                    have hcz31_3 : wr.cell? ⟨gb110, 3, none⟩ = some (.slice A3_3 l3_3.length c3_3) := (blk_cell BK110.out 3).trans rfl
                    have hfz31_0 := blk_frozen BK110.out 0
                    have hfz31_1 := blk_frozen BK110.out 1
                    have hfz31_2 := blk_frozen BK110.out 2
                    have hfz31_3 := blk_frozen BK110.out 3
                    have p113 : 0 ≤ (x9_2 : Int) := of_decide_eq_true (by first | (with_reducible assumption) | assumption)
                    have q113 : x9_2 < (l3_2.length : Int) := of_decide_eq_true (by first | (with_reducible assumption) | assumption)
                    obtain ⟨ad113, e113, hx113_0⟩ := Kd.at_int HR3_2.out x9_2 p113 q113
                    cases e113
                    replace hx113_0 := (HB.out.cell (World.block_lt_of_cell? w _ hx113_0)).trans hx113_0
                    replace p113 := eq_true p113
                    replace q113 := eq_true q113
                    go_wp2_with (first | (go_at_call 37; (with_reducible refine (spec_Alike.calls _ _ l0 (rd l2_2 x9_2) (rd l3_2 x9_2) false _ ?side1 ?side2 A24.out).mono ?_); (case side1 => repeat (first | exact (Kd.C_below HR0.out HB.out) | (with_reducible refine Kd.C_alloc ?_ _) | (with_reducible refine Kd.C_drewN ?_ _) | (with_reducible refine Kd.C_drew ?_))); (case side2 => exact HC0.out); rintro e w' ⟨rfl, ⟨nd, rfl⟩⟩; (try first | exact ⟨rfl, _, World.drewN_drewN _ _ _⟩ | exact ⟨rfl, _, Eq.trans (World.drewN_drewN _ _ _) (congrArg (World.drewN _) (Nat.add_assoc _ _ _))⟩)))
                    repeat (go_quiet (first | (go_at_call 37; (with_reducible refine (spec_Alike.calls _ _ l0 (rd l2_2 x9_2) (rd l3_2 x9_2) false _ ?side1 ?side2 A24.out).mono ?_); (case side1 => repeat (first | exact (Kd.C_below HR0.out HB.out) | (with_reducible refine Kd.C_alloc ?_ _) | (with_reducible refine Kd.C_drewN ?_ _) | (with_reducible refine Kd.C_drew ?_))); (case side2 => exact HC0.out); rintro e w' ⟨rfl, ⟨nd, rfl⟩⟩; (try first | exact ⟨rfl, _, World.drewN_drewN _ _ _⟩ | exact ⟨rfl, _, Eq.trans (World.drewN_drewN _ _ _) (congrArg (World.drewN _) (Nat.add_assoc _ _ _))⟩))); try go_wp2_with (first | (go_at_call 37; (with_reducible refine (spec_Alike.calls _ _ l0 (rd l2_2 x9_2) (rd l3_2 x9_2) false _ ?side1 ?side2 A24.out).mono ?_); (case side1 => repeat (first | exact (Kd.C_below HR0.out HB.out) | (with_reducible refine Kd.C_alloc ?_ _) | (with_reducible refine Kd.C_drewN ?_ _) | (with_reducible refine Kd.C_drew ?_))); (case side2 => exact HC0.out); rintro e w' ⟨rfl, ⟨nd, rfl⟩⟩; (try first | exact ⟨rfl, _, World.drewN_drewN _ _ _⟩ | exact ⟨rfl, _, Eq.trans (World.drewN_drewN _ _ _) (congrArg (World.drewN _) (Nat.add_assoc _ _ _))⟩))))
                    go_ret
                    exact ⟨by first | rfl | (simp [errW_none, errW_some] <;> rfl) | (simp [*, errW_none, errW_some] <;> rfl), by repeat (first | (with_reducible first | exact HB.out | apply below_alloc | apply pw_below_drewN | apply below_drew1 | refine below_set ?_ GE109.out | refine below_set ?_ GE110.out) | exact HB.out)⟩
                · rw [if_neg c23] at H
                  exact absurd H (by simp)
              · rw [if_neg c22] at H
                exact absurd H (by simp)
            · rw [if_neg c21] at H
              have c21b0 : decide (x9_2 < (l2_2.length : Int)) = false := decide_eq_false c21
              clear c21
              by_cases c32 : a1 = 2
              · rw [if_pos c32] at H
                have c32b0 : (a1 == 2) = true := beq_iff_eq.mpr c32
                have c32b1 : (a1 != 2) = false := bne_eq_false_iff_eq.mpr c32
                clear c32
                by_cases c33 : a2_1 = true
                · subst c33
                  have H1 : (some (a2_0 == a3_0)) = some r := by rw [if_pos rfl] at H; exact H
                  clear H
                  have H := H1
                  clear H1
                  obtain rfl := Option.some.inj H
                  have hnb34 := NB109_110.out
                  have hnc34 := NB110_109.out
                  have hcz35_0 : wr.cell? ⟨gb109, 0, none⟩ = some (.int .i64 a2_0) := (blk_cell BK109.out 0).trans rfl
                  have hcz35_1 : wr.cell? ⟨gb109, 1, none⟩ = some (.bool true) := (blk_cell BK109.out 1).trans rfl
                  have hcz35_2 : wr.cell? ⟨gb109, 2, none⟩ = some (.slice A2_2 l2_2.length c2_2) := (blk_cell BK109.out 2).trans rfl
                  have hcz35_3 : wr.cell? ⟨gb109, 3, none⟩ = some (.slice A2_3 l2_3.length c2_3) := (blk_cell BK109.out 3).trans rfl
                  have hfz35_0 := blk_frozen BK109.out 0
                  have hfz35_1 := blk_frozen BK109.out 1
                  have hfz35_2 := blk_frozen BK109.out 2
                  have hfz35_3 := blk_frozen BK109.out 3
                  have hcz36_0 : wr.cell? ⟨gb110, 0, none⟩ = some (.int .i64 a3_0) := (blk_cell BK110.out 0).trans rfl
                  have hcz36_1 : wr.cell? ⟨gb110, 1, none⟩ = some (.bool a3_1) := (blk_cell BK110.out 1).trans rfl
                  have hcz36_2 : wr.cell? ⟨gb110, 2, none⟩ = some (.slice A3_2 l3_2.length c3_2) := (blk_cell BK110.out 2).trans rfl
                  have hcz36_3 : wr.cell? ⟨gb110, 3, none⟩ = some (.slice A3_3 l3_3.length c3_3) := (blk_cell BK110.out 3).trans rfl
                  have hfz36_0 := blk_frozen BK110.out 0
                  have hfz36_1 := blk_frozen BK110.out 1
                  have hfz36_2 := blk_frozen BK110.out 2
                  have hfz36_3 := blk_frozen BK110.out 3
                  go_wp2
                  repeat (go_quiet (fail); try go_wp2)
                  go_ret
                  exact ⟨by first | rfl | (simp [errW_none, errW_some] <;> rfl) | (simp [*, errW_none, errW_some] <;> rfl), by repeat (first | (with_reducible first | exact HB.out | apply below_alloc | apply pw_below_drewN | apply below_drew1 | refine below_set ?_ GE109.out | refine below_set ?_ GE110.out) | exact HB.out)⟩
                · replace c33 := Bool.eq_false_iff.mpr c33
                  subst c33
                  have H1 : (some true) = some r := by rw [if_neg (show ¬ (false = true) by decide)] at H; exact H
                  clear H
                  have H := H1
                  clear H1
                  obtain rfl := Option.some.inj H
                  have hnb37 := NB109_110.out
                  have hnc37 := NB110_109.out
                  have hcz38_0 : wr.cell? ⟨gb109, 0, none⟩ = some (.int .i64 a2_0) := (blk_cell BK109.out 0).trans rfl
                  have hcz38_1 : wr.cell? ⟨gb109, 1, none⟩ = some (.bool false) := (blk_cell BK109.out 1).trans rfl
                  have hcz38_2 : wr.cell? ⟨gb109, 2, none⟩ = some (.slice A2_2 l2_2.length c2_2) := (blk_cell BK109.out 2).trans rfl
                  have hcz38_3 : wr.cell? ⟨gb109, 3, none⟩ = some (.slice A2_3 l2_3.length c2_3) := (blk_cell BK109.out 3).trans rfl
                  have hfz38_0 := blk_frozen BK109.out 0
                  have hfz38_1 := blk_frozen BK109.out 1
                  have hfz38_2 := blk_frozen BK109.out 2
                  have hfz38_3 := blk_frozen BK109.out 3
                  go_wp2
                  repeat (go_quiet (fail); try go_wp2)
                  go_ret
                  exact ⟨by first | rfl | (simp [errW_none, errW_some] <;> rfl) | (simp [*, errW_none, errW_some] <;> rfl), by repeat (first | (with_reducible first | exact HB.out | apply below_alloc | apply pw_below_drewN | apply below_drew1 | refine below_set ?_ GE109.out | refine below_set ?_ GE110.out) | exact HB.out)⟩
              · rw [if_neg c32] at H
                have c32b0 : (a1 == 2) = false := beq_eq_false_iff_ne.mpr c32
                have c32b1 : (a1 != 2) = true := bne_iff_ne.mpr c32
                obtain rfl := Option.some.inj H
                have hnb39 := NB109_110.out
                have hnc39 := NB110_109.out
                have hcz40_0 : wr.cell? ⟨gb109, 0, none⟩ = some (.int .i64 a2_0) := (blk_cell BK109.out 0).trans rfl
                have hcz40_1 : wr.cell? ⟨gb109, 1, none⟩ = some (.bool a2_1) := (blk_cell BK109.out 1).trans rfl
                have hcz40_2 : wr.cell? ⟨gb109, 2, none⟩ = some (.slice A2_2 l2_2.length c2_2) := (blk_cell BK109.out 2).trans rfl
                have hcz40_3 : wr.cell? ⟨gb109, 3, none⟩ = some (.slice A2_3 l2_3.length c2_3) := (blk_cell BK109.out 3).trans rfl
                have hfz40_0 := blk_frozen BK109.out 0
                have hfz40_1 := blk_frozen BK109.out 1
                have hfz40_2 := blk_frozen BK109.out 2
                have hfz40_3 := blk_frozen BK109.out 3
                have hcz41_0 : wr.cell? ⟨gb110, 0, none⟩ = some (.int .i64 a3_0) := (blk_cell BK110.out 0).trans rfl
                have hcz41_1 : wr.cell? ⟨gb110, 1, none⟩ = some (.bool a3_1) := (blk_cell BK110.out 1).trans rfl
                have hcz41_2 : wr.cell? ⟨gb110, 2, none⟩ = some (.slice A3_2 l3_2.length c3_2) := (blk_cell BK110.out 2).trans rfl
                have hcz41_3 : wr.cell? ⟨gb110, 3, none⟩ = some (.slice A3_3 l3_3.length c3_3) := (blk_cell BK110.out 3).trans rfl
                have hfz41_0 := blk_frozen BK110.out 0
                have hfz41_1 := blk_frozen BK110.out 1
                have hfz41_2 := blk_frozen BK110.out 2
                have hfz41_3 := blk_frozen BK110.out 3
                go_wp2
                repeat (go_quiet (fail); try go_wp2)
                go_ret
                exact ⟨by first | rfl | (simp [errW_none, errW_some] <;> rfl) | (simp [*, errW_none, errW_some] <;> rfl), by repeat (first | (with_reducible first | exact HB.out | apply below_alloc | apply pw_below_drewN | apply below_drew1 | refine below_set ?_ GE109.out | refine below_set ?_ GE110.out) | exact HB.out)⟩
end Go.Proofs.Ytjlcebgfknfelaa.QFnTreesAgree
