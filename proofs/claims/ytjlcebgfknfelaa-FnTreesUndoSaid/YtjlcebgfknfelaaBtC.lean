/- B-trees in memory: insertion. For every tree that fits. -/
import Derived.Test.YtjlcebgfknfelaaBtB
import Derived.Deep.DeepCutAuto
namespace Go.Proofs.Ytjlcebgfknfelaa.Bt
open Go Go.RowKit Go.IntWalk Go.Proofs.Ytjlcebgfknfelaa.Hk Go.Proofs.Ytjlcebgfknfelaa.BtPure Go.Proofs.Ytjlcebgfknfelaa.Less Go.Proofs.YtjlcebgfknfelaaW.PrintWords Go.Proofs.YtjlcebgfknfelaaW.PrintLast Go.Proofs.YtjlcebgfknfelaaW.PrintMore
open Go.Proofs.Ytjlcebgfknfelaa.Avl (LessS cmp_lt cmp_gt cmp_eq)

/-- The places behind one at which another entry has been put. -/
def shift (g : Nat → Q) (j : Nat) (q : Q) : Nat → Q := fun x => if x < j then g x else if x = j then q else g (x - 1)
/-- .. while the places are moved, from the last one down to i. -/
def moved (g : Nat → Q) (m i : Nat) : Nat → Q := fun x => if i < x ∧ x ≤ m then g (x - 1) else g x
/-- What is told, and left, when an entry has been put at a place of a node. -/
def Tail (b m : Nat) (g : Nat → Q) (j : Nat) (q : Q) (W : World) (e : Ending) (w' : World) : Prop :=
  (m + 1 < 64 ∧ e = .returned (.pointer none) ∧ (∃ g', Nd w' b ((m + 1 : Nat) : Int) g' ∧ ∀ x, x ≤ m → g' x = shift g j q x) ∧ Fr (· = b) W w') ∨
  (m + 1 = 64 ∧ ∃ c, e = .returned (.pointer (some ⟨c, 0, none⟩)) ∧ W.heap.size ≤ c ∧ (∃ g', Nd w' b 32 g' ∧ ∀ x, x < 32 → g' x = shift g j q x) ∧ (∃ g', Nd w' c 32 g' ∧ ∀ x, x < 32 → g' x = shift g j q (32 + x)) ∧ Fr (· = b) W w')
def uptr {h : Nat} : Option (N h) → Value
  | none => .pointer none
  | some u => .pointer (some ⟨N.blk h u, 0, none⟩)
def uids {h : Nat} : Option (N h) → List Nat
  | none => []
  | some u => N.ids h u
/-- A tree that fits, all of whose nodes lie from 'base' on. -/
structure Good (base : Nat) (tb : List Int) (w : World) {h : Nat} (t : N h) : Prop where
  mem : N.In w h t
  nodup : (N.ids h t).Nodup
  above : ∀ b ∈ N.ids h t, base ≤ b
  row : Row (rankOf tb) h (N.raw h t)
  len : T.len h (N.raw h t) ≤ 63
  one : h ≠ 0 → 1 ≤ T.len h (N.raw h t)
/-- What an insertion leaves. -/
structure Out (tb : List Int) (key val : Int) (ok : Bool) {h : Nat} (t t' : N h) (u : Option (N h)) (w w' : World) : Prop where
  raw : (N.raw h t', u.map (N.raw h)) = T.ins (rankOf tb) key val ok h (N.raw h t)
  blk : N.blk h t' = N.blk h t
  mem : N.In w' h t'
  memu : ∀ x, u = some x → N.In w' h x
  nodup : (N.ids h t' ++ uids u).Nodup
  ids : ∀ x ∈ N.ids h t' ++ uids u, x ∈ N.ids h t ∨ w.heap.size ≤ x
  fr : Fr (· ∈ N.ids h t) w w'
def Done (tb : List Int) (key val : Int) (ok : Bool) {h : Nat} (t : N h) (w : World) (e : Ending) (w' : World) : Prop := ∃ t' u, e = .returned (uptr u) ∧ Out tb key val ok t t' u w w'

theorem ins_at {r : Int → Int} {k v : Int} {ok : Bool} : ∀ {es : List E} {j : Nat}, (∀ y e, y < j → es[y]? = some e → r e.1 < r k) → j ≤ es.length → (j = es.length ∨ ∃ x, es[j]? = some x ∧ r k < r x.1) → insL r k v ok es = es.take j ++ (k, v, ok) :: es.drop j
  | [], j, _, hj, _ => by
    obtain rfl : j = 0 := by simpa using hj
    rfl
  | e :: es, 0, _, _, h => by
    rcases h with h | ⟨x, hx, hk⟩
    · simp at h
    · obtain rfl : e = x := by simpa using hx
      rw [insL, if_neg (by omega), if_pos hk]
      rfl
  | e :: es, j + 1, hn, hj, h => by
    have h0 := hn 0 e (by omega) rfl
    have ih := ins_at (k := k) (v := v) (ok := ok) (es := es) (j := j) (fun y e' hy he => hn (y + 1) e' (by omega) (by simpa using he)) (by simpa using hj) (by
      rcases h with h | ⟨x, hx, hk⟩
      · left; simpa using h
      · exact .inr ⟨x, by simpa using hx, hk⟩)
    rw [insL, if_neg (by omega), if_neg (by omega), ih]
    rfl
theorem ins_same {r : Int → Int} {k v : Int} {ok : Bool} : ∀ {es : List E} {j : Nat} {x : E}, (∀ y e, y < j → es[y]? = some e → r e.1 < r k) → es[j]? = some x → r k = r x.1 → insL r k v ok es = es.set j (x.1, v, ok)
  | [], _, _, _, h, _ => by simp at h
  | e :: es, 0, x, _, h, hk => by
    obtain rfl : e = x := by simpa using h
    rw [insL, if_pos hk]
    rfl
  | e :: es, j + 1, x, hn, h, hk => by
    have h0 := hn 0 e (by omega) rfl
    have ih := ins_same (k := k) (v := v) (ok := ok) (es := es) (j := j) (x := x) (fun y e' hy he => hn (y + 1) e' (by omega) (by simpa using he)) (by simpa using h) hk
    rw [insL, if_neg (by omega), if_neg (by omega), ih]
    rfl
theorem insC_at {α : Type} {r : Int → Int} {f : α → α × Option α} {fst : α → Int} (k : Int) : ∀ {cs : List (Int × α)} {j : Nat} {c : Int × α}, (∀ y d, 1 ≤ y → y ≤ j → cs[y]? = some d → ¬ r k < r d.1) → cs[j]? = some c → (j + 1 = cs.length ∨ ∃ d, cs[j + 1]? = some d ∧ r k < r d.1) →
    insC r f fst k cs = cs.take j ++ (c.1, (f c.2).1) :: (((f c.2).2.map (fun u => (fst u, u))).toList ++ cs.drop (j + 1))
  | [], _, _, _, h, _ => by simp at h
  | [c'], 0, c, _, h, _ => by
    obtain rfl : c' = c := by simpa using h
    simp [insC]
  | [c'], j + 1, c, _, h, _ => by simp at h
  | c' :: d :: cs, 0, c, _, h, hd => by
    obtain rfl : c' = c := by simpa using h
    rw [insC, if_pos]
    · rfl
    rcases hd with hd | ⟨d', h1, h2⟩
    · simp at hd
    · obtain rfl : d = d' := by simpa using h1
      exact h2
  | c' :: d :: cs, j + 1, c, hn, h, hd => by
    have h1 := hn 1 d (Nat.le_refl _) (by omega) rfl
    rw [insC, if_neg h1]
    rw [insC_at k (cs := d :: cs) (j := j) (c := c) (fun y e hy hle he => hn (y + 1) e (by omega) (by omega) (by simpa using he)) (by simpa using h) (by
      rcases hd with hd | ⟨d', h2, h3⟩
      · left; simp only [List.length_cons] at hd ⊢; omega
      · exact .inr ⟨d', by simpa using h2, h3⟩)]
    rfl
section
variable {α : Type} {R : Q → α → Prop} {g g' : Nat → Q} {l : List α}
theorem Rep.same (h : Rep R g l) (hg : ∀ i, i < l.length → g' i = g i) : Rep R g' l := fun i x hx => by
  rw [hg i (List.getElem?_eq_some_iff.1 hx).1]; exact h i x hx
theorem Rep.shift {j : Nat} {q : Q} {x : α} (h : Rep R g l) (hq : R q x) (hj : j ≤ l.length) : Rep R (shift g j q) (l.take j ++ x :: l.drop j) := fun i y hy => by
  have hl : (l.take j).length = j := by rw [List.length_take]; omega
  unfold Bt.shift
  by_cases h1 : i < j
  · rw [if_pos h1]
    rw [List.getElem?_append_left (by omega), List.getElem?_take, if_pos h1] at hy
    exact h i y hy
  · rw [if_neg h1]
    rw [List.getElem?_append_right (by omega), hl] at hy
    by_cases h2 : i = j
    · rw [if_pos h2]
      rw [h2, Nat.sub_self] at hy
      obtain rfl : x = y := by simpa using hy
      exact hq
    · rw [if_neg h2]
      obtain ⟨d, rfl⟩ : ∃ d, i = j + d + 1 := ⟨i - j - 1, by omega⟩
      rw [show j + d + 1 - j = d + 1 by omega, List.getElem?_cons_succ, List.getElem?_drop] at hy
      exact h _ y hy
theorem Rep.take (h : Rep R g l) (n : Nat) : Rep R g (l.take n) := fun i x hx => by
  rw [List.getElem?_take] at hx
  split at hx
  · exact h i x hx
  · cases hx
theorem Rep.drop (h : Rep R g l) (n : Nat) (hg : ∀ i, i + n < l.length → g' i = g (n + i)) : Rep R g' (l.drop n) := fun i x hx => by
  rw [List.getElem?_drop] at hx
  rw [hg i (by have := (List.getElem?_eq_some_iff.1 hx).1; omega)]
  exact h _ x hx
theorem Rep.set {i : Nat} {x : α} (h : Rep R g l) (hx : i < l.length → R (g i) x) : Rep R g (l.set i x) := fun j y hy => by
  rw [List.getElem?_set] at hy
  split at hy
  · rename_i e
    subst e
    split at hy
    · obtain rfl := Option.some.inj hy
      exact hx (by assumption)
    · cases hy
  · exact h j y hy
/-- What stands in memory when an entry has been put. -/
theorem Tail.rep {b j : Nat} {q : Q} {x : α} {W w' : World} {e : Ending} (hT : Tail b l.length g j q W e w') (h : Rep R g l) (hq : R q x) (hj : j ≤ l.length) :
    (((l.take j ++ x :: l.drop j).length < 64) ∧ e = .returned (.pointer none) ∧ (∃ g', Nd w' b ((l.take j ++ x :: l.drop j).length : Nat) g' ∧ Rep R g' (l.take j ++ x :: l.drop j)) ∧ Fr (· = b) W w') ∨
    (((l.take j ++ x :: l.drop j).length = 64) ∧ ∃ c, e = .returned (.pointer (some ⟨c, 0, none⟩)) ∧ W.heap.size ≤ c ∧ (∃ g', Nd w' b (((l.take j ++ x :: l.drop j).take 32).length : Nat) g' ∧ Rep R g' ((l.take j ++ x :: l.drop j).take 32)) ∧
      (∃ g', Nd w' c (((l.take j ++ x :: l.drop j).drop 32).length : Nat) g' ∧ Rep R g' ((l.take j ++ x :: l.drop j).drop 32)) ∧ Fr (· = b) W w') := by
  have hs := h.shift hq hj
  have hlen : (l.take j ++ x :: l.drop j).length = l.length + 1 := by simp; omega
  generalize l.take j ++ x :: l.drop j = L at hs hlen ⊢
  rcases hT with ⟨h1, h2, ⟨g', h3, h4⟩, h5⟩ | ⟨h1, c, h2, h3, ⟨g', h4, h5⟩, ⟨g'', h6, h7⟩, h8⟩
  · exact .inl ⟨by omega, h2, ⟨g', by rw [hlen]; exact h3, hs.same (fun i hi => h4 i (by omega))⟩, h5⟩
  · refine .inr ⟨by omega, c, h2, h3, ⟨g', ?_, (hs.take 32).same (fun i hi => h5 i (by rw [List.length_take] at hi; omega))⟩, ⟨g'', ?_, hs.drop 32 (fun i hi => h7 i (by omega))⟩, h8⟩
    · rw [show (L.take 32).length = 32 by rw [List.length_take]; omega]; exact h4
    · rw [show (L.drop 32).length = 32 by rw [List.length_drop]; omega]; exact h6
end
/-- An entry's value, and whether it is there, are stored. -/
theorem two_set {w : World} {b : Nat} {m : Int} {g : Nat → Q} (h : Nd w b m g) (x : Nat) (v : Int) (ok : Bool) (hx : x < 64) : Nd ((w.setCell ⟨b, 1 + x * 4 + 1, none⟩ (.int .i64 v)).setCell ⟨b, 1 + x * 4 + 2, none⟩ (.bool ok)) b m (upd g x ⟨(g x).k, v, ok, (g x).p⟩) := by
  have h1 := h.set x 1 (.int .i64 v) ⟨(g x).k, v, (g x).ok, (g x).p⟩ hx (by omega) rfl (fun i hi hn => by match i, hi, hn with | 0, _, _ => rfl | 2, _, _ => rfl | 3, _, _ => rfl)
  have h2 := h1.set x 2 (.bool ok) ⟨(g x).k, v, ok, (g x).p⟩ hx (by omega) rfl (fun i hi hn => by rw [upd_same]; match i, hi, hn with | 0, _, _ => rfl | 1, _, _ => rfl | 3, _, _ => rfl)
  rw [upd_upd] at h2
  rw [show 4 * x + 1 + 1 = 1 + x * 4 + 1 by omega] at h2
  exact h2
theorem cut_small {α : Type} {l : List α} (h : l.length < 64) : cutL l = (l, none) := if_pos h
theorem cut_great {α : Type} {l : List α} (h : l.length = 64) : cutL l = (l.take 32, some (l.drop 32)) := if_neg (by omega)
/-- A leaf behind an insertion at a new place. -/
theorem leaf_done {tb : List Int} {key val : Int} {ok : Bool} {b : Nat} {es : List E} {g : Nat → Q} {j : Nat} {w W w' : World} {e : Ending} (hw : Below w.heap.size w W) (hb : b < w.heap.size) (hP : Rep Rep0 g es) (hj : j ≤ es.length)
    (hi : insL (rankOf tb) key val ok es = es.take j ++ (key, val, ok) :: es.drop j) (hT : Tail b es.length g j ⟨key, val, ok, none⟩ W e w') : Done tb key val ok (h := 0) ((b, es) : Nat × List E) w e w' := by
  have hfr : ∀ {W'}, Fr (· = b) W W' → Fr (· ∈ N.ids 0 ((b, es) : Nat × List E)) w W' := fun h => (Fr.new hw).trans h (fun n _ e => by show n ∈ [b]; rw [e]; simp)
  have hr : T.ins (rankOf tb) key val ok 0 (N.raw 0 ((b, es) : Nat × List E)) = cutL (es.take j ++ (key, val, ok) :: es.drop j) := congrArg cutL hi
  rcases hT.rep (x := (key, val, ok)) hP ⟨rfl, rfl, rfl⟩ hj with ⟨h1, h2, h3, h4⟩ | ⟨h1, c, h2, h3, h4, h5, h6⟩
  · refine ⟨(b, es.take j ++ (key, val, ok) :: es.drop j), none, h2, ⟨?_, rfl, h3, fun _ h => (by cases h), by show ([b] ++ []).Nodup; simp, fun x hx => .inl hx, hfr h4⟩⟩
    rw [hr, cut_small h1]; rfl
  · refine ⟨(b, (es.take j ++ (key, val, ok) :: es.drop j).take 32), some (c, (es.take j ++ (key, val, ok) :: es.drop j).drop 32), h2, ⟨?_, rfl, h4, fun x hx => ?_, ?_, fun x hx => ?_, hfr h6⟩⟩
    · rw [hr, cut_great h1]; rfl
    · obtain rfl := Option.some.inj hx; exact h5
    · have : b ≠ c := by have := hw.size; omega
      show ([b] ++ [c]).Nodup
      simpa using this
    · have hx' : x ∈ [b] ++ [c] := hx
      simp only [List.cons_append, List.nil_append, List.mem_cons, List.not_mem_nil, or_false] at hx'
      rcases hx' with rfl | rfl
      · left; show x ∈ [x]; simp
      · right; have := hw.size; omega
/-- .. at a place that is there. -/
theorem leaf_same {tb : List Int} {key val : Int} {ok : Bool} {b : Nat} {es : List E} {g : Nat → Q} {j : Nat} {x : E} {w w' : World} (hP : Rep Rep0 g es) (hl : es.length ≤ 63) (hx : es[j]? = some x)
    (hi : insL (rankOf tb) key val ok es = es.set j (x.1, val, ok)) (hN : Nd w' b es.length (upd g j ⟨(g j).k, val, ok, (g j).p⟩)) (hf : Fr (· = b) w w') : Done tb key val ok (h := 0) ((b, es) : Nat × List E) w (.returned (.pointer none)) w' := by
  refine ⟨(b, es.set j (x.1, val, ok)), none, rfl, ⟨?_, rfl, ⟨upd g j ⟨(g j).k, val, ok, (g j).p⟩, by rw [List.length_set]; exact hN, fun i y hy => ?_⟩, fun _ h => (by cases h), by show ([b] ++ []).Nodup; simp, fun x hx => .inl hx, hf.mono (fun n _ e => by show n ∈ [b]; rw [e]; simp)⟩⟩
  · show _ = cutL (insL _ _ _ _ es)
    rw [hi, cut_small (by rw [List.length_set]; omega)]; rfl
  · rw [List.getElem?_set] at hy
    by_cases e : j = i
    · subst e
      rw [if_pos rfl, if_pos (List.getElem?_eq_some_iff.1 hx).1] at hy
      obtain rfl := Option.some.inj hy
      rw [upd_same]
      exact ⟨(hP j x hx).1, rfl, rfl⟩
    · rw [if_neg e] at hy
      simp only [upd]
      rw [if_neg (fun h => e h.symm)]
      exact hP i y hy
def fids {h : Nat} (l : List (Int × N h)) : List Nat := l.flatMap (fun c => N.ids h c.2)
theorem fids_app {h : Nat} (a b : List (Int × N h)) : fids (a ++ b) = fids a ++ fids b := List.flatMap_append ..
theorem fids_cons {h : Nat} (c : Int × N h) (l : List (Int × N h)) : fids (c :: l) = N.ids h c.2 ++ fids l := List.flatMap_cons ..
theorem mem_fids {h : Nat} {l : List (Int × N h)} {c : Int × N h} (hc : c ∈ l) {x : Nat} (hx : x ∈ N.ids h c.2) : x ∈ fids l := List.mem_flatMap.2 ⟨c, hc, hx⟩
theorem ids_inner {h : Nat} (b : Nat) (cs : List (Int × N h)) : N.ids (h + 1) ((b, cs) : Nat × List (Int × N h)) = b :: fids cs := rfl
abbrev rawC {h : Nat} (c : Int × N h) : Int × T h := (c.1, N.raw h c.2)
theorem raw_inner {h : Nat} (b : Nat) (cs : List (Int × N h)) : N.raw (h + 1) ((b, cs) : Nat × List (Int × N h)) = cs.map rawC := rfl
theorem first_cell : ∀ {h : Nat} {w : World} {t : N h}, N.In w h t → 1 ≤ T.len h (N.raw h t) → w.cell? ⟨N.blk h t, 1, none⟩ = some (.int .i64 (T.first h (N.raw h t)))
  | 0, w, (b, es), ⟨g, hN, hP⟩, hl => by
    cases es with
    | nil => exact absurd hl (by simp [T.len, N.raw])
    | cons x es =>
      have h0 := Nd.at' hN 0 0 (by omega) (by omega)
      have hk := (hP 0 x rfl).1
      show w.cell? ⟨b, 1, none⟩ = some (.int .i64 x.1)
      rw [← hk]
      exact h0
  | h + 1, w, (b, cs), ⟨⟨g, hN, hP⟩, _⟩, hl => by
    cases cs with
    | nil => exact absurd hl (by simp [T.len, N.raw])
    | cons x cs =>
      have h0 := Nd.at' hN 0 0 (by omega) (by omega)
      have hk := (hP 0 x rfl).1
      show w.cell? ⟨b, 1, none⟩ = some (.int .i64 x.1)
      rw [← hk]
      exact h0
/-- An inner node behind an insertion. -/
theorem inner_done {tb : List Int} {key val : Int} {ok : Bool} {h b : Nat} {cs L : List (Int × N h)} {w wc w' : World} {e : Ending}
    (hr : T.ins (rankOf tb) key val ok (h + 1) (N.raw (h + 1) ((b, cs) : Nat × List (Int × N h))) = cutL (L.map rawC)) (hin : ∀ c ∈ L, N.In wc h c.2) (hnd : (b :: fids L).Nodup) (hid : ∀ x ∈ fids L, x ∈ N.ids (h + 1) ((b, cs) : Nat × List (Int × N h)) ∨ w.heap.size ≤ x)
    (hfr : Fr (· ∈ N.ids (h + 1) ((b, cs) : Nat × List (Int × N h))) w wc) (hbw : b < wc.heap.size)
    (hc : (L.length < 64 ∧ e = .returned (.pointer none) ∧ (∃ g', Nd w' b (L.length : Nat) g' ∧ Rep Rep1 g' L) ∧ Fr (· = b) wc w') ∨
      (L.length = 64 ∧ ∃ c, e = .returned (.pointer (some ⟨c, 0, none⟩)) ∧ wc.heap.size ≤ c ∧ (∃ g', Nd w' b ((L.take 32).length : Nat) g' ∧ Rep Rep1 g' (L.take 32)) ∧ (∃ g', Nd w' c ((L.drop 32).length : Nat) g' ∧ Rep Rep1 g' (L.drop 32)) ∧ Fr (· = b) wc w')) :
    Done tb key val ok (h := h + 1) ((b, cs) : Nat × List (Int × N h)) w e w' := by
  obtain ⟨hb0, hn0⟩ := List.nodup_cons.1 hnd
  have hin' : Fr (· = b) wc w' → ∀ c ∈ L, N.In w' h c.2 := fun hf c hc => (hin c hc).fr hf (fun x hx e => hb0 (e ▸ mem_fids hc hx))
  have hlt : ∀ x ∈ fids L, x < wc.heap.size := fun x hx => by
    obtain ⟨c, hc, hx⟩ := List.mem_flatMap.1 hx
    exact (hin c hc).lt x hx
  have hfr2 : Fr (· = b) wc w' → Fr (· ∈ N.ids (h + 1) ((b, cs) : Nat × List (Int × N h))) w w' := fun hf => hfr.trans hf (fun n _ e => by rw [e]; show b ∈ b :: fids cs; simp)
  rcases hc with ⟨h1, h2, h3, h4⟩ | ⟨h1, c, h2, h3, h4, h5, h6⟩
  · refine ⟨(b, L), none, h2, ⟨?_, rfl, ⟨h3, hin' h4⟩, fun _ h => (by cases h), ?_, fun x hx => ?_, hfr2 h4⟩⟩
    · rw [hr, cut_small (by rw [List.length_map]; exact h1)]; rfl
    · show (b :: fids L ++ []).Nodup
      rw [List.append_nil]; exact hnd
    · have hx' : x ∈ b :: fids L ++ [] := hx
      rw [List.append_nil] at hx'
      rcases List.mem_cons.1 hx' with rfl | hx'
      · left; show x ∈ x :: fids cs; simp
      · exact hid x hx'
  · have e0 : fids (L.take 32) ++ fids (L.drop 32) = fids L := by rw [← fids_app, List.take_append_drop]
    refine ⟨(b, L.take 32), some (c, L.drop 32), h2, ⟨?_, rfl, ⟨h4, fun d hd => hin' h6 d (List.mem_of_mem_take hd)⟩, fun x hx => ?_, ?_, fun x hx => ?_, hfr2 h6⟩⟩
    · rw [hr, cut_great (by rw [List.length_map]; exact h1), ← List.map_take, ← List.map_drop]; rfl
    · obtain rfl := Option.some.inj hx
      exact ⟨h5, fun d hd => hin' h6 d (List.mem_of_mem_drop hd)⟩
    · show (b :: fids (L.take 32) ++ (c :: fids (L.drop 32))).Nodup
      rw [← e0] at hn0 hb0 hlt
      obtain ⟨n1, n2, n3⟩ := List.nodup_append.1 hn0
      refine List.nodup_append.2 ⟨List.nodup_cons.2 ⟨fun h => hb0 (List.mem_append_left _ h), n1⟩, List.nodup_cons.2 ⟨fun h => by have := hlt c (List.mem_append_right _ h); omega, n2⟩, fun x hx y hy e => ?_⟩
      subst e
      rcases List.mem_cons.1 hx with rfl | hx
      · rcases List.mem_cons.1 hy with e | hy
        · omega
        · exact hb0 (List.mem_append_right _ hy)
      · rcases List.mem_cons.1 hy with rfl | hy
        · have := hlt x (List.mem_append_left _ hx); omega
        · exact n3 x hx x hy rfl
    · have hx' : x ∈ b :: fids (L.take 32) ++ (c :: fids (L.drop 32)) := hx
      rcases List.mem_append.1 hx' with hx' | hx'
      · rcases List.mem_cons.1 hx' with rfl | hx'
        · left; show x ∈ x :: fids cs; simp
        · exact hid x (by rw [← e0]; exact List.mem_append_left _ hx')
      · rcases List.mem_cons.1 hx' with rfl | hx'
        · right; have := hfr.size; omega
        · exact hid x (by rw [← e0]; exact List.mem_append_right _ hx')
/-- A part of a tree that fits, fits. -/
theorem Good.kid {base : Nat} {tb : List Int} {w : World} {h b : Nat} {A B : List (Int × N h)} {x : Int × N h} (G : Good base tb w (h := h + 1) ((b, A ++ x :: B) : Nat × List (Int × N h))) : Good base tb w x.2 := by
  have hnd : (b :: fids (A ++ x :: B)).Nodup := G.nodup
  have hrow : (∀ c ∈ (A ++ x :: B).map rawC, Part (rankOf tb) c) ∧ Ch (rankOf tb) ((A ++ x :: B).map rawC) := G.row
  have hp := hrow.1 (rawC x) (List.mem_map.2 ⟨x, by simp, rfl⟩)
  rw [fids_app, fids_cons] at hnd
  refine ⟨G.mem.2 x (by simp), (List.nodup_append.1 (List.nodup_append.1 (List.nodup_cons.1 hnd).2).2.1).1, fun y hy => G.above y ?_, hp.1, hp.2.1, fun _ => hp.2.2⟩
  show y ∈ b :: fids (A ++ x :: B)
  exact List.mem_cons_of_mem _ (mem_fids (by simp) hy)
/-- What stands behind an insertion into a part. -/
theorem Good.below {base : Nat} {tb : List Int} {w w' : World} {h : Nat} {t : N h} (G : Good base tb w t) (hb : Below w.heap.size w w') : Good base tb w' t := ⟨G.mem.below hb, G.nodup, G.above, G.row, G.len, G.one⟩
theorem fr_dn {S : Nat → Prop} {a w : World} {n : Nat} (h : Fr S (a.drewN n) w) : Fr S a w := ⟨h.os, h.tape, h.output, h.size, h.block⟩
theorem split_at {α : Type} {l : List α} {i : Nat} {x : α} (h : l[i]? = some x) : ∃ A B, l = A ++ x :: B ∧ A.length = i := by
  obtain ⟨hi, rfl⟩ := List.getElem?_eq_some_iff.1 h
  exact ⟨l.take i, l.drop (i + 1), by rw [← List.drop_eq_getElem_cons hi, List.take_append_drop], by rw [List.length_take]; omega⟩
/-- What an insertion makes of a node, out of what it makes of the part. -/
theorem ins_kid {tb : List Int} {key val : Int} {ok : Bool} {h b i : Nat} {A B : List (Int × N h)} {x : Int × N h} {x' : N h} {u : Option (N h)} (hA : A.length = i) (hx : (A ++ x :: B)[i]? = some x)
    (hn : ∀ y d, 1 ≤ y → y ≤ i → (A ++ x :: B)[y]? = some d → ¬ rankOf tb key < rankOf tb d.1) (hp : i + 1 = (A ++ x :: B).length ∨ ∃ d, (A ++ x :: B)[i + 1]? = some d ∧ rankOf tb key < rankOf tb d.1)
    (hr : (N.raw h x', u.map (N.raw h)) = T.ins (rankOf tb) key val ok h (N.raw h x.2)) :
    T.ins (rankOf tb) key val ok (h + 1) (N.raw (h + 1) ((b, A ++ x :: B) : Nat × List (Int × N h))) = cutL ((A ++ (x.1, x') :: ((u.map (fun u => (T.first h (N.raw h u), u))).toList ++ B)).map rawC) := by
  have e := insC_at (r := rankOf tb) (f := T.ins (rankOf tb) key val ok h) (fst := T.first h) key (cs := (A ++ x :: B).map rawC) (j := i) (c := rawC x) (fun y d h1 h2 hd => by
    rw [List.getElem?_map] at hd
    obtain ⟨d', hd', rfl⟩ := Option.map_eq_some_iff.1 hd
    exact hn y d' h1 h2 hd') (by rw [List.getElem?_map, hx]; rfl) (by
    rcases hp with hp | ⟨d, h1, h2⟩
    · left; rw [List.length_map]; exact hp
    · exact .inr ⟨rawC d, by rw [List.getElem?_map, h1]; rfl, h2⟩)
  show cutL (insC (rankOf tb) (T.ins (rankOf tb) key val ok h) (T.first h) key ((A ++ x :: B).map rawC)) = _
  rw [e]
  congr 1
  rw [show (rawC x).2 = N.raw h x.2 from rfl, ← hr]
  have t1 : ((A ++ x :: B).map rawC).take i = A.map rawC := by rw [← List.map_take, ← hA, List.take_left']; rfl
  have t2 : ((A ++ x :: B).map rawC).drop (i + 1) = B.map rawC := by
    rw [← List.map_drop, ← hA, show A ++ x :: B = (A ++ [x]) ++ B by simp, show A.length + 1 = (A ++ [x]).length by simp, List.drop_left]
  rw [t1, t2]
  cases u <;> simp [rawC]
theorem kid_in {w : World} {h : Nat} {A B : List (Int × N h)} {k : Int} {x' : N h} (h1 : ∀ c ∈ A ++ B, N.In w h c.2) (h2 : N.In w h x') : ∀ c ∈ A ++ (k, x') :: B, N.In w h c.2 := fun c hc => by
  rcases List.mem_append.1 hc with hc | hc
  · exact h1 c (List.mem_append_left _ hc)
  · rcases List.mem_cons.1 hc with rfl | hc
    · exact h2
    · exact h1 c (List.mem_append_right _ hc)
theorem kid_nd {h b : Nat} {A B : List (Int × N h)} {k : Int} {x' : N h} (h1 : (b :: (fids A ++ ((N.ids h x' ++ uids (none : Option (N h))) ++ fids B))).Nodup) : (b :: fids (A ++ (k, x') :: B)).Nodup := by
  rw [fids_app, fids_cons]
  simpa [uids] using h1
theorem kid_ids {w W : World} {h b : Nat} {cs A B : List (Int × N h)} {k : Int} {x' : N h} (hW : Below w.heap.size w W) (h1 : ∀ y ∈ fids A ++ ((N.ids h x' ++ uids (none : Option (N h))) ++ fids B), y ∈ b :: fids cs ∨ W.heap.size ≤ y) :
    ∀ y ∈ fids (A ++ (k, x') :: B), y ∈ N.ids (h + 1) ((b, cs) : Nat × List (Int × N h)) ∨ w.heap.size ≤ y := fun y hy => by
  rw [fids_app, fids_cons] at hy
  have := hW.size
  rcases h1 y (by simpa [uids] using hy) with h | h
  · exact .inl h
  · right; omega
theorem kid2_in {w : World} {h : Nat} {A B : List (Int × N h)} {k k2 : Int} {x' u : N h} (h1 : ∀ c ∈ A ++ B, N.In w h c.2) (h2 : N.In w h x') (h3 : N.In w h u) : ∀ c ∈ A ++ (k, x') :: (k2, u) :: B, N.In w h c.2 := fun c hc => by
  rcases List.mem_append.1 hc with hc | hc
  · exact h1 c (List.mem_append_left _ hc)
  · rcases List.mem_cons.1 hc with rfl | hc
    · exact h2
    · rcases List.mem_cons.1 hc with rfl | hc
      · exact h3
      · exact h1 c (List.mem_append_right _ hc)
theorem kid2_nd {h b : Nat} {A B : List (Int × N h)} {k k2 : Int} {x' u : N h} (h1 : (b :: (fids A ++ ((N.ids h x' ++ uids (some u)) ++ fids B))).Nodup) : (b :: fids (A ++ (k, x') :: (k2, u) :: B)).Nodup := by
  rw [fids_app, fids_cons, fids_cons]
  simpa [uids] using h1
theorem kid2_ids {W : World} {h b : Nat} {cs A B : List (Int × N h)} {k k2 : Int} {x' u : N h} (h1 : ∀ y ∈ fids A ++ ((N.ids h x' ++ uids (some u)) ++ fids B), y ∈ b :: fids cs ∨ W.heap.size ≤ y) :
    ∀ y ∈ fids (A ++ (k, x') :: (k2, u) :: B), y ∈ N.ids (h + 1) ((b, cs) : Nat × List (Int × N h)) ∨ W.heap.size ≤ y := fun y hy => by
  rw [fids_app, fids_cons, fids_cons] at hy
  exact h1 y (by simpa [uids] using hy)
theorem kid_rep {h : Nat} {g : Nat → Q} {A B : List (Int × N h)} {x : Int × N h} {x' : N h} (hP : Rep Rep1 g (A ++ x :: B)) (hb : N.blk h x' = N.blk h x.2) : Rep Rep1 g (A ++ (x.1, x') :: B) := fun i y hy => by
  by_cases e : i = A.length
  · subst e
    have h0 := hP A.length x (by simp)
    obtain rfl : (x.1, x') = y := by simpa using hy
    exact ⟨h0.1, by rw [h0.2]; exact congrArg (fun z => some (⟨z, 0, none⟩ : Addr)) hb.symm⟩
  · refine hP i y ?_
    by_cases h1 : i < A.length
    · rw [List.getElem?_append_left h1] at hy ⊢; exact hy
    · rw [List.getElem?_append_right (by omega)] at hy ⊢
      obtain ⟨d, hd⟩ : ∃ d, i - A.length = d + 1 := ⟨i - A.length - 1, by omega⟩
      rw [hd] at hy ⊢
      simpa using hy
theorem made_u {base : Nat} {tb : List Int} {key val : Int} {ok : Bool} {w : World} {h : Nat} {x x' u : N h} (G : Good base tb w x) (hr : (N.raw h x', (some u).map (N.raw h)) = T.ins (rankOf tb) key val ok h (N.raw h x)) : 1 ≤ T.len h (N.raw h u) :=
  ((ins_made (k := key) (v := val) (ok := ok) G.row G.len G.one).some_ _ (by rw [← hr]; rfl)).1.2.2
theorem Out.blk_ne {tb : List Int} {key val : Int} {ok : Bool} {h n e : Nat} {x x' u : N h} {w w1 : World} (O : Out tb key val ok x x' (some u) (w.drewN n) w1) (hs : w.heap.size = e + 1) (hn : e ∉ N.ids h x) : N.blk h u ≠ e := fun hh => by
  rcases O.ids (N.blk h u) (List.mem_append_right _ (N.blk_in u)) with h1 | h1
  · exact hn (hh ▸ h1)
  · have : w.heap.size ≤ N.blk h u := h1
    omega
theorem kid_left {base : Nat} {tb : List Int} {key val : Int} {ok : Bool} {w W w1 : World} {h b : Nat} {A B : List (Int × N h)} {x : Int × N h} {x' : N h} {u : Option (N h)} (G : Good base tb w (h := h + 1) ((b, A ++ x :: B) : Nat × List (Int × N h))) (hW : Below w.heap.size w W)
    (O : Out tb key val ok x.2 x' u W w1) :
    (b ∉ N.ids h x.2) ∧ (∀ c ∈ A ++ B, N.In w1 h c.2) ∧ (b :: (fids A ++ ((N.ids h x' ++ uids u) ++ fids B))).Nodup ∧ (∀ y ∈ fids A ++ ((N.ids h x' ++ uids u) ++ fids B), y ∈ b :: fids (A ++ x :: B) ∨ W.heap.size ≤ y) ∧ Fr (· ∈ b :: fids (A ++ x :: B)) w w1 := by
  have hnd : (b :: fids (A ++ x :: B)).Nodup := G.nodup
  rw [fids_app, fids_cons] at hnd
  obtain ⟨b1, n1⟩ := List.nodup_cons.1 hnd
  obtain ⟨nA, n2, n3⟩ := List.nodup_append.1 n1
  obtain ⟨nx, nB, n4⟩ := List.nodup_append.1 n2
  have lt : ∀ y ∈ b :: fids (A ++ x :: B), y < w.heap.size := fun y hy => N.In.lt (h := h + 1) (t := (b, A ++ x :: B)) G.mem y hy
  have ltA : ∀ y ∈ fids A, y < w.heap.size := fun y hy => lt y (by rw [fids_app]; simp [hy])
  have ltB : ∀ y ∈ fids B, y < w.heap.size := fun y hy => lt y (by rw [fids_app, fids_cons]; simp [hy])
  have ltb : b < w.heap.size := lt b (by simp)
  have hs := hW.size
  have nw : ∀ y ∈ N.ids h x' ++ uids u, y ∈ N.ids h x.2 ∨ W.heap.size ≤ y := O.ids
  refine ⟨fun hm => b1 (by simp [hm]), fun c hc => ?_, ?_, fun y hy => ?_, ?_⟩
  · refine ((G.mem.2 c (by simp at hc ⊢; rcases hc with hc | hc <;> simp [hc])).below hW).fr O.fr (fun y hy hx => ?_)
    rcases List.mem_append.1 hc with hc | hc
    · exact n3 y (mem_fids hc hy) y (List.mem_append_left _ hx) rfl
    · exact n4 y hx y (mem_fids hc hy) rfl
  · refine List.nodup_cons.2 ⟨fun hm => ?_, List.nodup_append.2 ⟨nA, List.nodup_append.2 ⟨O.nodup, nB, fun y hy z hz e => ?_⟩, fun y hy z hz e => ?_⟩⟩
    · rcases List.mem_append.1 hm with hm | hm
      · exact b1 (by simp [hm])
      · rcases List.mem_append.1 hm with hm | hm
        · rcases nw b hm with h1 | h1
          · exact b1 (by simp [h1])
          · omega
        · exact b1 (by simp [hm])
    · subst e
      rcases nw y hy with h1 | h1
      · exact n4 y h1 y hz rfl
      · have := ltB y hz; omega
    · subst e
      rcases List.mem_append.1 hz with hz | hz
      · rcases nw y hz with h1 | h1
        · exact n3 y hy y (List.mem_append_left _ h1) rfl
        · have := ltA y hy; omega
      · exact n3 y hy y (List.mem_append_right _ hz) rfl
  · rw [fids_app, fids_cons]
    rcases List.mem_append.1 hy with hy | hy
    · left; simp [hy]
    · rcases List.mem_append.1 hy with hy | hy
      · rcases nw y hy with h1 | h1
        · left; simp [h1]
        · exact .inr h1
      · left; simp [hy]
  · refine (Fr.new hW).trans O.fr (fun n _ hn => ?_)
    rw [fids_app, fids_cons]
    simp [hn]
set_option maxHeartbeats 16000000 in
set_option maxRecDepth 100000 in
theorem insert_step (base R : Nat) (tb : List Int) (key val n H : Int) (ok : Bool) (rp lv : Value) (h : Nat) (t : N h) (w : World)
    (ih : ∀ h', h = h' + 1 → ∀ (t : N h') (w : World), Good base tb w t → Blk w R #[rp, .int .i64 H, .int .i64 n, lv] 115 → R ∉ N.ids h' t → LessS base w lv tb → base ≤ w.heap.size → h' ≤ 1099511627776 →
      Calls Try.prog 92 #[.pointer (some ⟨R, 0, none⟩), .pointer (some ⟨N.blk h' t, 0, none⟩), .int .i64 key, .int .i64 val, .int .i64 h', .bool ok] w (Done tb key val ok t w))
    (hG : Good base tb w t) (hR : Blk w R #[rp, .int .i64 H, .int .i64 n, lv] 115) (hRn : R ∉ N.ids h t) (hL : LessS base w lv tb) (hb : base ≤ w.heap.size) (hh : h ≤ 1099511627776) :
    Calls Try.prog 92 #[.pointer (some ⟨R, 0, none⟩), .pointer (some ⟨N.blk h t, 0, none⟩), .int .i64 key, .int .i64 val, .int .i64 h, .bool ok] w (Done tb key val ok t w) := by
    have HIH := hid ih
    clear ih
    have HG := hid hG
    have HR := hid hR
    have HRN := hid hRn
    have HL := hid hL
    have HB := hid hb
    have HH := hid hh
    clear hG hR hRn hL hb hh
    obtain ⟨b, hbk⟩ : ∃ b, N.blk h t = b := ⟨_, rfl⟩
    rw [hbk]
    have HBK := hid hbk
    clear hbk
    obtain ⟨hv, hhv⟩ : ∃ hv : Int, (h : Int) = hv := ⟨_, rfl⟩
    rw [hhv]
    have HHV := hid hhv
    clear hhv
    have HE : Hid (Blk (w.alloc (.cells #[.int .i64 key, .int .i64 val, .bool ok, .pointer none] 110)) w.heap.size #[.int .i64 key, .int .i64 val, .bool ok, .pointer none] 110) := Blk.new w _ _
    have HW : Hid (Below w.heap.size w (w.alloc (.cells #[.int .i64 key, .int .i64 val, .bool ok, .pointer none] 110))) := (Below.refl _ _).alloc (Nat.le_refl _) _
    have HSZ : Hid ((w.alloc (.cells #[.int .i64 key, .int .i64 val, .bool ok, .pointer none] 110)).heap.size = w.heap.size + 1) := alloc_size _ _
    go_enter Try.func92, Try.ntmps92
    go_upto_region 2 with fail
    generalize w.alloc (.cells #[.int .i64 key, .int .i64 val, .bool ok, .pointer none] 110) = W at HE HW HSZ ⊢
    go_upto_if 22 with fail
    go_cut [14, 15] from 22 to 132 (fun v14 v15 wc => ∃ (j m : Nat) (g : Nat → Q) (q : Q), v14 = .int .i64 j ∧ j ≤ m ∧ m ≤ 63 ∧ Hid (Nd wc b m g ∧ Blk wc w.heap.size #[.int .i64 q.k, .int .i64 q.v, .bool q.ok, .pointer q.p] 110 ∧ b ≠ w.heap.size ∧ Blk wc R #[rp, .int .i64 H, .int .i64 n, lv] 115 ∧ ∀ e w', Tail b m g j q wc e w' → Done tb key val ok t w e w'))
    case first =>
      cases h with
      | zero =>
        obtain rfl : hv = 0 := by have := HHV.out; omega
        obtain ⟨b', es⟩ := t
        obtain rfl : b' = b := HBK.out
        obtain ⟨g, hN0, hP0⟩ := HG.out.mem
        have HN : Hid (Nd w b' es.length g) := hN0
        have HP : Hid (Rep Rep0 g es) := hP0
        have HF : Hid (es.length ≤ 63) := HG.out.len
        clear hN0 hP0
        go_wp2_with fail
        go_loopg [14] es.length (fun n_ v14 wr => ∃ i : Nat, v14 = .int .i64 i ∧ i ≤ es.length ∧ Hid (n_ + i = es.length) ∧ Hid ((∃ q, wr = W.drewN q) ∧ ∀ y e, y < i → es[y]? = some e → rankOf tb e.1 < rankOf tb key))
        case atStart => exact ⟨0, rfl, Nat.zero_le _, Nat.add_zero _, ⟨0, rfl⟩, fun y e hy => absurd hy (Nat.not_lt_zero _)⟩
        case round =>
          obtain ⟨i, rfl, hi, HGK, HI⟩ := hrel
          have HNW : Hid (Nd wr b' es.length g) := by obtain ⟨q, hq⟩ := HI.out.1; rw [hq]; exact Nd.below HN.out (below_dN HW.out q) HN.out.lt
          have HRW : Hid (Blk wr R #[rp, .int .i64 H, .int .i64 n, lv] 115) := by obtain ⟨q, hq⟩ := HI.out.1; rw [hq]; exact HR.out.below (below_dN HW.out q) HR.out.lt
          have HEW : Hid (Blk wr w.heap.size #[.int .i64 key, .int .i64 val, .bool ok, .pointer none] 110) := by obtain ⟨q, hq⟩ := HI.out.1; rw [hq]; exact HE.out
          have HBW : Hid (Below w.heap.size w wr) := by obtain ⟨q, hq⟩ := HI.out.1; rw [hq]; exact below_dN HW.out q
          have HNE : Hid (b' ≠ w.heap.size) := hid (Nat.ne_of_lt HN.out.lt)
          have c0 : wr.cell? ⟨b', 0, none⟩ = some (.int .i64 es.length) := HNW.out.m0
          by_cases hlt : i < es.length
          · have hx : es[i]? = some es[i] := List.getElem?_eq_getElem hlt
            have h64 : i < 64 := by have := HF.out; omega
            generalize es[i] = x at hx
            have hk := (HP.out i x hx).1
            have a0 : wr.cell? ⟨b', 1 + i * 4, none⟩ = some (.int .i64 x.1) := by rw [← hk]; exact HNW.out.at' i 0 h64 (by omega)
            have c3 : wr.cell? ⟨R, 3, none⟩ = some lv := HRW.out.cell 3
            have HX := hid hx
            have HLS : Hid (LessS base wr lv tb) := hid (HL.out.to (below_le HBW.out HB.out))
            clear hk hx
            have r1 : (i : Int) < 64 := by omega
            have hlti : (i : Int) < es.length := by omega
            go_upto_region 7 with fail
            refine still_tail_drew 12 (by kernel_rfl) (by kernel_rfl) ?_
            simp only [List.take_succ_cons, List.take_zero, List.drop_succ_cons, List.drop_zero]
            repeat still_step
            refine wpStill_nil ?_
            go_wp2_with fail
            refine (compare_any lv tb key x.1 _ (HLS.out.drewN 1).now).mono ?_
            rintro e w1 ⟨rfl, q1, hq1⟩
            have HQ1 : Hid (∃ q, w1 = wr.drewN q) := ⟨1 + q1, by rw [hq1]; simp⟩
            clear hq1
            by_cases he : rankOf tb key = rankOf tb x.1
            · rw [cmp_eq (by omega) (by omega)]
              have HEQ := hid he
              clear he a0 c3 c0
              have HN1 : Hid (Nd w1 b' es.length g ∧ Below w.heap.size w w1) := by obtain ⟨q, hq⟩ := HQ1.out; rw [hq]; exact ⟨HNW.out, below_dN HBW.out q⟩
              have a1 : w1.cell? ⟨b', 1 + i * 4 + 1, none⟩ = some (.int .i64 (g i).v) := HN1.out.1.at' i 1 h64 (by omega)
              have a2 : w1.cell? ⟨b', 1 + i * 4 + 2, none⟩ = some (.bool (g i).ok) := HN1.out.1.at' i 2 h64 (by omega)
              have f1 : w1.frozen? ⟨b', 1 + i * 4 + 1, none⟩ = false := HN1.out.1.free _
              have f2 : w1.frozen? ⟨b', 1 + i * 4 + 2, none⟩ = false := HN1.out.1.free _
              have HS : Hid (Nd ((w1.setCell ⟨b', 1 + i * 4 + 1, none⟩ (.int .i64 val)).setCell ⟨b', 1 + i * 4 + 2, none⟩ (.bool ok)) b' es.length (upd g i ⟨(g i).k, val, ok, (g i).p⟩)) := two_set HN1.out.1 i val ok h64
              have HS2 : Hid (Fr (· = b') w ((w1.setCell ⟨b', 1 + i * 4 + 1, none⟩ (.int .i64 val)).setCell ⟨b', 1 + i * 4 + 2, none⟩ (.bool ok))) := Fr.setCell (S := (· = b')) (Fr.setCell (S := (· = b')) (Fr.new HN1.out.2) (p := ⟨b', 1 + i * 4 + 1, none⟩) (fun _ => rfl) _) (p := ⟨b', 1 + i * 4 + 2, none⟩) (fun _ => rfl) _
              go_wp2_with fail
              go_ret
              exact leaf_same HP.out HF.out HX.out (ins_same HI.out.2 HX.out HEQ.out) HS.out HS2.out
            · have hc : cmp tb key x.1 ≠ 0 := fun h => he (by unfold cmp at h; split at h <;> (try split at h) <;> omega)
              have hc2 : (cmp tb key x.1 == 0) = false := beq_eq_false_iff_ne.2 hc
              have HNQ := hid he
              clear he
              have HN1 : Hid (Nd w1 b' es.length g ∧ Below w.heap.size w w1 ∧ Blk w1 w.heap.size #[.int .i64 key, .int .i64 val, .bool ok, .pointer none] 110 ∧ Blk w1 R #[rp, .int .i64 H, .int .i64 n, lv] 115 ∧ LessS base w1 lv tb) := by obtain ⟨q, hq⟩ := HQ1.out; rw [hq]; exact ⟨HNW.out, below_dN HBW.out q, HEW.out, HRW.out, HLS.out.drewN q⟩
              clear a0 c3 c0
              have a0 : w1.cell? ⟨b', 1 + i * 4, none⟩ = some (.int .i64 x.1) := by rw [← (HP.out i x HX.out).1]; exact HN1.out.1.at' i 0 h64 (by omega)
              have c3 : w1.cell? ⟨R, 3, none⟩ = some lv := HN1.out.2.2.2.1.cell 3
              obtain ⟨cv, hcv⟩ : ∃ cv, cmp tb key x.1 = cv := ⟨_, rfl⟩
              have HCV := hid hcv
              rw [hcv] at hc hc2 ⊢
              clear hcv
              go_upto_region 11 with fail
              refine still_tail_drew 12 (by kernel_rfl) (by kernel_rfl) ?_
              simp only [List.take_succ_cons, List.take_zero, List.drop_succ_cons, List.drop_zero]
              repeat still_step
              refine wpStill_nil ?_
              go_wp2_with fail
              refine (compare_any lv tb key x.1 _ (HN1.out.2.2.2.2.drewN 1).now).mono ?_
              rintro e w2 ⟨rfl, q2, hq2⟩
              have HN2 : Hid (Nd w2 b' es.length g ∧ Below w.heap.size w w2 ∧ Blk w2 w.heap.size #[.int .i64 key, .int .i64 val, .bool ok, .pointer none] 110 ∧ Blk w2 R #[rp, .int .i64 H, .int .i64 n, lv] 115) := by rw [hq2]; exact ⟨HN1.out.1, below_dN (below_dr HN1.out.2.1) q2, HN1.out.2.2.1, HN1.out.2.2.2.1⟩
              have HQ2 : Hid (∃ q, w2 = W.drewN q) := by
                obtain ⟨qa, ha⟩ := HI.out.1
                obtain ⟨qb, hb⟩ := HQ1.out
                exact ⟨qa + qb + 1 + q2, by rw [hq2, hb, ha]; simp [Nat.add_assoc]⟩
              clear hq2 a0 c3
              by_cases hc3 : rankOf tb key < rankOf tb x.1
              · rw [cmp_lt hc3]
                have HC3 := hid hc3
                clear hc3 hc hc2
                go_wp2_with fail
                go_meet
                case rel => exact ⟨i, es.length, g, ⟨key, val, ok, none⟩, rfl, hi, HF.out, HN2.out.1, HN2.out.2.2.1, HNE.out, HN2.out.2.2.2, fun e w' hT => leaf_done HN2.out.2.1 HN.out.lt HP.out hi (ins_at HI.out.2 hi (.inr ⟨x, HX.out, HC3.out⟩)) hT⟩
              · have HC3 : Hid (rankOf tb x.1 < rankOf tb key) := hid (by have := HNQ.out; omega)
                rw [cmp_gt HC3.out]
                clear hc3 hc hc2
                go_wp2_with fail
                have hg0 := HGK.out
                obtain ⟨k1, rfl⟩ : ∃ k1, gk = k1 + 1 := ⟨gk - 1, by omega⟩
                go_roundg k1
                case measure => omega
                case rel => exact ⟨i + 1, rfl, hlt, by show k1 + (i + 1) = es.length; omega, HQ2.out, fun y e hy hq => by
                  by_cases hyi : y = i
                  · subst hyi; rw [HX.out] at hq; obtain rfl := Option.some.inj hq; exact HC3.out
                  · exact HI.out.2 y e (by omega) hq⟩
          · obtain rfl : i = es.length := by omega
            have hlti : ¬ (es.length : Int) < es.length := by omega
            go_wp2_with fail
            go_meet
            case rel => exact ⟨es.length, es.length, g, ⟨key, val, ok, none⟩, rfl, Nat.le_refl _, HF.out, HNW.out, HEW.out, HNE.out, HRW.out, fun e w' hT => leaf_done HBW.out HN.out.lt HP.out (Nat.le_refl _) (ins_at HI.out.2 (Nat.le_refl _) (.inl rfl)) hT⟩
      | succ h =>
        obtain ⟨b', cs⟩ := t
        obtain rfl : b' = b := HBK.out
        obtain ⟨⟨g, hN0, hP0⟩, hI0⟩ := HG.out.mem
        have HN : Hid (Nd w b' cs.length g) := hN0
        have HP : Hid (Rep Rep1 g cs) := hP0
        have hlen0 : (cs.map rawC).length ≤ 63 := HG.out.len
        have hone0 : 1 ≤ (cs.map rawC).length := HG.out.one (by omega)
        rw [List.length_map] at hlen0 hone0
        have HF : Hid (cs.length ≤ 63 ∧ 1 ≤ cs.length) := ⟨hlen0, hone0⟩
        clear hN0 hP0 hI0 hlen0 hone0
        have hz : (hv == 0) = false := beq_eq_false_iff_ne.2 (by have := HHV.out; omega)
        have hz2 : IntKind.i64.wrap (hv - 1) = (h : Int) := by have := HHV.out; have := HH.out; rw [i64_in _ (by omega)]; omega
        rw [hz]
        clear hz
        go_wp2_with fail
        go_loopg [14, 15] cs.length (fun n_ v14 v15 wr => ∃ i : Nat, v14 = .int .i64 i ∧ i < cs.length ∧ Hid (n_ + i = cs.length) ∧ Hid ((∃ q, wr = W.drewN q) ∧ ∀ y d, 1 ≤ y → y ≤ i → cs[y]? = some d → ¬ rankOf tb key < rankOf tb d.1))
        case atStart => exact ⟨0, rfl, HF.out.2, Nat.add_zero _, ⟨0, rfl⟩, fun y d h1 h2 => by omega⟩
        case round =>
          obtain ⟨i, rfl, hlt, HGK, HI⟩ := hrel
          have HNW : Hid (Nd wr b' cs.length g) := by obtain ⟨q, hq⟩ := HI.out.1; rw [hq]; exact Nd.below HN.out (below_dN HW.out q) HN.out.lt
          have HRW : Hid (Blk wr R #[rp, .int .i64 H, .int .i64 n, lv] 115) := by obtain ⟨q, hq⟩ := HI.out.1; rw [hq]; exact HR.out.below (below_dN HW.out q) HR.out.lt
          have HEW : Hid (Blk wr w.heap.size #[.int .i64 key, .int .i64 val, .bool ok, .pointer none] 110) := by obtain ⟨q, hq⟩ := HI.out.1; rw [hq]; exact HE.out
          have HBW : Hid (Below w.heap.size w wr ∧ wr.heap.size = w.heap.size + 1) := by obtain ⟨q, hq⟩ := HI.out.1; rw [hq]; exact ⟨below_dN HW.out q, HSZ.out⟩
          have HNE : Hid (b' ≠ w.heap.size) := hid (Nat.ne_of_lt HN.out.lt)
          have c0 : wr.cell? ⟨b', 0, none⟩ = some (.int .i64 cs.length) := HNW.out.m0
          have hx : cs[i]? = some cs[i] := List.getElem?_eq_getElem hlt
          have h63 := HF.out.1
          generalize cs[i] = x at hx
          have hp := (HP.out i x hx).2
          have c3 : wr.cell? ⟨R, 3, none⟩ = some lv := HRW.out.cell 3
          have HX := hid hx
          have HLS : Hid (LessS base wr lv tb) := hid (HL.out.to (below_le HBW.out.1 HB.out))
          have hlti : (i : Int) < cs.length := by omega
          have hw1 : IntKind.i64.wrap ((i : Int) + 1) = ((i + 1 : Nat) : Int) := by rw [i64_in _ (by omega)]; rfl
          have r1 : (i : Int) < 64 := by omega
          have hp3 : wr.cell? ⟨b', 1 + i * 4 + 3, none⟩ = some (.pointer (some ⟨N.blk h x.2, 0, none⟩)) := by rw [← hp]; exact HNW.out.at' i 3 (by omega) (by omega)
          clear hp hx
          by_cases hl : i + 1 = cs.length
          · have hm : ((cs.length : Int) == ((i + 1 : Nat) : Int)) = true := by rw [hl]; simp
            have hm' : (((i + 1 : Nat) : Int) == (cs.length : Int)) = true := by rw [hl]; simp
            have HPK : Hid (i + 1 = cs.length ∨ ∃ d, cs[i + 1]? = some d ∧ rankOf tb key < rankOf tb d.1) := .inl hl
            go_wp2_with fail
            go_quiet ((fail))
            go_wp2_with fail
            clear hl hm hm'
            clear c0 c3 hp3
            obtain ⟨A, B, hcs, hA⟩ : ∃ A B, cs = A ++ x :: B ∧ A.length = i := split_at HX.out
            have HHA := hid hA
            subst hcs
            have HW2 : Hid (Below w.heap.size w (wr.drewN nq)) := hid (below_dN HBW.out.1 nq)
            have HKD : Hid (Good base tb (wr.drewN nq) x.2) := hid (HG.out.kid.below HW2.out)
            have HNR : Hid (R ∉ N.ids h x.2) := hid (fun hm => HRN.out (by show R ∈ b' :: fids (A ++ x :: B); exact List.mem_cons_of_mem _ (mem_fids (by simp) hm)))
            have HNEB : Hid (w.heap.size ∉ N.ids h x.2) := hid (fun hm => by have := HG.out.kid.mem.lt _ hm; omega)
            clear hA
            refine (HIH.out h rfl x.2 (wr.drewN nq) HKD.out HRW.out HNR.out (HLS.out.drewN nq) (by have := HB.out; have := HW2.out.size; omega) (by have := HH.out; omega)).mono ?_
            rintro e w1 ⟨x', u, rfl, O⟩
            have HO := hid O
            have HKL := hid (kid_left HG.out HW2.out O)
            have HIK := hid (ins_kid (b := b') HHA.out HX.out (fun y d h1 h2 hd => by have := HI.out.2 y d h1 h2 hd; omega) HPK.out O.raw)
            have HN1 : Hid (Nd w1 b' (A ++ x :: B).length g) := hid (Blk.fr (S := (· ∈ N.ids h x.2)) HNW.out (Fr.into (Z := (· ∈ N.ids h x.2)) (fr_dn O.fr) (fun _ h => h)) HKL.out.1)
            have HE1 : Hid (Blk w1 w.heap.size #[.int .i64 key, .int .i64 val, .bool ok, .pointer none] 110) := hid (Blk.fr (S := (· ∈ N.ids h x.2)) HEW.out (fr_dn O.fr) HNEB.out)
            have HR1 : Hid (Blk w1 R #[rp, .int .i64 H, .int .i64 n, lv] 115) := hid (Blk.fr (S := (· ∈ N.ids h x.2)) HRW.out (fr_dn O.fr) HNR.out)
            clear O
            cases u with
            | none =>
              rw [show uptr (none : Option (N h)) = .pointer none from rfl]
              go_wp2_with fail
              go_ret
              exact inner_done (L := A ++ (x.1, x') :: B) HIK.out (kid_in HKL.out.2.1 HO.out.mem) (kid_nd HKL.out.2.2.1) (fun y hy => kid_ids (hW := HW2.out) HKL.out.2.2.2.1 y hy) HKL.out.2.2.2.2 HN1.out.lt
                (.inl ⟨by have := HF.out.1; simp at this ⊢; omega, rfl, ⟨g, by rw [show (A ++ (x.1, x') :: B).length = (A ++ x :: B).length by simp]; exact HN1.out, kid_rep HP.out HO.out.blk⟩, Fr.refl _ _⟩)
            | some u =>
              rw [show uptr (some u) = .pointer (some ⟨N.blk h u, 0, none⟩) from rfl]
              have HMU := hid (made_u HKD.out HO.out.raw)
              have c1 : w1.cell? ⟨N.blk h u, 1, none⟩ = some (.int .i64 (T.first h (N.raw h u))) := first_cell (HO.out.memu u rfl) HMU.out
              have hub : N.blk h u ≠ w.heap.size := HO.out.blk_ne HBW.out.2 HNEB.out
              have e0 : w1.cell? ⟨w.heap.size, 0, none⟩ = some (.int .i64 key) := HE1.out.cell 0
              have e2 : w1.cell? ⟨w.heap.size, 2, none⟩ = some (.bool ok) := HE1.out.cell 2
              have e3 : w1.cell? ⟨w.heap.size, 3, none⟩ = some (.pointer none) := HE1.out.cell 3
              have f0 : w1.frozen? ⟨w.heap.size, 0, none⟩ = false := HE1.out.free 0
              have f2 : w1.frozen? ⟨w.heap.size, 2, none⟩ = false := HE1.out.free 2
              have f3 : w1.frozen? ⟨w.heap.size, 3, none⟩ = false := HE1.out.free 3
              obtain ⟨fu, hfu⟩ : ∃ fu, T.first h (N.raw h u) = fu := ⟨_, rfl⟩
              obtain ⟨bu, hbu⟩ : ∃ bu, N.blk h u = bu := ⟨_, rfl⟩
              rw [hfu, hbu] at c1
              rw [hbu] at hub ⊢
              have HFU := hid (And.intro hfu hbu)
              clear hfu hbu
              go_wp2_with fail
              have HZ0 : Hid (Fr (· = w.heap.size) w1 (((w1.setCell ⟨w.heap.size, 0, none⟩ (.int .i64 fu)).setCell ⟨w.heap.size, 2, none⟩ (.bool false)).setCell ⟨w.heap.size, 3, none⟩ (.pointer (some ⟨bu, 0, none⟩)))) :=
                hid (Fr.setCell (S := (· = w.heap.size)) (Fr.setCell (S := (· = w.heap.size)) (Fr.setCell (S := (· = w.heap.size)) (Fr.refl _ _) (p := ⟨w.heap.size, 0, none⟩) (fun _ => rfl) _) (p := ⟨w.heap.size, 2, none⟩) (fun _ => rfl) _) (p := ⟨w.heap.size, 3, none⟩) (fun _ => rfl) _)
              have HZ1 : Hid (Blk (((w1.setCell ⟨w.heap.size, 0, none⟩ (.int .i64 fu)).setCell ⟨w.heap.size, 2, none⟩ (.bool false)).setCell ⟨w.heap.size, 3, none⟩ (.pointer (some ⟨bu, 0, none⟩))) w.heap.size #[.int .i64 fu, .int .i64 val, .bool false, .pointer (some ⟨bu, 0, none⟩)] 110) := hid (((HE1.out.set 0 _).set 2 _).set 3 _)
              generalize ((w1.setCell ⟨w.heap.size, 0, none⟩ (.int .i64 fu)).setCell ⟨w.heap.size, 2, none⟩ (.bool false)).setCell ⟨w.heap.size, 3, none⟩ (.pointer (some ⟨bu, 0, none⟩)) = wz at HZ0 HZ1 ⊢
              go_meet
              case rel => exact ⟨i + 1, (A ++ x :: B).length, g, ⟨fu, val, false, some ⟨bu, 0, none⟩⟩, rfl, hlt, HF.out.1, Blk.fr HN1.out HZ0.out HNE.out, HZ1.out, HNE.out, Blk.fr HR1.out HZ0.out (Nat.ne_of_lt HR.out.lt), fun e w' hT => by
                obtain ⟨rfl, rfl⟩ := HFU.out
                have hl1 : (A ++ x :: B).length = (A ++ (x.1, x') :: B).length := by simp
                rw [hl1] at hT
                have hT2 := hT.rep (x := (T.first h (N.raw h u), u)) (kid_rep HP.out HO.out.blk) ⟨rfl, rfl⟩ (by rw [← hl1]; exact hlt)
                have hL : (A ++ (x.1, x') :: B).take (i + 1) ++ (T.first h (N.raw h u), u) :: (A ++ (x.1, x') :: B).drop (i + 1) = A ++ (x.1, x') :: (T.first h (N.raw h u), u) :: B := by
                  rw [← HHA.out, show A ++ (x.1, x') :: B = (A ++ [(x.1, x')]) ++ B by simp, show A.length + 1 = (A ++ [(x.1, x')]).length by simp, List.take_left, List.drop_left]
                  simp
                rw [hL] at hT2
                have hk := kid2_ids (k := x.1) (k2 := T.first h (N.raw h u)) HKL.out.2.2.2.1
                refine inner_done (L := A ++ (x.1, x') :: (T.first h (N.raw h u), u) :: B) HIK.out (fun c hc => (kid2_in HKL.out.2.1 HO.out.mem (HO.out.memu u rfl) c hc).fr HZ0.out (fun y hy e => ?_)) (kid2_nd HKL.out.2.2.1) (fun y hy => ?_) (HKL.out.2.2.2.2.trans HZ0.out (fun n hn e => absurd hn (by omega))) (Nat.lt_of_lt_of_le HN1.out.lt HZ0.out.size) hT2
                · have h2 : wr.heap.size = w.heap.size + 1 := HBW.out.2
                  rcases hk y (mem_fids hc hy) with h1 | h1
                  · have := N.In.lt (h := h + 1) HG.out.mem y h1; omega
                  · have : wr.heap.size ≤ y := h1; omega
                · have h2 : wr.heap.size = w.heap.size + 1 := HBW.out.2
                  rcases hk y hy with h1 | h1
                  · exact .inl h1
                  · right; have : wr.heap.size ≤ y := h1; omega⟩
          · have hm2 : ((cs.length : Int) == (i : Int) + 1) = false := beq_eq_false_iff_ne.2 (by omega)
            have hm2' : ((i : Int) + 1 == (cs.length : Int)) = false := beq_eq_false_iff_ne.2 (by omega)
            have hm3 : ¬ (cs.length : Int) = (i : Int) + 1 := by omega
            have hm3' : ¬ (i : Int) + 1 = (cs.length : Int) := by omega
            have hm4 : (cs.length == i + 1) = false := beq_eq_false_iff_ne.2 (by omega)
            have hm4' : (i + 1 == cs.length) = false := beq_eq_false_iff_ne.2 (by omega)
            have hm5 : ¬ cs.length = i + 1 := by omega
            have hl2 : i + 1 < cs.length := by omega
            have hx2 : cs[i + 1]? = some cs[i + 1] := List.getElem?_eq_getElem hl2
            generalize cs[i + 1] = x2 at hx2
            have hk2 := (HP.out (i + 1) x2 hx2).1
            have a0 : wr.cell? ⟨b', 1 + (i + 1) * 4, none⟩ = some (.int .i64 x2.1) := by rw [← hk2]; exact HNW.out.at' (i + 1) 0 (by omega) (by omega)
            have HX2 := hid hx2
            clear hk2 hx2
            have r2 : 0 ≤ (i : Int) + 1 ∧ (i : Int) + 1 < 64 := by omega
            have t0 : ((i : Int) + 1).toNat = i + 1 := by omega
            go_wp2_with fail
            go_quiet ((exact Calls.quiet_of (compare_any lv tb key x2.1 _ (HLS.out.drewN _).now)))
            by_cases hc : rankOf tb key < rankOf tb x2.1
            · have HPK : Hid (i + 1 = cs.length ∨ ∃ d, cs[i + 1]? = some d ∧ rankOf tb key < rankOf tb d.1) := .inr ⟨x2, HX2.out, hc⟩
              rw [cmp_lt hc]
              clear hc a0 hm2 hm2' hm3 hm3' hm4 hm4' hm5 hl2 r2 t0
              go_wp2_with fail
              clear c0 c3 hp3
              obtain ⟨A, B, hcs, hA⟩ : ∃ A B, cs = A ++ x :: B ∧ A.length = i := split_at HX.out
              have HHA := hid hA
              subst hcs
              have HW2 : Hid (Below w.heap.size w (wr.drewN nq)) := hid (below_dN HBW.out.1 nq)
              have HKD : Hid (Good base tb (wr.drewN nq) x.2) := hid (HG.out.kid.below HW2.out)
              have HNR : Hid (R ∉ N.ids h x.2) := hid (fun hm => HRN.out (by show R ∈ b' :: fids (A ++ x :: B); exact List.mem_cons_of_mem _ (mem_fids (by simp) hm)))
              have HNEB : Hid (w.heap.size ∉ N.ids h x.2) := hid (fun hm => by have := HG.out.kid.mem.lt _ hm; omega)
              clear hA
              refine (HIH.out h rfl x.2 (wr.drewN nq) HKD.out HRW.out HNR.out (HLS.out.drewN nq) (by have := HB.out; have := HW2.out.size; omega) (by have := HH.out; omega)).mono ?_
              rintro e w1 ⟨x', u, rfl, O⟩
              have HO := hid O
              have HKL := hid (kid_left HG.out HW2.out O)
              have HIK := hid (ins_kid (b := b') HHA.out HX.out (fun y d h1 h2 hd => by have := HI.out.2 y d h1 h2 hd; omega) HPK.out O.raw)
              have HN1 : Hid (Nd w1 b' (A ++ x :: B).length g) := hid (Blk.fr (S := (· ∈ N.ids h x.2)) HNW.out (Fr.into (Z := (· ∈ N.ids h x.2)) (fr_dn O.fr) (fun _ h => h)) HKL.out.1)
              have HE1 : Hid (Blk w1 w.heap.size #[.int .i64 key, .int .i64 val, .bool ok, .pointer none] 110) := hid (Blk.fr (S := (· ∈ N.ids h x.2)) HEW.out (fr_dn O.fr) HNEB.out)
              have HR1 : Hid (Blk w1 R #[rp, .int .i64 H, .int .i64 n, lv] 115) := hid (Blk.fr (S := (· ∈ N.ids h x.2)) HRW.out (fr_dn O.fr) HNR.out)
              clear O
              cases u with
              | none =>
                rw [show uptr (none : Option (N h)) = .pointer none from rfl]
                go_wp2_with fail
                go_ret
                exact inner_done (L := A ++ (x.1, x') :: B) HIK.out (kid_in HKL.out.2.1 HO.out.mem) (kid_nd HKL.out.2.2.1) (fun y hy => kid_ids (hW := HW2.out) HKL.out.2.2.2.1 y hy) HKL.out.2.2.2.2 HN1.out.lt
                  (.inl ⟨by have := HF.out.1; simp at this ⊢; omega, rfl, ⟨g, by rw [show (A ++ (x.1, x') :: B).length = (A ++ x :: B).length by simp]; exact HN1.out, kid_rep HP.out HO.out.blk⟩, Fr.refl _ _⟩)
              | some u =>
                rw [show uptr (some u) = .pointer (some ⟨N.blk h u, 0, none⟩) from rfl]
                have HMU := hid (made_u HKD.out HO.out.raw)
                have c1 : w1.cell? ⟨N.blk h u, 1, none⟩ = some (.int .i64 (T.first h (N.raw h u))) := first_cell (HO.out.memu u rfl) HMU.out
                have hub : N.blk h u ≠ w.heap.size := HO.out.blk_ne HBW.out.2 HNEB.out
                have e0 : w1.cell? ⟨w.heap.size, 0, none⟩ = some (.int .i64 key) := HE1.out.cell 0
                have e2 : w1.cell? ⟨w.heap.size, 2, none⟩ = some (.bool ok) := HE1.out.cell 2
                have e3 : w1.cell? ⟨w.heap.size, 3, none⟩ = some (.pointer none) := HE1.out.cell 3
                have f0 : w1.frozen? ⟨w.heap.size, 0, none⟩ = false := HE1.out.free 0
                have f2 : w1.frozen? ⟨w.heap.size, 2, none⟩ = false := HE1.out.free 2
                have f3 : w1.frozen? ⟨w.heap.size, 3, none⟩ = false := HE1.out.free 3
                obtain ⟨fu, hfu⟩ : ∃ fu, T.first h (N.raw h u) = fu := ⟨_, rfl⟩
                obtain ⟨bu, hbu⟩ : ∃ bu, N.blk h u = bu := ⟨_, rfl⟩
                rw [hfu, hbu] at c1
                rw [hbu] at hub ⊢
                have HFU := hid (And.intro hfu hbu)
                clear hfu hbu
                go_wp2_with fail
                have HZ0 : Hid (Fr (· = w.heap.size) w1 (((w1.setCell ⟨w.heap.size, 0, none⟩ (.int .i64 fu)).setCell ⟨w.heap.size, 2, none⟩ (.bool false)).setCell ⟨w.heap.size, 3, none⟩ (.pointer (some ⟨bu, 0, none⟩)))) :=
                  hid (Fr.setCell (S := (· = w.heap.size)) (Fr.setCell (S := (· = w.heap.size)) (Fr.setCell (S := (· = w.heap.size)) (Fr.refl _ _) (p := ⟨w.heap.size, 0, none⟩) (fun _ => rfl) _) (p := ⟨w.heap.size, 2, none⟩) (fun _ => rfl) _) (p := ⟨w.heap.size, 3, none⟩) (fun _ => rfl) _)
                have HZ1 : Hid (Blk (((w1.setCell ⟨w.heap.size, 0, none⟩ (.int .i64 fu)).setCell ⟨w.heap.size, 2, none⟩ (.bool false)).setCell ⟨w.heap.size, 3, none⟩ (.pointer (some ⟨bu, 0, none⟩))) w.heap.size #[.int .i64 fu, .int .i64 val, .bool false, .pointer (some ⟨bu, 0, none⟩)] 110) := hid (((HE1.out.set 0 _).set 2 _).set 3 _)
                generalize ((w1.setCell ⟨w.heap.size, 0, none⟩ (.int .i64 fu)).setCell ⟨w.heap.size, 2, none⟩ (.bool false)).setCell ⟨w.heap.size, 3, none⟩ (.pointer (some ⟨bu, 0, none⟩)) = wz at HZ0 HZ1 ⊢
                go_meet
                case rel => exact ⟨i + 1, (A ++ x :: B).length, g, ⟨fu, val, false, some ⟨bu, 0, none⟩⟩, rfl, hlt, HF.out.1, Blk.fr HN1.out HZ0.out HNE.out, HZ1.out, HNE.out, Blk.fr HR1.out HZ0.out (Nat.ne_of_lt HR.out.lt), fun e w' hT => by
                  obtain ⟨rfl, rfl⟩ := HFU.out
                  have hl1 : (A ++ x :: B).length = (A ++ (x.1, x') :: B).length := by simp
                  rw [hl1] at hT
                  have hT2 := hT.rep (x := (T.first h (N.raw h u), u)) (kid_rep HP.out HO.out.blk) ⟨rfl, rfl⟩ (by rw [← hl1]; exact hlt)
                  have hL : (A ++ (x.1, x') :: B).take (i + 1) ++ (T.first h (N.raw h u), u) :: (A ++ (x.1, x') :: B).drop (i + 1) = A ++ (x.1, x') :: (T.first h (N.raw h u), u) :: B := by
                    rw [← HHA.out, show A ++ (x.1, x') :: B = (A ++ [(x.1, x')]) ++ B by simp, show A.length + 1 = (A ++ [(x.1, x')]).length by simp, List.take_left, List.drop_left]
                    simp
                  rw [hL] at hT2
                  have hk := kid2_ids (k := x.1) (k2 := T.first h (N.raw h u)) HKL.out.2.2.2.1
                  refine inner_done (L := A ++ (x.1, x') :: (T.first h (N.raw h u), u) :: B) HIK.out (fun c hc => (kid2_in HKL.out.2.1 HO.out.mem (HO.out.memu u rfl) c hc).fr HZ0.out (fun y hy e => ?_)) (kid2_nd HKL.out.2.2.1) (fun y hy => ?_) (HKL.out.2.2.2.2.trans HZ0.out (fun n hn e => absurd hn (by omega))) (Nat.lt_of_lt_of_le HN1.out.lt HZ0.out.size) hT2
                  · have h2 : wr.heap.size = w.heap.size + 1 := HBW.out.2
                    rcases hk y (mem_fids hc hy) with h1 | h1
                    · have := N.In.lt (h := h + 1) HG.out.mem y h1; omega
                    · have : wr.heap.size ≤ y := h1; omega
                  · have h2 : wr.heap.size = w.heap.size + 1 := HBW.out.2
                    rcases hk y hy with h1 | h1
                    · exact .inl h1
                    · right; have : wr.heap.size ≤ y := h1; omega⟩
            · have HCC := hid hc
              have hcz : (0 : Int) ≤ cmp tb key x2.1 := by unfold cmp; rw [if_neg hc]; split <;> omega
              have hcz2 : ¬ cmp tb key x2.1 < 0 := by omega
              have hcz3 : decide (cmp tb key x2.1 < 0) = false := decide_eq_false hcz2
              clear hc
              generalize cmp tb key x2.1 = cv at hcz hcz2 hcz3 ⊢
              go_wp2_with fail
              have hg0 := HGK.out
              obtain ⟨k1, rfl⟩ : ∃ k1, gk = k1 + 1 := ⟨gk - 1, by omega⟩
              go_roundg k1
              case measure => omega
              case rel => exact ⟨i + 1, rfl, hl2, by show k1 + (i + 1) = cs.length; omega, by obtain ⟨q, hq⟩ := HI.out.1; exact ⟨q + nq, by rw [hq]; simp⟩, fun y d h1 h2 hd => by
                by_cases hyi : y = i + 1
                · subst hyi; rw [HX2.out] at hd; obtain rfl := Option.some.inj hd; exact HCC.out
                · exact HI.out.2 y d h1 (by omega) hd⟩
    case rest =>
      obtain ⟨j, m, g, q, rfl, hj, hm, HT⟩ := hcut
      have c0 := HT.out.1.m0
      clear HE HW HSZ
      go_wp2_with fail
      clear c0
      go_loopg [16] (m - j) (fun n_ v16 wr => ∃ (i : Nat) (gi : Nat → Q), v16 = .int .i64 i ∧ j ≤ i ∧ i ≤ m ∧ Hid (n_ + j = i) ∧ Hid (Nd wr b m gi ∧ (∀ x, x ≤ 63 → gi x = moved g m i x) ∧ Blk wr w.heap.size #[.int .i64 q.k, .int .i64 q.v, .bool q.ok, .pointer q.p] 110 ∧ Fr (· = b) wc wr))
      case atStart => exact ⟨m, g, rfl, hj, Nat.le_refl _, Nat.sub_add_cancel hj, HT.out.1, fun x _ => by unfold moved; rw [if_neg (by omega)], HT.out.2.1, Fr.refl _ _⟩
      case round =>
        obtain ⟨i, gi, rfl, hji, him, HGK, HI⟩ := hrel
        by_cases hlt : j < i
        · obtain ⟨i, rfl⟩ : ∃ i', i = i' + 1 := ⟨i - 1, by omega⟩
          have HJI := hid hji
          have a0 : wr.cell? ⟨b, 1 + i * 4, none⟩ = some (.int .i64 (gi i).k) := HI.out.1.at' i 0 (by omega) (by omega)
          have a1 : wr.cell? ⟨b, 1 + i * 4 + 1, none⟩ = some (.int .i64 (gi i).v) := HI.out.1.at' i 1 (by omega) (by omega)
          have a2 : wr.cell? ⟨b, 1 + i * 4 + 2, none⟩ = some (.bool (gi i).ok) := HI.out.1.at' i 2 (by omega) (by omega)
          have a3 : wr.cell? ⟨b, 1 + i * 4 + 3, none⟩ = some (.pointer (gi i).p) := HI.out.1.at' i 3 (by omega) (by omega)
          have r0 : (i : Int) < 64 ∧ (i : Int) + 1 < 64 ∧ 0 ≤ (i : Int) + 1 := by omega
          have w0 : IntKind.i64.wrap (i : Int) = (i : Int) := i64_in _ (by omega)
          have t0 : ((i : Int) + 1).toNat = i + 1 := by omega
          have l0 : (j : Int) < (i : Int) + 1 := by omega
          go_upto_region 26 with fail
          refine still_tail_drew 12 (by kernel_rfl) (by kernel_rfl) ?_
          simp only [List.take_succ_cons, List.take_zero, List.drop_succ_cons, List.drop_zero]
          repeat still_step
          refine wpStill_nil ?_
          change wpList _ _ _ _ _ wr.drew
          refine wpList_store_mid rfl 110 (.tmp 153) (.tmp 150) rfl b (1 + (i + 1) * 4) _ rfl rfl (Nd.there (w := wr.drew) HI.out.1 (i + 1) (by omega)) (by kernel_rfl) (by simp [Value.oneCell']) ?_
          change wpList _ _ _ _ _ (wr.drew.setCells b (1 + (i + 1) * 4) (cellsQ (gi i)))
          have HI2 := hid (Nd.puts (w := wr.drew) HI.out.1 (i + 1) (gi i) (by omega))
          have HI3 : Hid (Blk (wr.drew.setCells b (1 + (i + 1) * 4) (cellsQ (gi i))) w.heap.size #[.int .i64 q.k, .int .i64 q.v, .bool q.ok, .pointer q.p] 110) := Blk.sets (w := wr.drew) HI.out.2.2.1 b (1 + (i + 1) * 4) (cellsQ (gi i)) (fun e => HT.out.2.2.1 e.symm)
          have HI4 := hid (fr_sets (S := (· = b)) (b := b) (fun _ => rfl) HI.out.2.2.2.drew (1 + (i + 1) * 4) (cellsQ (gi i)))
          clear a0 a1 a2 a3
          generalize wr.drew.setCells b (1 + (i + 1) * 4) (cellsQ (gi i)) = W4 at HI2 HI3 HI4 ⊢
          go_wp2_with fail
          have hg0 := HGK.out
          obtain ⟨k1, rfl⟩ : ∃ k1, gk = k1 + 1 := ⟨gk - 1, by omega⟩
          go_roundg k1
          case measure => omega
          case rel => exact ⟨i, _, rfl, by omega, by omega, by show k1 + j = i; omega, HI2.out, fun x hx => by
            have h1 := HI.out.2.1 i (by omega)
            have h2 := HI.out.2.1 x hx
            unfold moved at h1 h2 ⊢
            simp only [upd]
            by_cases e : x = i + 1
            · subst e
              rw [if_pos rfl, h1, if_neg (by omega), if_pos (by omega)]
              rfl
            · rw [if_neg e, h2]
              by_cases e2 : i + 1 < x ∧ x ≤ m
              · rw [if_pos e2, if_pos (by omega)]
              · rw [if_neg e2, if_neg (by omega)], HI3.out, HI4.out⟩
        · obtain rfl : i = j := by omega
          have l0 : ¬ (i : Int) < (i : Int) := by omega
          have e0 : wr.cell? ⟨w.heap.size, 0, none⟩ = some (.int .i64 q.k) := HI.out.2.2.1.cell 0
          have e1 : wr.cell? ⟨w.heap.size, 1, none⟩ = some (.int .i64 q.v) := HI.out.2.2.1.cell 1
          have e2 : wr.cell? ⟨w.heap.size, 2, none⟩ = some (.bool q.ok) := HI.out.2.2.1.cell 2
          have e3 : wr.cell? ⟨w.heap.size, 3, none⟩ = some (.pointer q.p) := HI.out.2.2.1.cell 3
          have r0 : (i : Int) < 64 := by omega
          go_upto_region 27 with fail
          refine still_tail_drew 6 (by kernel_rfl) (by kernel_rfl) ?_
          simp only [List.take_succ_cons, List.take_zero, List.drop_succ_cons, List.drop_zero]
          repeat still_step
          refine wpStill_nil ?_
          change wpList _ _ _ _ _ wr.drew
          refine wpList_store_mid rfl 110 (.tmp 159) (.tmp 156) rfl b (1 + i * 4) _ rfl rfl (Nd.there (w := wr.drew) HI.out.1 i (by omega)) (by kernel_rfl) (by simp [Value.oneCell']) ?_
          change wpList _ _ _ _ _ (wr.drew.setCells b (1 + i * 4) (cellsQ q))
          have HI2 := hid (Nd.puts (w := wr.drew) HI.out.1 i q (by omega))
          have HI4 := hid (fr_sets (S := (· = b)) (b := b) (fun _ => rfl) HI.out.2.2.2.drew (1 + i * 4) (cellsQ q))
          clear e0 e1 e2 e3
          generalize wr.drew.setCells b (1 + i * 4) (cellsQ q) = W4 at HI2 HI4 ⊢
          have c0 := HI2.out.m0
          have f0 := HI2.out.free 0
          have w0 : IntKind.i64.wrap ((m : Int) + 1) = ((m + 1 : Nat) : Int) := by rw [i64_in _ (by omega)]; rfl
          have HI5 := hid (HI2.out.setm ((m : Int) + 1))
          have HI6 := hid (HI4.out.setCell (p := ⟨b, 0, none⟩) (fun _ => rfl) (.int .i64 ((m : Int) + 1)))
          go_upto_region 29 with fail
          have HPL : Hid (∀ x, x ≤ m → upd gi i q x = shift g i q x) := hid (fun x hx => by
            have h2 := HI.out.2.1 x (by omega)
            unfold moved at h2
            unfold shift
            simp only [upd]
            by_cases e : x = i
            · rw [if_pos e, if_neg (by omega), if_pos e]
            · rw [if_neg e, h2]
              by_cases e2 : x < i
              · rw [if_pos e2, if_neg (by omega)]
              · rw [if_neg e2, if_neg e, if_pos (by omega)])
          clear c0 f0
          generalize W4.setCell ⟨b, 0, none⟩ (.int .i64 ((m : Int) + 1)) = W5 at HI5 HI6 ⊢
          have c0 := HI5.out.m0
          by_cases hm2 : m + 1 < 64
          · have hm3 : (m : Int) + 1 < 64 := by omega
            go_wp2_with fail
            go_ret
            exact HT.out.2.2.2.2 _ _ (.inl ⟨hm2, rfl, ⟨_, HI5.out, HPL.out⟩, HI6.out⟩)
          · obtain rfl : m = 63 := by omega
            have HN5 : Hid (Nd W5 b 64 (upd gi i q)) := HI5.out
            clear HI5 c0
            have c0 : W5.cell? ⟨b, 0, none⟩ = some (.int .i64 64) := HN5.out.m0
            go_wp2_with fail
            refine (split_any R b (upd gi i q) W5 HN5.out).mono ?_
            rintro e w2 ⟨c, rfl, hc1, hc2, ⟨gc, hc3, hc4⟩, hc5⟩
            have HC := hid (And.intro hc1 (And.intro hc2 (And.intro hc3 (And.intro hc4 hc5))))
            clear hc1 hc2 hc3 hc4 hc5
            go_wp2_with fail
            go_ret
            refine HT.out.2.2.2.2 _ _ (.inr ⟨rfl, c, rfl, Nat.le_trans HI6.out.size HC.out.1, ⟨_, HC.out.2.1, fun x hx => HPL.out x (by omega)⟩, ⟨gc, HC.out.2.2.1, fun x hx => ?_⟩, HI6.out.trans HC.out.2.2.2.2 (fun _ _ h => h)⟩)
            rw [HC.out.2.2.2.1 x hx, HPL.out (32 + x) (by omega)]

theorem insert_any (base R : Nat) (tb : List Int) (key val n H : Int) (ok : Bool) (rp lv : Value) : ∀ (h : Nat) (t : N h) (w : World), Good base tb w t → Blk w R #[rp, .int .i64 H, .int .i64 n, lv] 115 → R ∉ N.ids h t → LessS base w lv tb → base ≤ w.heap.size → h ≤ 1099511627776 →
    Calls Try.prog 92 #[.pointer (some ⟨R, 0, none⟩), .pointer (some ⟨N.blk h t, 0, none⟩), .int .i64 key, .int .i64 val, .int .i64 h, .bool ok] w (Done tb key val ok t w)
  | 0, t, w, h1, h2, h3, h4, h5, h6 => insert_step base R tb key val n H ok rp lv 0 t w (fun h' e => by omega) h1 h2 h3 h4 h5 h6
  | h + 1, t, w, h1, h2, h3, h4, h5, h6 => insert_step base R tb key val n H ok rp lv (h + 1) t w (fun h' e => by
    obtain rfl : h = h' := by omega
    exact insert_any base R tb key val n H ok rp lv h) h1 h2 h3 h4 h5 h6
end Go.Proofs.Ytjlcebgfknfelaa.Bt
