/- AVL trees in memory: found, counted, the least one. -/
import Derived.Test.YtjlcebgfknfelaaAvlC
import Derived.Deep.QuietTactic
import Derived.BigQuiet
namespace Go.Proofs.Ytjlcebgfknfelaa.Avl
open Go Go.RowKit Go.Deep Go.Proofs.Ytjlcebgfknfelaa.Hk Go.Proofs.Ytjlcebgfknfelaa.AvlPure Go.Proofs.Ytjlcebgfknfelaa.Less

/-- The node that a search comes to. -/
def N.sub (rk : Int → Int) (key : Int) : N → N
  | .nil => .nil
  | .node b k v h l r => if rk key < rk k then N.sub rk key l else if rk k < rk key then N.sub rk key r else .node b k v h l r

theorem sub_find (rk : Int → Int) (key : Int) : ∀ t : N, T.find rk key t.raw = match N.sub rk key t with | .nil => none | .node _ k v _ _ _ => some (k, v)
  | .nil => rfl
  | .node b k v h l r => by
    simp only [N.raw, T.find, N.sub]
    split
    · exact sub_find rk key l
    · split
      · exact sub_find rk key r
      · rfl

theorem sub_in {w : World} (rk : Int → Int) (key : Int) : ∀ {t : N}, t.In w → (N.sub rk key t).In w
  | .nil, _ => trivial
  | .node b k v h l r, hin => by
    simp only [N.sub]
    split
    · exact sub_in rk key hin.2.1
    · split
      · exact sub_in rk key hin.2.2
      · exact hin

def Found (tb : List Int) (key : Int) (t : N) (w : World) (e : Ending) (w' : World) : Prop := e = .returned (N.sub (rankOf tb) key t).ptr ∧ ∃ n, w' = w.drewN n

set_option maxHeartbeats 800000 in
theorem search_any (base : Nat) (tb : List Int) (key : Int) (lv : Value) : ∀ (t : N) (w : World), t.In w → LessS base w lv tb →
    Calls Try.prog 85 #[t.ptr, .int .i64 key, lv] w (Found tb key t w)
  | .nil, w, _, _ => by
    show Calls Try.prog 85 #[.pointer none, .int .i64 key, lv] w _
    go_enter Try.func85, Try.ntmps85
    go_wp2_with fail
    go_ret
    exact ⟨rfl, 0, rfl⟩
  | .node b k v h l r, w, hin, hL => by
    have HI : Hid ((N.node b k v h l r).In w) := hin
    have HL : Hid (LessS base w lv tb) := hL
    have c0 : w.cell? ⟨b, 0, none⟩ = some (.int .i64 k) := hin.1.cell 0
    have c3 : w.cell? ⟨b, 3, none⟩ = some l.ptr := hin.1.cell 3
    have c4 : w.cell? ⟨b, 4, none⟩ = some r.ptr := hin.1.cell 4
    clear hin hL
    show Calls Try.prog 85 #[.pointer (some ⟨b, 0, none⟩), .int .i64 key, lv] w _
    by_cases h1 : rankOf tb key < rankOf tb k
    · have HC : Hid (cmp tb key k = -1) := cmp_lt h1
      have HR : Hid (N.sub (rankOf tb) key (N.node b k v h l r) = N.sub (rankOf tb) key l) := if_pos h1
      clear h1
      go_enter Try.func85, Try.ntmps85
      go_wp2_with fail
      refine (compare_any lv tb key k _ HL.out.now).mono ?_
      rintro e w1 ⟨rfl, n, rfl⟩
      rw [HC.out]
      go_wp2_with fail
      refine (search_any base tb key lv l (w.drewN n) (HI.out.2.1.drewN n) (HL.out.drewN n)).mono ?_
      rintro e w1 ⟨rfl, m, rfl⟩
      go_wp2_with fail
      go_ret
      exact ⟨by rw [HR.out]; rfl, n + m, by simp⟩
    · by_cases h2 : rankOf tb k < rankOf tb key
      · have HC : Hid (cmp tb key k = 1) := cmp_gt h2
        have HR : Hid (N.sub (rankOf tb) key (N.node b k v h l r) = N.sub (rankOf tb) key r) := (if_neg h1).trans (if_pos h2)
        clear h1 h2
        go_enter Try.func85, Try.ntmps85
        go_wp2_with fail
        refine (compare_any lv tb key k _ HL.out.now).mono ?_
        rintro e w1 ⟨rfl, n, rfl⟩
        rw [HC.out]
        go_wp2_with fail
        refine (compare_any lv tb key k _ (HL.out.drewN n).now).mono ?_
        rintro e w1 ⟨rfl, n', rfl⟩
        rw [HC.out]
        go_wp2_with fail
        refine (search_any base tb key lv r (w.drewN (n + n')) (HI.out.2.2.drewN (n + n')) (HL.out.drewN (n + n'))).mono ?_
        rintro e w1 ⟨rfl, m, rfl⟩
        go_wp2_with fail
        go_ret
        exact ⟨by rw [HR.out]; rfl, n + n' + m, by simp⟩
      · have HC : Hid (cmp tb key k = 0) := cmp_eq h1 h2
        have HR : Hid (N.sub (rankOf tb) key (N.node b k v h l r) = N.node b k v h l r) := (if_neg h1).trans (if_neg h2)
        clear h1 h2
        go_enter Try.func85, Try.ntmps85
        go_wp2_with fail
        refine (compare_any lv tb key k _ HL.out.now).mono ?_
        rintro e w1 ⟨rfl, n, rfl⟩
        rw [HC.out]
        go_wp2_with fail
        refine (compare_any lv tb key k _ (HL.out.drewN n).now).mono ?_
        rintro e w1 ⟨rfl, n', rfl⟩
        rw [HC.out]
        go_wp2_with fail
        go_ret
        exact ⟨by rw [HR.out]; rfl, n + n', by simp⟩

set_option maxHeartbeats 800000 in
set_option maxRecDepth 100000 in
theorem size_any : ∀ (t : N) (w : World), t.In w → t.raw.size ≤ 4611686018427387 →
    Calls Try.prog 86 #[t.ptr] w fun e w' => e = .returned (.int .i64 t.raw.size) ∧ ∃ n, w' = w.drewN n
  | .nil, w, _, _ => by
    show Calls Try.prog 86 #[.pointer none] w _
    go_enter Try.func86, Try.ntmps86
    go_wp2_with fail
    go_ret
    exact ⟨rfl, 0, rfl⟩
  | .node b k v h l r, w, hin, hs => by
    have e0 : (N.node b k v h l r).raw.size = 1 + l.raw.size + r.raw.size := rfl
    have s1 := T.size_nonneg l.raw
    have s2 := T.size_nonneg r.raw
    rw [e0] at hs ⊢
    have hl := size_any l
    have hr := size_any r
    have HH : Hid ((∀ (w : World), l.In w → l.raw.size ≤ 4611686018427387 → Calls Try.prog 86 #[l.ptr] w fun e w' => e = .returned (.int .i64 l.raw.size) ∧ ∃ n, w' = w.drewN n) ∧
      (∀ (w : World), r.In w → r.raw.size ≤ 4611686018427387 → Calls Try.prog 86 #[r.ptr] w fun e w' => e = .returned (.int .i64 r.raw.size) ∧ ∃ n, w' = w.drewN n)) := ⟨hl, hr⟩
    have HI : Hid ((N.node b k v h l r).In w ∧ l.raw.size ≤ 4611686018427387 ∧ r.raw.size ≤ 4611686018427387) := ⟨hin, by omega, by omega⟩
    have c3 : w.cell? ⟨b, 3, none⟩ = some l.ptr := hin.1.cell 3
    have c4 : w.cell? ⟨b, 4, none⟩ = some r.ptr := hin.1.cell 4
    clear hin e0 hl hr
    show Calls Try.prog 86 #[.pointer (some ⟨b, 0, none⟩)] w _
    go_enter Try.func86, Try.ntmps86
    go_wp2_with fail
    go_quiet (first | (go_at_call_of 86 (N.ptr l); refine Calls.quiet_of (HH.out.1 _ ?_ HI.out.2.1); exact HI.out.1.2.1.drewN _) | (go_at_call_of 86 (N.ptr r); refine Calls.quiet_of (HH.out.2 _ ?_ HI.out.2.2); exact HI.out.1.2.2.drewN _))
    go_wp2
    go_ret
    exact ⟨rfl, _, rfl⟩

end Go.Proofs.Ytjlcebgfknfelaa.Avl
