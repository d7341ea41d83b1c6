/- AVL trees in memory: the walk through all, and the tree's own methods. For every tree. -/
import Derived.Test.YtjlcebgfknfelaaAvlF
namespace Go.Proofs.Ytjlcebgfknfelaa.Avl
open Go Go.RowKit Go.Proofs.Ytjlcebgfknfelaa.Hk Go.Proofs.Ytjlcebgfknfelaa.AvlPure Go.Proofs.Ytjlcebgfknfelaa.Less Go.Proofs.Ytjlcebgfknfelaa.Row Go.Proofs.YtjlcebgfknfelaaW.PrintWords Go.Proofs.YtjlcebgfknfelaaW.PrintLast Go.Proofs.YtjlcebgfknfelaaW.PrintMore

/-- The function value that gathers into X. -/
def cloV (X : Nat) : Value := .func (.func 65) #[] #[.pointer (some ⟨X, 0, none⟩)]

def keys (t : T) : List Int := t.list.map (·.1)
def vals (t : T) : List Int := t.list.map (·.2)
theorem keys_length (t : T) : ((keys t).length : Int) = t.size := by rw [T.size_list]; simp [keys]
theorem vals_length (t : T) : (vals t).length = (keys t).length := by simp [keys, vals]
theorem keys_node (k v h : Int) (l r : T) : keys (.node k v h l r) = keys l ++ k :: keys r := by simp [keys, T.list]
theorem vals_node (k v h : Int) (l r : T) : vals (.node k v h l r) = vals l ++ v :: vals r := by simp [vals, T.list]

set_option maxHeartbeats 4000000 in
set_option maxRecDepth 100000 in
theorem each_any (N0 X : Nat) (val : Int) (okv : Bool) : ∀ (t : N) (ks vs : List Int) (w : World), t.In w → (∀ b ∈ t.ids, b < N0 ∧ b ≠ X) → Acc N0 X val okv ks vs w → vs.length = ks.length →
    (ks.length : Int) + t.raw.size ≤ 1099511627776 →
    Calls Try.prog 87 #[t.ptr, cloV X] w fun e w' => e = .returned (.tuple #[]) ∧ Acc N0 X val okv (ks ++ keys t.raw) (vs ++ vals t.raw) w' ∧ Fr (fun b => b = X ∨ N0 ≤ b) w w'
  | .nil, ks, vs, w, _, _, hA, _, _ => by
    have HA : Hid (Acc N0 X val okv ks vs w) := hA
    clear hA
    show Calls Try.prog 87 #[.pointer none, .func (.func 65) #[] #[.pointer (some ⟨X, 0, none⟩)]] w _
    go_enter Try.func87, Try.ntmps87
    go_wp2_with fail
    (try simp only [Exit.inBlock, Exit.then]); refine bodyPost_ret (results_none rfl _ _ _) rfl ?_
    exact ⟨rfl, by show Acc N0 X val okv (ks ++ []) (vs ++ []) w; rw [List.append_nil, List.append_nil]; exact HA.out, Fr.refl _ _⟩
  | .node b k v h l r, ks, vs, w, hin, hid', hA, hlen, hsz => by
    have e0 : (N.node b k v h l r).raw.size = 1 + l.raw.size + r.raw.size := rfl
    have s1 := T.size_nonneg l.raw
    have s2 := T.size_nonneg r.raw
    rw [e0] at hsz
    have HA : Hid (Acc N0 X val okv ks vs w) := hA
    have HI : Hid ((N.node b k v h l r).In w) := hin
    have HD : Hid ((b < N0 ∧ b ≠ X) ∧ (∀ x ∈ l.ids, x < N0 ∧ x ≠ X) ∧ (∀ x ∈ r.ids, x < N0 ∧ x ≠ X)) :=
      ⟨hid' b (by simp [N.ids]), fun x hx => hid' x (by simp [N.ids, hx]), fun x hx => hid' x (by simp [N.ids, hx])⟩
    have kl := keys_length l.raw
    have HZ : Hid ((ks.length : Int) + l.raw.size ≤ 1099511627776 ∧ (ks ++ keys l.raw).length ≤ 1099511627776 ∧ (vs ++ vals l.raw).length ≤ 1099511627776 ∧
        (vs ++ vals l.raw ++ [v]).length = (ks ++ keys l.raw ++ [k]).length ∧ ((ks ++ keys l.raw ++ [k]).length : Int) + r.raw.size ≤ 1099511627776) := by
      have vl := vals_length l.raw
      simp only [List.length_append, List.length_singleton]
      refine ⟨by omega, by omega, by omega, by omega, by omega⟩
    have c3 : w.cell? ⟨b, 3, none⟩ = some l.ptr := hin.1.cell 3
    have HR : Hid (ks ++ keys (N.node b k v h l r).raw = ks ++ keys l.raw ++ [k] ++ keys r.raw ∧ vs ++ vals (N.node b k v h l r).raw = vs ++ vals l.raw ++ [v] ++ vals r.raw) := by
      constructor
      · show ks ++ keys (.node k v h l.raw r.raw) = _
        rw [keys_node]; simp
      · show vs ++ vals (.node k v h l.raw r.raw) = _
        rw [vals_node]; simp
    have HL : Hid (vs.length = ks.length) := hlen
    clear hin hid' hA hlen hsz e0 s1 s2 kl
    show Calls Try.prog 87 #[.pointer (some ⟨b, 0, none⟩), .func (.func 65) #[] #[.pointer (some ⟨X, 0, none⟩)]] w _
    go_enter Try.func87, Try.ntmps87
    go_wp2_with fail
    refine (each_any N0 X val okv l ks vs w HI.out.2.1 HD.out.2.1 HA.out HL.out HZ.out.1).mono ?_
    rintro e w1 ⟨rfl, hA1, hF1⟩
    have B1 := HI.out.1.fr hF1 (fun e => by have := HD.out.1; omega)
    have R1 := N.In.fr hF1 HI.out.2.2 (fun x hx e => by have := HD.out.2.2 x hx; omega)
    have c0 : w1.cell? ⟨b, 0, none⟩ = some (.int .i64 k) := B1.cell 0
    have c1 : w1.cell? ⟨b, 1, none⟩ = some (.int .i64 v) := B1.cell 1
    have H1 : Hid (Acc N0 X val okv (ks ++ keys l.raw) (vs ++ vals l.raw) w1 ∧ Fr (fun b => b = X ∨ N0 ≤ b) w w1 ∧ Blk w1 b #[.int .i64 k, .int .i64 v, .int .i64 h, l.ptr, r.ptr] 119 ∧ r.In w1) := ⟨hA1, hF1, B1, R1⟩
    clear hA1 hF1 B1 R1 c3
    go_wp2_with fail
    refine still_tail_drew 9 (by kernel_rfl) (by kernel_rfl) ?_
    simp only [List.take_succ_cons, List.take_zero, List.drop_succ_cons, List.drop_zero]
    repeat still_step
    refine wpStill_nil ?_
    go_wp2_with fail
    refine (avlDo1_any N0 X val okv (ks ++ keys l.raw) (vs ++ vals l.raw) k v w1.drew H1.out.1.drew HZ.out.2.1 HZ.out.2.2.1).mono ?_
    rintro e w2 ⟨rfl, hA2, hF2⟩
    have hF2' : Fr (fun b => b = X ∨ N0 ≤ b) w1 w2 := ⟨hF2.os, hF2.tape, hF2.output, hF2.size, hF2.block⟩
    have B2 := H1.out.2.2.1.fr hF2' (fun e => by have := HD.out.1; omega)
    have R2 := N.In.fr hF2' H1.out.2.2.2 (fun x hx e => by have := HD.out.2.2 x hx; omega)
    have c4 : w2.cell? ⟨b, 4, none⟩ = some r.ptr := B2.cell 4
    have H2 : Hid (Acc N0 X val okv (ks ++ keys l.raw ++ [k]) (vs ++ vals l.raw ++ [v]) w2 ∧ Fr (fun b => b = X ∨ N0 ≤ b) w w2 ∧ r.In w2) := ⟨hA2, H1.out.2.1.trans hF2' (fun _ _ e => e), R2⟩
    clear hA2 hF2 hF2' B2 R2 c0 c1
    go_wp2_with fail
    refine (each_any N0 X val okv r (ks ++ keys l.raw ++ [k]) (vs ++ vals l.raw ++ [v]) w2 H2.out.2.2 HD.out.2.2 H2.out.1 HZ.out.2.2.2.1 HZ.out.2.2.2.2).mono ?_
    rintro e w3 ⟨rfl, hA3, hF3⟩
    have H3 : Hid (Acc N0 X val okv (ks ++ keys l.raw ++ [k] ++ keys r.raw) (vs ++ vals l.raw ++ [v] ++ vals r.raw) w3 ∧ Fr (fun b => b = X ∨ N0 ≤ b) w w3) := ⟨hA3, H2.out.2.1.trans hF3 (fun _ _ e => e)⟩
    clear hA3 hF3
    go_wp2_with fail
    go_end0
    exact ⟨rfl, by rw [HR.out.1, HR.out.2]; exact H3.out.1, H3.out.2⟩

end Go.Proofs.Ytjlcebgfknfelaa.Avl
