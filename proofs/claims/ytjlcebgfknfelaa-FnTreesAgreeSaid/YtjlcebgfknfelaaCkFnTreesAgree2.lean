/- What the law's row stands on, part 2: contracts of functions, for the arguments and worlds that each one names. -/
import Derived.Test.YtjlcebgfknfelaaCkFnTreesAgree1
import Derived.Laws.StructEq
import Derived.Test.YtjlcebgfknfelaaProg
import Derived.Below
import Derived.Deep.Draws
import Derived.Deep.AppendLies
import Derived.Maps.AppendAt
import Derived.OwnWalk
import Derived.Laws.BytesArg
import Derived.Laws.MakeOwn
import Derived.Laws.OwnMore
import Derived.Deep.OwnRows
import Derived.Tactics
import Derived.Lib.ConvBytes
import Derived.Laws.Slices
import Derived.WalkKit
import Derived.KernelRfl
import Derived.RowKit3
import Derived.Deep.LoopGhost
import Derived.Deep.QuietTactic
import Derived.BigQuiet
import Derived.WideLaws
import Derived.Deep.DeepCutAuto
import Derived.Deep.CutBlock
import Derived.Deep.RegionHeld3
import Derived.Laws.Rows
import Derived.Lib.AppendStr
import Derived.ArgAppend
import Derived.Laws.IdiomCopy
import Derived.OrdersHeld
import Derived.Laws.BitsLemmas
import Derived.RowKit
import Derived.Laws.Cover1
namespace Go.Proofs.Ytjlcebgfknfelaa.Avl
open Go Go.RowKit Go.Proofs.Ytjlcebgfknfelaa.Hk Go.Proofs.Ytjlcebgfknfelaa.AvlPure Go.Proofs.Ytjlcebgfknfelaa.Less Go.Proofs.Ytjlcebgfknfelaa.Row Go.Proofs.YtjlcebgfknfelaaW.PrintWords Go.Proofs.YtjlcebgfknfelaaW.PrintLast Go.Proofs.YtjlcebgfknfelaaW.PrintMore
abbrev Act3 := Int × Int × Int
abbrev Told4 := Int × Bool × List Int × List Int
def actK : Kd Act3 := Kd.pair (Kd.int .i64) (Kd.pair (Kd.int .i64) (Kd.int .i64))
def toldK : Kd Told4 := Kd.pair (Kd.int .i64) (Kd.pair Kd.bool (Kd.pair (Kd.slice 3 (Kd.int .i64)) (Kd.slice 3 (Kd.int .i64))))
def stepT (tb : List Int) (t : T) (a : Act3) : T := if a.1 = 0 then T.ins (rankOf tb) a.2.1 a.2.2 t else if a.1 = 1 then T.rem (rankOf tb) t a.2.1 else t
def tellT (tb : List Int) (t : T) (a : Act3) : Told4 :=
  if a.1 = 2 then ((got tb t a.2.1).1, (got tb t a.2.1).2, [], []) else if a.1 = 3 then (t.size, false, [], []) else if a.1 = 4 then (0, false, keys t, vals t) else if a.1 = 5 then (t.ht, false, [], []) else (0, false, [], [])
def runT (tb : List Int) : T → List Act3 → T
  | t, [] => t
  | t, a :: l => runT tb (stepT tb t a) l
def toldT (tb : List Int) : T → List Act3 → List Told4
  | _, [] => []
  | t, a :: l => tellT tb t a :: toldT tb (stepT tb t a) l
theorem toldT_length (tb : List Int) : ∀ (l : List Act3) (t : T), (toldT tb t l).length = l.length
  | [], _ => rfl
  | a :: l, t => by simp [toldT, toldT_length tb l]
theorem at_act {w : World} {A : Option Addr} {n : Nat} {xs : List Act3} (h : Kd.C actK w A n xs) (i : Nat) (hi : i < xs.length) : ∃ ad, A = some ad ∧ w.cell? (ad.add (i * 3)) = some (.int .i64 xs[i].1) ∧
    w.cell? ⟨(ad.add (i * 3)).block, (ad.add (i * 3)).off + 1, none⟩ = some (.int .i64 xs[i].2.1) ∧ w.cell? ⟨(ad.add (i * 3)).block, (ad.add (i * 3)).off + 2, none⟩ = some (.int .i64 xs[i].2.2) := by
  have hn := h.1
  obtain ⟨ad, c, e, _, hK, hc0⟩ := Kd.C_get h ((0, 0, 0) : Act3) i (by omega) (by omega)
  have hx : xs.getD (i : Int).toNat (0, 0, 0) = xs[i] := by simp [List.getD_eq_getElem?_getD, hi]
  rw [hx] at hK
  have hc : ∀ j u, c[j]? = some u → w.cell? (ad.add (i * 3 + j)) = some u := hc0
  obtain ⟨c0, c1, rfl, h0, d0, d1, rfl, h1, h2⟩ := hK
  cases h0; cases h1; cases h2
  exact ⟨ad, e, hc 0 _ rfl, by rw [← add_field _ _ 1 (by omega)]; exact hc 1 _ rfl, by rw [← add_field _ _ 2 (by omega)]; exact hc 2 _ rfl⟩
theorem infoTold : (Try.prog.info? 46).map (fun i => (i.zero, i.size, i.bytes)) = some (some (.agg #[(.int .i64 0), (.bool false), (.slice none 0 0), (.slice none 0 0)]), 4, 64) := by kernel_rfl
/-- What holds between the steps of a script that began at w with the tree t0. -/
structure Inv (base R : Nat) (tb : List Int) (t0 : N) (w : World) (t : N) (out : Value) (rs : List Told4) (wr : World) : Prop where
  tree : Tree base R tb t wr
  ids : ∀ b ∈ t.ids, b ∈ t0.ids ∨ w.heap.size ≤ b
  row : Kd.S toldK 46 wr w.heap.size (fun b => b ≠ R ∧ b ∉ t.ids) out rs
  fr : Fr (fun b => b = R ∨ b ∈ t0.ids) w wr
section
variable {base R : Nat} {tb : List Int} {t0 t : N} {w wr W w' w1 : World} {out : Value} {rs : List Told4}
theorem Inv.below (h : Inv base R tb t0 w t out rs wr) (hb : Below wr.heap.size wr w') : Inv base R tb t0 w t out rs w' :=
  ⟨h.tree.below hb, h.ids, Kd.S_below h.row hb, h.fr.trans (S' := fun _ => False) ⟨hb.os, hb.tape, hb.output, hb.size, fun k hk _ => hb.block k hk⟩ (fun _ _ h => h.elim)⟩
theorem Inv.turned (h : Inv base R tb t0 w t out rs W) {raw' : T} (hT : Turned base R tb t raw' W w') : ∃ t', t'.raw = raw' ∧ Inv base R tb t0 w t' out rs w' := by
  obtain ⟨t', a1, a2, a3, a4⟩ := hT
  refine ⟨t', a2, a1, fun b hb => ?_, ?_, h.fr.trans a3 (fun n hn hk => ?_)⟩
  · rcases a4 b hb with h1 | h1
    · exact h.ids b h1
    · exact .inr (Nat.le_trans h.fr.size h1)
  · refine Kd.S_mono (Kd.S_step (Kd.S_bound h.row) (fun k hk hlt => a3.block k hlt (fun e => ?_))) (fun k hk => ⟨hk.1.1, fun hb => ?_⟩)
    · rcases e with e | e
      · exact hk.1.1 e
      · exact hk.1.2 e
    · rcases a4 k hb with h1 | h1
      · exact hk.1.2 h1
      · have := hk.2.2.1; omega
  · rcases hk with hk | hk
    · exact .inl hk
    · rcases h.ids n hk with h1 | h1
      · exact .inr h1
      · omega
/-- Behind the append of what a step tells. -/
theorem Inv.append (h : Inv base R tb t0 w t out rs W) (hb : base ≤ w.heap.size) {v1 : Value} {p : Told4} (hR : Kd.S toldK 46 w1 w.heap.size (fun b => b ≠ R ∧ b ∉ t.ids) v1 (rs ++ [p])) (hg : W.grownBy w1 out.ownBlock) :
    Inv base R tb t0 w t v1 (rs ++ [p]) w1 := by
  obtain ⟨_, inner, ho, _⟩ := Kd.S_R h.row
  have hlo : ∀ k, out.ownBlock = some k → w.heap.size ≤ k := fun k hk => (ho.lt k hk).1
  refine ⟨h.tree.kept ⟨hg.os, hg.tape, hg.output, hg.size, fun k hk => ?_⟩ (hg.block R h.tree.lt.1 (fun e => ((Kd.S_R h.row).1 R e.symm).1 rfl)) (fun b hx => hg.block b (h.tree.lt.2 b hx) (fun e => ((Kd.S_R h.row).1 b e.symm).2 hx)), h.ids, hR, grown_fr h.fr hg (fun k hk hlt => ?_)⟩
  · have hRs := h.tree.lt.1
    have hge := h.tree.ge
    exact hg.block k (by omega) (fun e => by have := hlo k e.symm; omega)
  · have := hlo k hk; omega
end
/-- What a step tells, made of cells: no rows. -/
theorem told_flat (W : World) (base : Nat) (v : Int) (b : Bool) : toldK.M W base (fun _ => False) (v, b, [], []) [.int .i64 v, .bool b, .slice none 0 0, .slice none 0 0] :=
  ⟨[_], [_, _, _], rfl, rfl, [_], [_, _], rfl, rfl, [_], [_], rfl, ⟨_, rfl, Kd.R_nil ..⟩, ⟨_, rfl, Kd.R_nil ..⟩⟩
theorem told_rows {W : World} {base N0 : Nat} {K V : Value} {ks vs : List Int} {ok : Nat → Prop} (hb : base ≤ N0) (hK : (Kd.int .i64).R 3 W N0 ok K ks) {ok' : Nat → Prop} (hV : (Kd.int .i64).R 3 W N0 ok' V vs) (v : Int) (b : Bool) :
    toldK.M W base (fun k => N0 ≤ k) (v, b, ks, vs) [.int .i64 v, .bool b, K, V] :=
  ⟨[_], [_, _, _], rfl, rfl, [_], [_, _], rfl, rfl, [_], [_], rfl, ⟨_, rfl, Kd.R_lower (Kd.R_reok rfl hK (fun k hk => (own_ge hK k hk).1)) hb⟩, ⟨_, rfl, Kd.R_lower (Kd.R_reok rfl hV (fun k hk => (own_ge hV k hk).1)) hb⟩⟩
set_option maxHeartbeats 8000000 in
set_option maxRecDepth 100000 in
theorem avlDo_any (base R : Nat) (tb : List Int) (t0 : N) (w : World) (A : Option Addr) (c : Nat) (l : List Act3) (hT : Tree base R tb t0 w) (hb : base ≤ w.heap.size) (hC : ∀ W, Below base w W → Kd.C actK W A l.length l)
    (hs : t0.raw.size + l.length ≤ 1099511627776) (hl : l.length ≤ 2147483647) :
    Calls Try.prog 45 #[.pointer (some ⟨R, 0, none⟩), .slice A l.length c] w fun e w' => ∃ t' v, e = .returned v ∧ t'.raw = runT tb t0.raw l ∧ Inv base R tb t0 w t' v (toldT tb t0.raw l) w' := by
  have HC : Hid (∀ W, Below base w W → Kd.C actK W A l.length l) := hC
  have HT : Hid (Tree base R tb t0 w) := hT
  have HB : Hid (base ≤ w.heap.size) := hb
  clear hC hT hb
  go_enter Try.func45, Try.ntmps45
  go_wp2_with fail
  go_loopg [5, 11] l.length (fun g v5 v11 wr => ∃ (i : Nat) (t : N) (rs : List Told4), v11 = .int .i64 i ∧ i ≤ l.length ∧ Hid (g + i = l.length) ∧ Hid (Inv base R tb t0 w t v5 rs wr ∧ rs.length = i ∧ rs ++ toldT tb t.raw (l.drop i) = toldT tb t0.raw l ∧ runT tb t.raw (l.drop i) = runT tb t0.raw l ∧ t.raw.size + ((l.length : Int) - i) ≤ 1099511627776))
  case atStart => exact ⟨0, t0, [], rfl, Nat.zero_le _, Nat.add_zero _, ⟨HT.out, fun b hb => .inl hb, Kd.S_nil .., Fr.refl _ _⟩, rfl, rfl, rfl, by simpa using hs⟩
  case round =>
    obtain ⟨i, t, rs, rfl, hi, HG, HI⟩ := hrel
    by_cases hlt : i < l.length
    · obtain ⟨ad, rfl, x0, x1, x2⟩ := at_act (HC.out wr (by
        have h := HI.out.1.fr
        have hg := HT.out.ge
        exact h.below HB.out (fun k hk => by
          rcases hk with rfl | hk
          · exact hg
          · exact HT.out.good.above k hk))) i hlt
      have HX : Hid (l.drop i = l[i] :: l.drop (i + 1)) := List.drop_eq_getElem_cons hlt
      generalize l[i] = x at x0 x1 x2 HX
      obtain ⟨d, k, v⟩ := x
      simp only at x0 x1 x2
      have HL := hid hlt
      have HW := hid (HI.out.1.below (((Below.refl _ _).alloc (Nat.le_refl _) (.cells #[.int .i64 d, .int .i64 k, .int .i64 v] 66)).alloc (by rw [alloc_size]; exact Nat.le_succ _) (.cells #[.int .i64 0, .bool false, .slice none 0 0, .slice none 0 0] 46)))
      have HLT := hid HI.out.1.tree.lt
      have HZ := hid HI.out.2
      obtain ⟨k1, rfl⟩ : ∃ k1, gk = k1 + 1 := ⟨gk - 1, by have := HG.out; omega⟩
      have hE := T.even_low HI.out.1.tree.good.even (by have := HZ.out.2.2.2; omega)
      have HEV : Hid (t.raw.tall ≤ 100) := hE
      have HXN : Hid (wr.heap.size + 1 ≠ R ∧ wr.heap.size + 1 ∉ t.ids) := ⟨by have := HLT.out.1; omega, fun h => by have := HLT.out.2 _ h; omega⟩
      clear hE hlt
      by_cases h0 : d = 0
      · subst h0
        go_wp2_with fail
        refine (tPut_any base R tb t k v _ HW.out.tree (by have := HEV.out; omega)).mono ?_
        rintro e w2 ⟨rfl, hT⟩
        obtain ⟨t', hraw, hI⟩ := HW.out.turned hT
        have hX : Blk w2 (wr.heap.size + 1) #[.int .i64 0, .bool false, .slice none 0 0, .slice none 0 0] 46 := by
          have h0_ := (Blk.new (wr.alloc (.cells #[.int .i64 0, .int .i64 k, .int .i64 v] 66)) #[.int .i64 0, .bool false, .slice none 0 0, .slice none 0 0] 46)
          rw [alloc_size] at h0_
          obtain ⟨_, _, _, a3, _⟩ := hT
          exact h0_.fr a3 (fun e => e.elim HXN.out.1 HXN.out.2)
        have e0 : w2.cell? ⟨wr.heap.size + 1, 0, none⟩ = some ((.int .i64 0)) := hX.cell 0
        have e1 : w2.cell? ⟨wr.heap.size + 1, 1, none⟩ = some ((.bool false)) := hX.cell 1
        have e2 : w2.cell? ⟨wr.heap.size + 1, 2, none⟩ = some ((.slice none 0 0)) := hX.cell 2
        have e3 : w2.cell? ⟨wr.heap.size + 1, 3, none⟩ = some ((.slice none 0 0)) := hX.cell 3
        have H2 := hid hI
        have HR := hid hraw
        clear hT hI hraw hX x0 x1 x2
        go_wp2_with (first | (at_builtin; refine Kd.S_append toldK (w0 := w2) (W := w2) w.heap.size rfl (.tmp 57) (.tmp 59) 43 46 (.agg #[(.int .i64 0), (.bool false), (.slice none 0 0), (.slice none 0 0)]) 64 rfl Try.underlying43 infoTold rfl (by decide) (by omega) u5 rs (0, false, [], []) [(.int .i64 0), (.bool false), (.slice none 0 0), (.slice none 0 0)] (fun b => b ≠ R ∧ b ∉ t'.ids) (fun _ => False) rfl rfl (told_flat _ _ _ _) (fun _ hk => hk.elim) ?aF ?aO ?aB ?aS ?aL ?_; (case aF => exact fun k_ hk => by have h1 := H2.out.tree.lt; exact ⟨by omega, fun hb_ => by have := h1.2 _ hb_; omega⟩); (case aO => exact (Kd.S_mono H2.out.row (fun k_ hk => ⟨hk, fun h => h⟩))); (case aB => exact (Below.refl _ _)); (case aS => exact H2.out.fr.size); (case aL => have h1 := HZ.out.1; have h2 := HL.out; omega); intro v1 w3 ho hb hg hat))
        have HE := hid (H2.out.append HB.out ho hg)
        clear ho hb hg hat
        clear e0 e1 e2 e3
        go_wp2_with fail
        go_roundg k1
        case measure => omega
        case rel => exact ⟨i + 1, t', rs ++ [(0, false, [], [])], rfl, HL.out, by have := HG.out; show k1 + (i + 1) = _; omega, HE.out, by rw [List.length_append, HZ.out.1]; rfl, by rw [← HZ.out.2.1, HX.out, List.append_assoc]; rw [HR.out]; rfl, by rw [← HZ.out.2.2.1, HX.out]; rw [HR.out]; rfl, by rw [HR.out]; have h1 := T.size_ins (rankOf tb) k v t.raw; have := HZ.out.2.2.2; omega⟩
      · by_cases h1 : d = 1
        · subst h1
          go_wp2_with fail
          refine (tRemove_any base R tb t k _ HW.out.tree (by have := HEV.out; omega)).mono ?_
          rintro e w2 ⟨rfl, hT⟩
          obtain ⟨t', hraw, hI⟩ := HW.out.turned hT
          have hX : Blk w2 (wr.heap.size + 1) #[.int .i64 0, .bool false, .slice none 0 0, .slice none 0 0] 46 := by
            have h0_ := (Blk.new (wr.alloc (.cells #[.int .i64 1, .int .i64 k, .int .i64 v] 66)) #[.int .i64 0, .bool false, .slice none 0 0, .slice none 0 0] 46)
            rw [alloc_size] at h0_
            obtain ⟨_, _, _, a3, _⟩ := hT
            exact h0_.fr a3 (fun e => e.elim HXN.out.1 HXN.out.2)
          have e0 : w2.cell? ⟨wr.heap.size + 1, 0, none⟩ = some ((.int .i64 0)) := hX.cell 0
          have e1 : w2.cell? ⟨wr.heap.size + 1, 1, none⟩ = some ((.bool false)) := hX.cell 1
          have e2 : w2.cell? ⟨wr.heap.size + 1, 2, none⟩ = some ((.slice none 0 0)) := hX.cell 2
          have e3 : w2.cell? ⟨wr.heap.size + 1, 3, none⟩ = some ((.slice none 0 0)) := hX.cell 3
          have H2 := hid hI
          have HR := hid hraw
          clear hT hI hraw hX x0 x1 x2
          go_wp2_with (first | (at_builtin; refine Kd.S_append toldK (w0 := w2) (W := w2) w.heap.size rfl (.tmp 57) (.tmp 59) 43 46 (.agg #[(.int .i64 0), (.bool false), (.slice none 0 0), (.slice none 0 0)]) 64 rfl Try.underlying43 infoTold rfl (by decide) (by omega) u5 rs (0, false, [], []) [(.int .i64 0), (.bool false), (.slice none 0 0), (.slice none 0 0)] (fun b => b ≠ R ∧ b ∉ t'.ids) (fun _ => False) rfl rfl (told_flat _ _ _ _) (fun _ hk => hk.elim) ?aF ?aO ?aB ?aS ?aL ?_; (case aF => exact fun k_ hk => by have h1 := H2.out.tree.lt; exact ⟨by omega, fun hb_ => by have := h1.2 _ hb_; omega⟩); (case aO => exact (Kd.S_mono H2.out.row (fun k_ hk => ⟨hk, fun h => h⟩))); (case aB => exact (Below.refl _ _)); (case aS => exact H2.out.fr.size); (case aL => have h1 := HZ.out.1; have h2 := HL.out; omega); intro v1 w3 ho hb hg hat))
          have HE := hid (H2.out.append HB.out ho hg)
          clear ho hb hg hat
          clear e0 e1 e2 e3
          go_wp2_with fail
          go_roundg k1
          case measure => omega
          case rel => exact ⟨i + 1, t', rs ++ [(0, false, [], [])], rfl, HL.out, by have := HG.out; show k1 + (i + 1) = _; omega, HE.out, by rw [List.length_append, HZ.out.1]; rfl, by rw [← HZ.out.2.1, HX.out, List.append_assoc]; rw [HR.out]; rfl, by rw [← HZ.out.2.2.1, HX.out]; rw [HR.out]; rfl, by rw [HR.out]; have h1 := T.size_rem (rankOf tb) t.raw k; have := HZ.out.2.2.2; omega⟩
        · by_cases h2 : d = 2
          · subst h2
            go_wp2_with fail
            refine (tGet_any base R tb t k _ HW.out.tree).mono ?_
            rintro e w2 ⟨rfl, m, rfl⟩
            have hB2 : Below wr.heap.size wr (((wr.alloc (.cells #[.int .i64 2, .int .i64 k, .int .i64 v] 66)).alloc (.cells #[.int .i64 0, .bool false, .slice none 0 0, .slice none 0 0] 46)).drewN m) := (pw_below_drewN (((Below.refl _ _).alloc (Nat.le_refl _) _).alloc (by rw [alloc_size]; exact Nat.le_succ _) _) m)
            have hX0 : Blk (((wr.alloc (.cells #[.int .i64 2, .int .i64 k, .int .i64 v] 66)).alloc (.cells #[.int .i64 0, .bool false, .slice none 0 0, .slice none 0 0] 46)).drewN m) (wr.heap.size + 1) #[(.int .i64 0), (.bool false), (.slice none 0 0), (.slice none 0 0)] 46 := by
              have h0_ := (Blk.new (wr.alloc (.cells #[.int .i64 2, .int .i64 k, .int .i64 v] 66)) #[.int .i64 0, .bool false, .slice none 0 0, .slice none 0 0] 46)
              rw [alloc_size] at h0_
              exact h0_
            generalize ((wr.alloc (.cells #[.int .i64 2, .int .i64 k, .int .i64 v] 66)).alloc (.cells #[.int .i64 0, .bool false, .slice none 0 0, .slice none 0 0] 46)).drewN m = W2 at hB2 hX0 ⊢
            have g0 : W2.cell? ⟨wr.heap.size + 1, 0, none⟩ = some (.int .i64 0) := hX0.cell 0
            have f0 : W2.frozen? ⟨wr.heap.size + 1, 0, none⟩ = false := hX0.free 0
            have g1 : W2.cell? ⟨wr.heap.size + 1, 1, none⟩ = some (.bool false) := hX0.cell 1
            have f1 : W2.frozen? ⟨wr.heap.size + 1, 1, none⟩ = false := hX0.free 1
            have HQ : Hid (Blk W2 (wr.heap.size + 1) #[(.int .i64 0), (.bool false), (.slice none 0 0), (.slice none 0 0)] 46 ∧ Below wr.heap.size wr W2) := ⟨hX0, hB2⟩
            clear hX0 hB2 x0 x1 x2
            go_upto_region 19 with fail
            obtain ⟨hX0, hB2⟩ := HQ.out
            have H2 : Hid (Inv base R tb t0 w t u5 rs ((W2.setCell ⟨wr.heap.size + 1, 0, none⟩ (.int .i64 (got tb t.raw k).1)).setCell ⟨wr.heap.size + 1, 1, none⟩ (.bool (got tb t.raw k).2))) := HI.out.1.below ((hB2.setCell (p := ⟨wr.heap.size + 1, 0, none⟩) (Nat.le_succ _) (.int .i64 (got tb t.raw k).1)).setCell (p := ⟨wr.heap.size + 1, 1, none⟩) (Nat.le_succ _) (.bool (got tb t.raw k).2))
            have hX : Blk ((W2.setCell ⟨wr.heap.size + 1, 0, none⟩ (.int .i64 (got tb t.raw k).1)).setCell ⟨wr.heap.size + 1, 1, none⟩ (.bool (got tb t.raw k).2)) (wr.heap.size + 1) #[(.int .i64 (got tb t.raw k).1), (.bool (got tb t.raw k).2), (.slice none 0 0), (.slice none 0 0)] 46 := ((hX0.set 0 (.int .i64 (got tb t.raw k).1)).set 1 (.bool (got tb t.raw k).2))
            have e0 : ((W2.setCell ⟨wr.heap.size + 1, 0, none⟩ (.int .i64 (got tb t.raw k).1)).setCell ⟨wr.heap.size + 1, 1, none⟩ (.bool (got tb t.raw k).2)).cell? ⟨wr.heap.size + 1, 0, none⟩ = some ((.int .i64 (got tb t.raw k).1)) := hX.cell 0
            have e1 : ((W2.setCell ⟨wr.heap.size + 1, 0, none⟩ (.int .i64 (got tb t.raw k).1)).setCell ⟨wr.heap.size + 1, 1, none⟩ (.bool (got tb t.raw k).2)).cell? ⟨wr.heap.size + 1, 1, none⟩ = some ((.bool (got tb t.raw k).2)) := hX.cell 1
            have e2 : ((W2.setCell ⟨wr.heap.size + 1, 0, none⟩ (.int .i64 (got tb t.raw k).1)).setCell ⟨wr.heap.size + 1, 1, none⟩ (.bool (got tb t.raw k).2)).cell? ⟨wr.heap.size + 1, 2, none⟩ = some ((.slice none 0 0)) := hX.cell 2
            have e3 : ((W2.setCell ⟨wr.heap.size + 1, 0, none⟩ (.int .i64 (got tb t.raw k).1)).setCell ⟨wr.heap.size + 1, 1, none⟩ (.bool (got tb t.raw k).2)).cell? ⟨wr.heap.size + 1, 3, none⟩ = some ((.slice none 0 0)) := hX.cell 3
            clear hX hX0 hB2 HQ f0 g0 f1 g1
            generalize ((W2.setCell ⟨wr.heap.size + 1, 0, none⟩ (.int .i64 (got tb t.raw k).1)).setCell ⟨wr.heap.size + 1, 1, none⟩ (.bool (got tb t.raw k).2)) = w2 at H2 e0 e1 e2 e3 ⊢
            have HS : Hid (stepT tb t.raw (2, k, v) = t.raw ∧ tellT tb t.raw (2, k, v) = ((got tb t.raw k).1, (got tb t.raw k).2, [], [])) := ⟨rfl, rfl⟩
            go_wp2_with (first | (at_builtin; refine Kd.S_append toldK (w0 := w2) (W := w2) w.heap.size rfl (.tmp 57) (.tmp 59) 43 46 (.agg #[(.int .i64 0), (.bool false), (.slice none 0 0), (.slice none 0 0)]) 64 rfl Try.underlying43 infoTold rfl (by decide) (by omega) u5 rs ((got tb t.raw k).1, (got tb t.raw k).2, [], []) [(.int .i64 (got tb t.raw k).1), (.bool (got tb t.raw k).2), (.slice none 0 0), (.slice none 0 0)] (fun b => b ≠ R ∧ b ∉ t.ids) (fun _ => False) rfl rfl (told_flat _ _ _ _) (fun _ hk => hk.elim) ?aF ?aO ?aB ?aS ?aL ?_; (case aF => exact fun k_ hk => by have h1 := H2.out.tree.lt; exact ⟨by omega, fun hb_ => by have := h1.2 _ hb_; omega⟩); (case aO => exact (Kd.S_mono H2.out.row (fun k_ hk => ⟨hk, fun h => h⟩))); (case aB => exact (Below.refl _ _)); (case aS => exact H2.out.fr.size); (case aL => have h1 := HZ.out.1; have h2 := HL.out; omega); intro v1 w3 ho hb hg hat))
            have HE := hid (H2.out.append HB.out ho hg)
            clear ho hb hg hat
            clear e0 e1 e2 e3
            go_wp2_with fail
            go_roundg k1
            case measure => omega
            case rel => exact ⟨i + 1, t, rs ++ [((got tb t.raw k).1, (got tb t.raw k).2, [], [])], rfl, HL.out, by have := HG.out; show k1 + (i + 1) = _; omega, HE.out, by rw [List.length_append, HZ.out.1]; rfl, by rw [← HZ.out.2.1, HX.out, List.append_assoc]; rw [← HS.out.2]; show _ = rs ++ (_ :: toldT tb (stepT tb t.raw _) _); rw [HS.out.1]; rfl, by rw [← HZ.out.2.2.1, HX.out]; show _ = runT tb (stepT tb t.raw _) _; rw [HS.out.1], by have := HZ.out.2.2.2; omega⟩
          · by_cases h3 : d = 3
            · subst h3
              go_wp2_with fail
              refine (tSize_any base R tb t _ HW.out.tree (by have := HZ.out.2.2.2; have := HL.out; omega)).mono ?_
              rintro e w2 ⟨rfl, m, rfl⟩
              have hB2 : Below wr.heap.size wr (((wr.alloc (.cells #[.int .i64 3, .int .i64 k, .int .i64 v] 66)).alloc (.cells #[.int .i64 0, .bool false, .slice none 0 0, .slice none 0 0] 46)).drewN m) := (pw_below_drewN (((Below.refl _ _).alloc (Nat.le_refl _) _).alloc (by rw [alloc_size]; exact Nat.le_succ _) _) m)
              have hX0 : Blk (((wr.alloc (.cells #[.int .i64 3, .int .i64 k, .int .i64 v] 66)).alloc (.cells #[.int .i64 0, .bool false, .slice none 0 0, .slice none 0 0] 46)).drewN m) (wr.heap.size + 1) #[(.int .i64 0), (.bool false), (.slice none 0 0), (.slice none 0 0)] 46 := by
                have h0_ := (Blk.new (wr.alloc (.cells #[.int .i64 3, .int .i64 k, .int .i64 v] 66)) #[.int .i64 0, .bool false, .slice none 0 0, .slice none 0 0] 46)
                rw [alloc_size] at h0_
                exact h0_
              generalize ((wr.alloc (.cells #[.int .i64 3, .int .i64 k, .int .i64 v] 66)).alloc (.cells #[.int .i64 0, .bool false, .slice none 0 0, .slice none 0 0] 46)).drewN m = W2 at hB2 hX0 ⊢
              have g0 : W2.cell? ⟨wr.heap.size + 1, 0, none⟩ = some (.int .i64 0) := hX0.cell 0
              have f0 : W2.frozen? ⟨wr.heap.size + 1, 0, none⟩ = false := hX0.free 0
              have HQ : Hid (Blk W2 (wr.heap.size + 1) #[(.int .i64 0), (.bool false), (.slice none 0 0), (.slice none 0 0)] 46 ∧ Below wr.heap.size wr W2) := ⟨hX0, hB2⟩
              clear hX0 hB2 x0 x1 x2
              go_upto_region 19 with fail
              obtain ⟨hX0, hB2⟩ := HQ.out
              have H2 : Hid (Inv base R tb t0 w t u5 rs (W2.setCell ⟨wr.heap.size + 1, 0, none⟩ (.int .i64 t.raw.size))) := HI.out.1.below (hB2.setCell (p := ⟨wr.heap.size + 1, 0, none⟩) (Nat.le_succ _) (.int .i64 t.raw.size))
              have hX : Blk (W2.setCell ⟨wr.heap.size + 1, 0, none⟩ (.int .i64 t.raw.size)) (wr.heap.size + 1) #[(.int .i64 t.raw.size), (.bool false), (.slice none 0 0), (.slice none 0 0)] 46 := (hX0.set 0 (.int .i64 t.raw.size))
              have e0 : (W2.setCell ⟨wr.heap.size + 1, 0, none⟩ (.int .i64 t.raw.size)).cell? ⟨wr.heap.size + 1, 0, none⟩ = some ((.int .i64 t.raw.size)) := hX.cell 0
              have e1 : (W2.setCell ⟨wr.heap.size + 1, 0, none⟩ (.int .i64 t.raw.size)).cell? ⟨wr.heap.size + 1, 1, none⟩ = some ((.bool false)) := hX.cell 1
              have e2 : (W2.setCell ⟨wr.heap.size + 1, 0, none⟩ (.int .i64 t.raw.size)).cell? ⟨wr.heap.size + 1, 2, none⟩ = some ((.slice none 0 0)) := hX.cell 2
              have e3 : (W2.setCell ⟨wr.heap.size + 1, 0, none⟩ (.int .i64 t.raw.size)).cell? ⟨wr.heap.size + 1, 3, none⟩ = some ((.slice none 0 0)) := hX.cell 3
              clear hX hX0 hB2 HQ f0 g0
              generalize (W2.setCell ⟨wr.heap.size + 1, 0, none⟩ (.int .i64 t.raw.size)) = w2 at H2 e0 e1 e2 e3 ⊢
              have HS : Hid (stepT tb t.raw (3, k, v) = t.raw ∧ tellT tb t.raw (3, k, v) = (t.raw.size, false, [], [])) := ⟨rfl, rfl⟩
              go_wp2_with (first | (at_builtin; refine Kd.S_append toldK (w0 := w2) (W := w2) w.heap.size rfl (.tmp 57) (.tmp 59) 43 46 (.agg #[(.int .i64 0), (.bool false), (.slice none 0 0), (.slice none 0 0)]) 64 rfl Try.underlying43 infoTold rfl (by decide) (by omega) u5 rs (t.raw.size, false, [], []) [(.int .i64 t.raw.size), (.bool false), (.slice none 0 0), (.slice none 0 0)] (fun b => b ≠ R ∧ b ∉ t.ids) (fun _ => False) rfl rfl (told_flat _ _ _ _) (fun _ hk => hk.elim) ?aF ?aO ?aB ?aS ?aL ?_; (case aF => exact fun k_ hk => by have h1 := H2.out.tree.lt; exact ⟨by omega, fun hb_ => by have := h1.2 _ hb_; omega⟩); (case aO => exact (Kd.S_mono H2.out.row (fun k_ hk => ⟨hk, fun h => h⟩))); (case aB => exact (Below.refl _ _)); (case aS => exact H2.out.fr.size); (case aL => have h1 := HZ.out.1; have h2 := HL.out; omega); intro v1 w3 ho hb hg hat))
              have HE := hid (H2.out.append HB.out ho hg)
              clear ho hb hg hat
              clear e0 e1 e2 e3
              go_wp2_with fail
              go_roundg k1
              case measure => omega
              case rel => exact ⟨i + 1, t, rs ++ [(t.raw.size, false, [], [])], rfl, HL.out, by have := HG.out; show k1 + (i + 1) = _; omega, HE.out, by rw [List.length_append, HZ.out.1]; rfl, by rw [← HZ.out.2.1, HX.out, List.append_assoc]; rw [← HS.out.2]; show _ = rs ++ (_ :: toldT tb (stepT tb t.raw _) _); rw [HS.out.1]; rfl, by rw [← HZ.out.2.2.1, HX.out]; show _ = runT tb (stepT tb t.raw _) _; rw [HS.out.1], by have := HZ.out.2.2.2; omega⟩
            · by_cases h4 : d = 4
              · subst h4
                have HA : Hid (Acc (wr.heap.size + 2) (wr.heap.size + 1) 0 false [] [] ((wr.alloc (.cells #[.int .i64 4, .int .i64 k, .int .i64 v] 66)).alloc (.cells #[.int .i64 0, .bool false, .slice none 0 0, .slice none 0 0] 46))) := by
                  have h0_ := (Blk.new (wr.alloc (.cells #[.int .i64 4, .int .i64 k, .int .i64 v] 66)) #[.int .i64 0, .bool false, .slice none 0 0, .slice none 0 0] 46)
                  rw [alloc_size] at h0_
                  exact ⟨_, _, h0_, Nat.lt_succ_self _, by rw [alloc_size, alloc_size]; exact Nat.le_refl _, Kd.R_nil .., Kd.R_nil ..⟩
                go_wp2_with fail
                refine (tEach_any base R tb t (wr.heap.size + 2) (wr.heap.size + 1) 0 false _ HW.out.tree (fun b hb => by have := HLT.out.2 b hb; omega) HA.out (by have := HZ.out.2.2.2; have := HL.out; omega)).mono ?_
                rintro e w2 ⟨rfl, hA, hF⟩
                obtain ⟨K, V, hX, _, hN2, hK, hV⟩ := hA
                obtain ⟨AK, cK, hq⟩ := Kd.R_slice hK
                subst hq
                obtain ⟨AV, cV, hq⟩ := Kd.R_slice hV
                subst hq
                have HO : Hid (∀ k_, u5.ownBlock = some k_ → k_ < wr.heap.size) := fun k_ hk => (Kd.S_lt HI.out.1.row k_ hk)
                have hB2 : Below wr.heap.size wr w2 := (((Below.refl _ _).alloc (Nat.le_refl _) _).alloc (by rw [alloc_size]; exact Nat.le_succ _) _).trans ⟨hF.os, hF.tape, hF.output, hF.size, fun k_ hk => hF.block k_ (by rw [alloc_size, alloc_size]; omega) (fun e_ => by rcases e_ with e_ | e_ <;> omega)⟩
                have H2 := hid (HI.out.1.below hB2)
                have HS2 : Hid (Kd.S toldK 46 w2 w.heap.size (fun k_ => (k_ ≠ R ∧ k_ ∉ t.ids) ∧ ¬ wr.heap.size + 2 ≤ k_) u5 rs) := Kd.S_below (Kd.S_mono (Kd.S_bound HI.out.1.row) (fun k_ hk => ⟨hk.1, by have := hk.2.2.1; omega⟩)) hB2
                have HS : Hid (stepT tb t.raw (4, k, v) = t.raw ∧ tellT tb t.raw (4, k, v) = (0, false, keys t.raw, vals t.raw)) := ⟨rfl, rfl⟩
                have HM := hid (told_rows (base := w.heap.size) (by have := H2.out.fr.size; have := HI.out.1.fr.size; omega) hK hV 0 false)
                have e0 : w2.cell? ⟨wr.heap.size + 1, 0, none⟩ = some (.int .i64 0) := hX.cell 0
                have e1 : w2.cell? ⟨wr.heap.size + 1, 1, none⟩ = some (.bool false) := hX.cell 1
                have e2 : w2.cell? ⟨wr.heap.size + 1, 2, none⟩ = some (.slice AK (keys t.raw).length cK) := hX.cell 2
                have e3 : w2.cell? ⟨wr.heap.size + 1, 3, none⟩ = some (.slice AV (vals t.raw).length cV) := hX.cell 3
                clear hX hN2 hK hV hF hB2 x0 x1 x2
                go_wp2_with (first | (at_builtin; refine Kd.S_append toldK (w0 := w2) (W := w2) w.heap.size rfl (.tmp 57) (.tmp 59) 43 46 (.agg #[(.int .i64 0), (.bool false), (.slice none 0 0), (.slice none 0 0)]) 64 rfl Try.underlying43 infoTold rfl (by decide) (by omega) u5 rs (0, false, keys t.raw, vals t.raw) [.int .i64 0, .bool false, .slice AK (keys t.raw).length cK, .slice AV (vals t.raw).length cV] (fun b => b ≠ R ∧ b ∉ t.ids) (fun k_ => wr.heap.size + 2 ≤ k_) rfl rfl HM.out (fun k_ hk => ⟨⟨by have := HLT.out.1; omega, fun hb_ => by have := HLT.out.2 _ hb_; omega⟩, fun e_ => by have := HO.out k_ e_.symm; omega⟩) ?aF ?aO ?aB ?aS ?aL ?_; (case aF => exact fun k_ hk => by have h1 := H2.out.tree.lt; exact ⟨by omega, fun hb_ => by have := h1.2 _ hb_; omega⟩); (case aO => exact HS2.out); (case aB => exact (Below.refl _ _)); (case aS => exact H2.out.fr.size); (case aL => have h1 := HZ.out.1; have h2 := HL.out; omega); intro v1 w3 ho hb hg hat))
                have HE := hid (H2.out.append HB.out ho hg)
                clear ho hb hg hat
                clear e0 e1 e2 e3
                go_wp2_with fail
                go_roundg k1
                case measure => omega
                case rel => exact ⟨i + 1, t, rs ++ [(0, false, keys t.raw, vals t.raw)], rfl, HL.out, by have := HG.out; show k1 + (i + 1) = _; omega, HE.out, by rw [List.length_append, HZ.out.1]; rfl, by rw [← HZ.out.2.1, HX.out, List.append_assoc]; rw [← HS.out.2]; show _ = rs ++ (_ :: toldT tb (stepT tb t.raw _) _); rw [HS.out.1]; rfl, by rw [← HZ.out.2.2.1, HX.out]; show _ = runT tb (stepT tb t.raw _) _; rw [HS.out.1], by have := HZ.out.2.2.2; omega⟩
              · by_cases h5 : d = 5
                · subst h5
                  go_wp2_with fail
                  refine (tHeight_any base R tb t _ HW.out.tree).mono ?_
                  rintro e w2 ⟨rfl, rfl⟩
                  have H2 : Hid (Inv base R tb t0 w t u5 rs (((wr.alloc (.cells #[.int .i64 5, .int .i64 k, .int .i64 v] 66)).alloc (.cells #[.int .i64 t.raw.ht, .bool false, .slice none 0 0, .slice none 0 0] 46)))) := HI.out.1.below (((Below.refl _ _).alloc (Nat.le_refl _) _).alloc (by rw [alloc_size]; exact Nat.le_succ _) _)
                  have HS : Hid (stepT tb t.raw (5, k, v) = t.raw ∧ tellT tb t.raw (5, k, v) = (t.raw.ht, false, [], [])) := ⟨rfl, rfl⟩
                  have hX : Blk (((wr.alloc (.cells #[.int .i64 5, .int .i64 k, .int .i64 v] 66)).alloc (.cells #[.int .i64 t.raw.ht, .bool false, .slice none 0 0, .slice none 0 0] 46))) (wr.heap.size + 1) #[(.int .i64 t.raw.ht), (.bool false), (.slice none 0 0), (.slice none 0 0)] 46 := by
                    have h0_ := Blk.new (wr.alloc (.cells #[.int .i64 5, .int .i64 k, .int .i64 v] 66)) #[(.int .i64 t.raw.ht), (.bool false), (.slice none 0 0), (.slice none 0 0)] 46
                    rw [alloc_size] at h0_
                    exact h0_
                  have e0 : (((wr.alloc (.cells #[.int .i64 5, .int .i64 k, .int .i64 v] 66)).alloc (.cells #[.int .i64 t.raw.ht, .bool false, .slice none 0 0, .slice none 0 0] 46))).cell? ⟨wr.heap.size + 1, 0, none⟩ = some ((.int .i64 t.raw.ht)) := hX.cell 0
                  have e1 : (((wr.alloc (.cells #[.int .i64 5, .int .i64 k, .int .i64 v] 66)).alloc (.cells #[.int .i64 t.raw.ht, .bool false, .slice none 0 0, .slice none 0 0] 46))).cell? ⟨wr.heap.size + 1, 1, none⟩ = some ((.bool false)) := hX.cell 1
                  have e2 : (((wr.alloc (.cells #[.int .i64 5, .int .i64 k, .int .i64 v] 66)).alloc (.cells #[.int .i64 t.raw.ht, .bool false, .slice none 0 0, .slice none 0 0] 46))).cell? ⟨wr.heap.size + 1, 2, none⟩ = some ((.slice none 0 0)) := hX.cell 2
                  have e3 : (((wr.alloc (.cells #[.int .i64 5, .int .i64 k, .int .i64 v] 66)).alloc (.cells #[.int .i64 t.raw.ht, .bool false, .slice none 0 0, .slice none 0 0] 46))).cell? ⟨wr.heap.size + 1, 3, none⟩ = some ((.slice none 0 0)) := hX.cell 3
                  clear hX
                  go_upto_region 19 with fail
                  generalize ((wr.alloc (.cells #[.int .i64 5, .int .i64 k, .int .i64 v] 66)).alloc (.cells #[.int .i64 t.raw.ht, .bool false, .slice none 0 0, .slice none 0 0] 46)) = w2 at H2 e0 e1 e2 e3 ⊢
                  clear x0 x1 x2
                  go_wp2_with (first | (at_builtin; refine Kd.S_append toldK (w0 := w2) (W := w2) w.heap.size rfl (.tmp 57) (.tmp 59) 43 46 (.agg #[(.int .i64 0), (.bool false), (.slice none 0 0), (.slice none 0 0)]) 64 rfl Try.underlying43 infoTold rfl (by decide) (by omega) u5 rs (t.raw.ht, false, [], []) [(.int .i64 t.raw.ht), (.bool false), (.slice none 0 0), (.slice none 0 0)] (fun b => b ≠ R ∧ b ∉ t.ids) (fun _ => False) rfl rfl (told_flat _ _ _ _) (fun _ hk => hk.elim) ?aF ?aO ?aB ?aS ?aL ?_; (case aF => exact fun k_ hk => by have h1 := H2.out.tree.lt; exact ⟨by omega, fun hb_ => by have := h1.2 _ hb_; omega⟩); (case aO => exact (Kd.S_mono H2.out.row (fun k_ hk => ⟨hk, fun h => h⟩))); (case aB => exact (Below.refl _ _)); (case aS => exact H2.out.fr.size); (case aL => have h1 := HZ.out.1; have h2 := HL.out; omega); intro v1 w3 ho hb hg hat))
                  have HE := hid (H2.out.append HB.out ho hg)
                  clear ho hb hg hat
                  go_wp2_with fail
                  go_roundg k1
                  case measure => omega
                  case rel => exact ⟨i + 1, t, rs ++ [(t.raw.ht, false, [], [])], rfl, HL.out, by have := HG.out; show k1 + (i + 1) = _; omega, HE.out, by rw [List.length_append, HZ.out.1]; rfl, by rw [← HZ.out.2.1, HX.out, List.append_assoc]; rw [← HS.out.2]; show _ = rs ++ (_ :: toldT tb (stepT tb t.raw _) _); rw [HS.out.1]; rfl, by rw [← HZ.out.2.2.1, HX.out]; show _ = runT tb (stepT tb t.raw _) _; rw [HS.out.1], by have := HZ.out.2.2.2; omega⟩
                · have H2 : Hid (Inv base R tb t0 w t u5 rs (((wr.alloc (.cells #[.int .i64 d, .int .i64 k, .int .i64 v] 66)).alloc (.cells #[.int .i64 0, .bool false, .slice none 0 0, .slice none 0 0] 46)))) := HI.out.1.below (((Below.refl _ _).alloc (Nat.le_refl _) _).alloc (by rw [alloc_size]; exact Nat.le_succ _) _)
                  have HS : Hid (stepT tb t.raw (d, k, v) = t.raw ∧ tellT tb t.raw (d, k, v) = (0, false, [], [])) := ⟨(if_neg h0).trans (if_neg h1), (if_neg h2).trans ((if_neg h3).trans ((if_neg h4).trans (if_neg h5)))⟩
                  have hX : Blk (((wr.alloc (.cells #[.int .i64 d, .int .i64 k, .int .i64 v] 66)).alloc (.cells #[.int .i64 0, .bool false, .slice none 0 0, .slice none 0 0] 46))) (wr.heap.size + 1) #[(.int .i64 0), (.bool false), (.slice none 0 0), (.slice none 0 0)] 46 := by
                    have h0_ := Blk.new (wr.alloc (.cells #[.int .i64 d, .int .i64 k, .int .i64 v] 66)) #[(.int .i64 0), (.bool false), (.slice none 0 0), (.slice none 0 0)] 46
                    rw [alloc_size] at h0_
                    exact h0_
                  have e0 : (((wr.alloc (.cells #[.int .i64 d, .int .i64 k, .int .i64 v] 66)).alloc (.cells #[.int .i64 0, .bool false, .slice none 0 0, .slice none 0 0] 46))).cell? ⟨wr.heap.size + 1, 0, none⟩ = some ((.int .i64 0)) := hX.cell 0
                  have e1 : (((wr.alloc (.cells #[.int .i64 d, .int .i64 k, .int .i64 v] 66)).alloc (.cells #[.int .i64 0, .bool false, .slice none 0 0, .slice none 0 0] 46))).cell? ⟨wr.heap.size + 1, 1, none⟩ = some ((.bool false)) := hX.cell 1
                  have e2 : (((wr.alloc (.cells #[.int .i64 d, .int .i64 k, .int .i64 v] 66)).alloc (.cells #[.int .i64 0, .bool false, .slice none 0 0, .slice none 0 0] 46))).cell? ⟨wr.heap.size + 1, 2, none⟩ = some ((.slice none 0 0)) := hX.cell 2
                  have e3 : (((wr.alloc (.cells #[.int .i64 d, .int .i64 k, .int .i64 v] 66)).alloc (.cells #[.int .i64 0, .bool false, .slice none 0 0, .slice none 0 0] 46))).cell? ⟨wr.heap.size + 1, 3, none⟩ = some ((.slice none 0 0)) := hX.cell 3
                  clear hX
                  go_upto_region 19 with fail
                  generalize ((wr.alloc (.cells #[.int .i64 d, .int .i64 k, .int .i64 v] 66)).alloc (.cells #[.int .i64 0, .bool false, .slice none 0 0, .slice none 0 0] 46)) = w2 at H2 e0 e1 e2 e3 ⊢
                  clear x0 x1 x2
                  go_wp2_with (first | (at_builtin; refine Kd.S_append toldK (w0 := w2) (W := w2) w.heap.size rfl (.tmp 57) (.tmp 59) 43 46 (.agg #[(.int .i64 0), (.bool false), (.slice none 0 0), (.slice none 0 0)]) 64 rfl Try.underlying43 infoTold rfl (by decide) (by omega) u5 rs (0, false, [], []) [(.int .i64 0), (.bool false), (.slice none 0 0), (.slice none 0 0)] (fun b => b ≠ R ∧ b ∉ t.ids) (fun _ => False) rfl rfl (told_flat _ _ _ _) (fun _ hk => hk.elim) ?aF ?aO ?aB ?aS ?aL ?_; (case aF => exact fun k_ hk => by have h1 := H2.out.tree.lt; exact ⟨by omega, fun hb_ => by have := h1.2 _ hb_; omega⟩); (case aO => exact (Kd.S_mono H2.out.row (fun k_ hk => ⟨hk, fun h => h⟩))); (case aB => exact (Below.refl _ _)); (case aS => exact H2.out.fr.size); (case aL => have h1 := HZ.out.1; have h2 := HL.out; omega); intro v1 w3 ho hb hg hat))
                  have HE := hid (H2.out.append HB.out ho hg)
                  clear ho hb hg hat
                  go_wp2_with fail
                  go_roundg k1
                  case measure => omega
                  case rel => exact ⟨i + 1, t, rs ++ [(0, false, [], [])], rfl, HL.out, by have := HG.out; show k1 + (i + 1) = _; omega, HE.out, by rw [List.length_append, HZ.out.1]; rfl, by rw [← HZ.out.2.1, HX.out, List.append_assoc]; rw [← HS.out.2]; show _ = rs ++ (_ :: toldT tb (stepT tb t.raw _) _); rw [HS.out.1]; rfl, by rw [← HZ.out.2.2.1, HX.out]; show _ = runT tb (stepT tb t.raw _) _; rw [HS.out.1], by have := HZ.out.2.2.2; omega⟩
    · have e : i = l.length := by omega
      subst e
      have HF : Hid (rs = toldT tb t0.raw l ∧ t.raw = runT tb t0.raw l) := by
        have h1 := HI.out.2.2.1
        have h2 := HI.out.2.2.2.1
        rw [List.drop_length] at h1 h2
        exact ⟨by simpa [toldT] using h1, h2⟩
      go_wp2_with fail
      go_ret
      exact ⟨t, _, rfl, HF.out.2, HF.out.1 ▸ HI.out.1⟩
set_option maxRecDepth 100000 in
theorem AvlRun_any (A0 : Option Addr) (c0 : Nat) (tb : List Int) (A : Option Addr) (c : Nat) (l : List Act3) (w : World) (h0 : Kd.C (Kd.int .i64) w A0 tb.length tb) (hn : tb.length ≤ 2147483647) (hC : Kd.C actK w A l.length l) (hl : l.length ≤ 2147483647) :
    Calls Try.prog 23 #[.slice A0 tb.length c0, .slice A l.length c] w fun e w' => ∃ v, e = .returned v ∧ Kd.S toldK 46 w' w.heap.size (fun _ => True) v (toldT tb .nil l) ∧ Below w.heap.size w w' := by
  have H0 := hid h0
  have HC := hid hC
  clear h0 hC
  go_enter Try.func23, Try.ntmps23
  go_wp2_with fail
  refine (less_any A0 c0 tb w H0.out (by omega)).mono ?_
  rintro e w1 ⟨lv, rfl, hw, hL⟩
  have HL := hid hL
  have HB1 : Hid (Below w.heap.size w w1) := by rw [hw]; exact (Below.refl _ _).alloc (Nat.le_refl _) _
  clear hL hw
  go_wp2_with fail
  refine (New_any w1.heap.size tb lv w1 HL.out (Nat.le_refl _)).mono ?_
  rintro e w2 ⟨R, rfl, hT, hB⟩
  have HT := hid hT
  have HB2 := hid hB
  clear hT hB
  go_wp2_with fail
  refine (avlDo_any w1.heap.size R tb .nil w2 A c l HT.out HB2.out.size (fun W hW => ?_) ?_ hl).mono ?_
  · exact Kd.C_below HC.out ((below_then HB1.out HB1.out.size HB2.out).trans ⟨hW.os, hW.tape, hW.output, hW.size, fun k hk => hW.block k (Nat.lt_of_lt_of_le hk HB1.out.size)⟩)
  · show (0 : Int) + _ ≤ _
    omega
  rintro e w3 ⟨t', v, rfl, hraw, hI⟩
  have HI := hid hI
  clear hI hraw
  go_wp2_with fail
  go_ret
  have b1 := HB1.out
  have b2 := HB2.out
  have b3 : Below w1.heap.size w2 w3 := HI.out.fr.below b2.size (fun k hk => by
    rcases hk with rfl | hk
    · exact HT.out.ge
    · simp [N.ids] at hk)
  exact ⟨_, rfl, Kd.S_mono (Kd.S_lower HI.out.row (Nat.le_trans b1.size b2.size)) (fun _ _ => trivial), (below_then b1 b1.size b2).trans ⟨b3.os, b3.tape, b3.output, b3.size, fun k hk => b3.block k (Nat.lt_of_lt_of_le hk b1.size)⟩⟩
end Go.Proofs.Ytjlcebgfknfelaa.Avl

namespace Go.Proofs.Ytjlcebgfknfelaa.Bt
open Go Go.RowKit Go.IntWalk Go.Proofs.Ytjlcebgfknfelaa.Hk Go.Proofs.Ytjlcebgfknfelaa.BtPure Go.Proofs.Ytjlcebgfknfelaa.Less Go.Proofs.YtjlcebgfknfelaaW.PrintWords Go.Proofs.YtjlcebgfknfelaaW.PrintLast Go.Proofs.YtjlcebgfknfelaaW.PrintMore
open Go.Proofs.Ytjlcebgfknfelaa.Row hiding hid alloc_size
open Go.Proofs.Ytjlcebgfknfelaa.Avl (LessS Acc own_ge Act3 Told4 actK toldK at_act infoTold told_flat told_rows less_any)
def stepT (tb : List Int) (t : List E) (a : Act3) : List E := if a.1 = 0 then insL (rankOf tb) a.2.1 a.2.2 true t else if a.1 = 1 then (if (tell (findL (rankOf tb) a.2.1 t)).2 = true then insL (rankOf tb) a.2.1 0 false t else t) else t
def tellT (tb : List Int) (t : List E) (a : Act3) : Told4 :=
  if a.1 = 2 then ((tell (findL (rankOf tb) a.2.1 t)).1, (tell (findL (rankOf tb) a.2.1 t)).2, [], []) else if a.1 = 4 then (0, false, keysV t, valsV t) else (0, false, [], [])
def runT (tb : List Int) : List E → List Act3 → List E
  | t, [] => t
  | t, a :: l => runT tb (stepT tb t a) l
def toldT (tb : List Int) : List E → List Act3 → List Told4
  | _, [] => []
  | t, a :: l => tellT tb t a :: toldT tb (stepT tb t a) l
theorem toldT_length (tb : List Int) : ∀ (l : List Act3) (t : List E), (toldT tb t l).length = l.length
  | [], _ => rfl
  | a :: l, t => by simp [toldT, toldT_length tb l]
/-- What holds between the steps of a script that began at w with the tree t0. -/
structure Inv (base R : Nat) (tb : List Int) (t0 : M) (w : World) (t : M) (out : Value) (rs : List Told4) (wr : World) : Prop where
  tree : Tree base R tb t wr
  ids : ∀ b ∈ t.ids, b ∈ t0.ids ∨ w.heap.size ≤ b
  row : Kd.S toldK 46 wr w.heap.size (fun b => b ≠ R ∧ b ∉ t.ids) out rs
  fr : Fr (fun b => b = R ∨ b ∈ t0.ids) w wr
section
variable {base R : Nat} {tb : List Int} {t0 t : M} {w wr W w' w1 : World} {out : Value} {rs : List Told4}
theorem Inv.below (h : Inv base R tb t0 w t out rs wr) (hb : Below wr.heap.size wr w') : Inv base R tb t0 w t out rs w' :=
  ⟨h.tree.below hb, h.ids, Kd.S_below h.row hb, h.fr.trans (S' := fun _ => False) ⟨hb.os, hb.tape, hb.output, hb.size, fun k hk _ => hb.block k hk⟩ (fun _ _ h => h.elim)⟩
theorem Inv.turned (h : Inv base R tb t0 w t out rs W) {raw' : List E} (hT : Turned base R tb t raw' W w') : ∃ t', t'.raw = raw' ∧ t'.h ≤ t.h + 1 ∧ Inv base R tb t0 w t' out rs w' := by
  obtain ⟨t', a1, a2, a0, a3, a4⟩ := hT
  refine ⟨t', a2, a0, a1, fun b hb => ?_, ?_, h.fr.trans a3 (fun n hn hk => ?_)⟩
  · rcases a4 b hb with h1 | h1
    · exact h.ids b h1
    · exact .inr (Nat.le_trans h.fr.size h1)
  · refine Kd.S_mono (Kd.S_step (Kd.S_bound h.row) (fun k hk hlt => a3.block k hlt (fun e => ?_))) (fun k hk => ⟨hk.1.1, fun hb => ?_⟩)
    · rcases e with e | e
      · exact hk.1.1 e
      · exact hk.1.2 e
    · rcases a4 k hb with h1 | h1
      · exact hk.1.2 h1
      · have := hk.2.2.1; omega
  · rcases hk with hk | hk
    · exact .inl hk
    · rcases h.ids n hk with h1 | h1
      · exact .inr h1
      · omega
/-- Behind the append of what a step tells. -/
theorem Inv.append (h : Inv base R tb t0 w t out rs W) (hb : base ≤ w.heap.size) {v1 : Value} {p : Told4} (hR : Kd.S toldK 46 w1 w.heap.size (fun b => b ≠ R ∧ b ∉ t.ids) v1 (rs ++ [p])) (hg : W.grownBy w1 out.ownBlock) :
    Inv base R tb t0 w t v1 (rs ++ [p]) w1 := by
  obtain ⟨_, inner, ho, _⟩ := Kd.S_R h.row
  have hlo : ∀ k, out.ownBlock = some k → w.heap.size ≤ k := fun k hk => (ho.lt k hk).1
  refine ⟨h.tree.kept ⟨hg.os, hg.tape, hg.output, hg.size, fun k hk => ?_⟩ (hg.block R h.tree.lt.1 (fun e => ((Kd.S_R h.row).1 R e.symm).1 rfl)) (fun b hx => hg.block b (h.tree.lt.2 b hx) (fun e => ((Kd.S_R h.row).1 b e.symm).2 hx)), h.ids, hR, grown_fr h.fr hg (fun k hk hlt => ?_)⟩
  · have hRs := h.tree.lt.1
    have hge := h.tree.ge
    exact hg.block k (by omega) (fun e => by have := hlo k e.symm; omega)
  · have := hlo k hk; omega
end
set_option maxHeartbeats 8000000 in
set_option maxRecDepth 100000 in
theorem btreeDo_any (base R : Nat) (tb : List Int) (t0 : M) (w : World) (A : Option Addr) (c : Nat) (l : List Act3) (hT : Tree base R tb t0 w) (hb : base ≤ w.heap.size) (hC : ∀ W, Below base w W → Kd.C actK W A l.length l)
    (hs : t0.h = 0 ∧ t0.raw = []) (hl : l.length ≤ 2147483647) :
    Calls Try.prog 51 #[.pointer (some ⟨R, 0, none⟩), .slice A l.length c] w fun e w' => ∃ t' v, e = .returned v ∧ t'.raw = runT tb t0.raw l ∧ Inv base R tb t0 w t' v (toldT tb t0.raw l) w' := by
  have HC : Hid (∀ W, Below base w W → Kd.C actK W A l.length l) := hC
  have HT : Hid (Tree base R tb t0 w) := hT
  have HB : Hid (base ≤ w.heap.size) := hb
  have HS0 := hid hs
  clear hC hT hb hs
  go_enter Try.func51, Try.ntmps51
  go_wp2_with fail
  go_loopg [5, 11] l.length (fun g v5 v11 wr => ∃ (i : Nat) (t : M) (rs : List Told4), v11 = .int .i64 i ∧ i ≤ l.length ∧ Hid (g + i = l.length) ∧ Hid (Inv base R tb t0 w t v5 rs wr ∧ rs.length = i ∧ rs ++ toldT tb t.raw (l.drop i) = toldT tb t0.raw l ∧ runT tb t.raw (l.drop i) = runT tb t0.raw l ∧ (t.h ≤ i ∧ t.raw.length ≤ i)))
  case atStart => exact ⟨0, t0, [], rfl, Nat.zero_le _, Nat.add_zero _, ⟨HT.out, fun b hb => .inl hb, Kd.S_nil .., Fr.refl _ _⟩, rfl, rfl, rfl, by rw [HS0.out.1]; exact Nat.le_refl _, by rw [HS0.out.2]; exact Nat.le_refl _⟩
  case round =>
    obtain ⟨i, t, rs, rfl, hi, HG, HI⟩ := hrel
    by_cases hlt : i < l.length
    · obtain ⟨ad, rfl, x0, x1, x2⟩ := at_act (HC.out wr (by
        have h := HI.out.1.fr
        have hg := HT.out.ge
        exact h.below HB.out (fun k hk => by
          rcases hk with rfl | hk
          · exact hg
          · exact HT.out.good.above k hk))) i hlt
      have HX : Hid (l.drop i = l[i] :: l.drop (i + 1)) := List.drop_eq_getElem_cons hlt
      generalize l[i] = x at x0 x1 x2 HX
      obtain ⟨d, k, v⟩ := x
      simp only at x0 x1 x2
      have HL := hid hlt
      have HW := hid (HI.out.1.below (((Below.refl _ _).alloc (Nat.le_refl _) (.cells #[.int .i64 d, .int .i64 k, .int .i64 v] 66)).alloc (by rw [alloc_size]; exact Nat.le_succ _) (.cells #[.int .i64 0, .bool false, .slice none 0 0, .slice none 0 0] 46)))
      have HLT := hid HI.out.1.tree.lt
      have HZ := hid HI.out.2
      obtain ⟨k1, rfl⟩ : ∃ k1, gk = k1 + 1 := ⟨gk - 1, by have := HG.out; omega⟩
      have HEV : Hid (t.h ≤ 1099511627775) := hid (by have := HZ.out.2.2.2.1; omega)
      have HXN : Hid (wr.heap.size + 1 ≠ R ∧ wr.heap.size + 1 ∉ t.ids) := ⟨by have := HLT.out.1; omega, fun h => by have := HLT.out.2 _ h; omega⟩
      clear hlt
      by_cases h0 : d = 0
      · subst h0
        go_wp2_with fail
        refine (tPut_any base R tb t k v _ HW.out.tree HEV.out).mono ?_
        rintro e w2 ⟨rfl, hT⟩
        obtain ⟨t', hraw, hh', hI⟩ := HW.out.turned hT
        have HH2 := hid hh'
        have hX : Blk w2 (wr.heap.size + 1) #[.int .i64 0, .bool false, .slice none 0 0, .slice none 0 0] 46 := by
          have h0_ := (Blk.new (wr.alloc (.cells #[.int .i64 0, .int .i64 k, .int .i64 v] 66)) #[.int .i64 0, .bool false, .slice none 0 0, .slice none 0 0] 46)
          rw [alloc_size] at h0_
          obtain ⟨_, _, _, _, a3, _⟩ := hT
          exact h0_.fr a3 (fun e => e.elim HXN.out.1 HXN.out.2)
        have e0 : w2.cell? ⟨wr.heap.size + 1, 0, none⟩ = some ((.int .i64 0)) := hX.cell 0
        have e1 : w2.cell? ⟨wr.heap.size + 1, 1, none⟩ = some ((.bool false)) := hX.cell 1
        have e2 : w2.cell? ⟨wr.heap.size + 1, 2, none⟩ = some ((.slice none 0 0)) := hX.cell 2
        have e3 : w2.cell? ⟨wr.heap.size + 1, 3, none⟩ = some ((.slice none 0 0)) := hX.cell 3
        have H2 := hid hI
        have HR := hid hraw
        clear hT hI hraw hh' hX x0 x1 x2
        go_wp2_with (first | (at_builtin; refine Kd.S_append toldK (w0 := w2) (W := w2) w.heap.size rfl (.tmp 47) (.tmp 49) 43 46 (.agg #[(.int .i64 0), (.bool false), (.slice none 0 0), (.slice none 0 0)]) 64 rfl Try.underlying43 infoTold rfl (by decide) (by omega) u5 rs (0, false, [], []) [(.int .i64 0), (.bool false), (.slice none 0 0), (.slice none 0 0)] (fun b => b ≠ R ∧ b ∉ t'.ids) (fun _ => False) rfl rfl (told_flat _ _ _ _) (fun _ hk => hk.elim) ?aF ?aO ?aB ?aS ?aL ?_; (case aF => exact fun k_ hk => by have h1 := H2.out.tree.lt; exact ⟨by omega, fun hb_ => by have := h1.2 _ hb_; omega⟩); (case aO => exact (Kd.S_mono H2.out.row (fun k_ hk => ⟨hk, fun h => h⟩))); (case aB => exact (Below.refl _ _)); (case aS => exact H2.out.fr.size); (case aL => have h1 := HZ.out.1; have h2 := HL.out; omega); intro v1 w3 ho hb hg hat))
        have HE := hid (H2.out.append HB.out ho hg)
        clear ho hb hg hat
        clear e0 e1 e2 e3
        go_wp2_with fail
        go_roundg k1
        case measure => omega
        case rel => exact ⟨i + 1, t', rs ++ [(0, false, [], [])], rfl, HL.out, by have := HG.out; show k1 + (i + 1) = _; omega, HE.out, by rw [List.length_append, HZ.out.1]; rfl, by rw [← HZ.out.2.1, HX.out, List.append_assoc]; rw [HR.out]; rfl, by rw [← HZ.out.2.2.1, HX.out]; rw [HR.out]; rfl, ⟨by have := HH2.out; have := HZ.out.2.2.2.1; omega, by rw [HR.out]; have h1 := (@len_insL (rankOf tb) k v true t.raw).1; have := HZ.out.2.2.2.2; omega⟩⟩
      · by_cases h1 : d = 1
        · subst h1
          go_wp2_with fail
          refine (tRemove_any base R tb t k _ HW.out.tree HEV.out).mono ?_
          rintro e w2 ⟨rfl, hT⟩
          obtain ⟨t', hraw, hh', hI⟩ := HW.out.turned hT
          have HH2 := hid hh'
          have hX : Blk w2 (wr.heap.size + 1) #[.int .i64 0, .bool false, .slice none 0 0, .slice none 0 0] 46 := by
            have h0_ := (Blk.new (wr.alloc (.cells #[.int .i64 1, .int .i64 k, .int .i64 v] 66)) #[.int .i64 0, .bool false, .slice none 0 0, .slice none 0 0] 46)
            rw [alloc_size] at h0_
            obtain ⟨_, _, _, _, a3, _⟩ := hT
            exact h0_.fr a3 (fun e => e.elim HXN.out.1 HXN.out.2)
          have e0 : w2.cell? ⟨wr.heap.size + 1, 0, none⟩ = some ((.int .i64 0)) := hX.cell 0
          have e1 : w2.cell? ⟨wr.heap.size + 1, 1, none⟩ = some ((.bool false)) := hX.cell 1
          have e2 : w2.cell? ⟨wr.heap.size + 1, 2, none⟩ = some ((.slice none 0 0)) := hX.cell 2
          have e3 : w2.cell? ⟨wr.heap.size + 1, 3, none⟩ = some ((.slice none 0 0)) := hX.cell 3
          have H2 := hid hI
          have HR := hid hraw
          clear hT hI hraw hh' hX x0 x1 x2
          go_wp2_with (first | (at_builtin; refine Kd.S_append toldK (w0 := w2) (W := w2) w.heap.size rfl (.tmp 47) (.tmp 49) 43 46 (.agg #[(.int .i64 0), (.bool false), (.slice none 0 0), (.slice none 0 0)]) 64 rfl Try.underlying43 infoTold rfl (by decide) (by omega) u5 rs (0, false, [], []) [(.int .i64 0), (.bool false), (.slice none 0 0), (.slice none 0 0)] (fun b => b ≠ R ∧ b ∉ t'.ids) (fun _ => False) rfl rfl (told_flat _ _ _ _) (fun _ hk => hk.elim) ?aF ?aO ?aB ?aS ?aL ?_; (case aF => exact fun k_ hk => by have h1 := H2.out.tree.lt; exact ⟨by omega, fun hb_ => by have := h1.2 _ hb_; omega⟩); (case aO => exact (Kd.S_mono H2.out.row (fun k_ hk => ⟨hk, fun h => h⟩))); (case aB => exact (Below.refl _ _)); (case aS => exact H2.out.fr.size); (case aL => have h1 := HZ.out.1; have h2 := HL.out; omega); intro v1 w3 ho hb hg hat))
          have HE := hid (H2.out.append HB.out ho hg)
          clear ho hb hg hat
          clear e0 e1 e2 e3
          go_wp2_with fail
          go_roundg k1
          case measure => omega
          case rel => exact ⟨i + 1, t', rs ++ [(0, false, [], [])], rfl, HL.out, by have := HG.out; show k1 + (i + 1) = _; omega, HE.out, by rw [List.length_append, HZ.out.1]; rfl, by rw [← HZ.out.2.1, HX.out, List.append_assoc]; rw [HR.out]; rfl, by rw [← HZ.out.2.2.1, HX.out]; rw [HR.out]; rfl, ⟨by have := HH2.out; have := HZ.out.2.2.2.1; omega, by rw [HR.out]; have h1 := (@len_insL (rankOf tb) k 0 false t.raw).1; have := HZ.out.2.2.2.2; split <;> omega⟩⟩
        · by_cases h2 : d = 2
          · subst h2
            go_wp2_with fail
            refine (tGet_any base R tb t k _ HW.out.tree (by have := HEV.out; omega)).mono ?_
            rintro e W2 ⟨rfl, hBW⟩
            have hB2 : Below wr.heap.size wr W2 := (((Below.refl _ _).alloc (Nat.le_refl _) _).alloc (by rw [alloc_size]; exact Nat.le_succ _) _).trans (below_le hBW (by rw [alloc_size, alloc_size]; omega))
            have hX0 : Blk W2 (wr.heap.size + 1) #[(.int .i64 0), (.bool false), (.slice none 0 0), (.slice none 0 0)] 46 := by
              have h0_ := (Blk.new (wr.alloc (.cells #[.int .i64 2, .int .i64 k, .int .i64 v] 66)) #[.int .i64 0, .bool false, .slice none 0 0, .slice none 0 0] 46)
              rw [alloc_size] at h0_
              exact h0_.below hBW (by rw [alloc_size, alloc_size]; omega)
            clear hBW
            have g0 : W2.cell? ⟨wr.heap.size + 1, 0, none⟩ = some (.int .i64 0) := hX0.cell 0
            have f0 : W2.frozen? ⟨wr.heap.size + 1, 0, none⟩ = false := hX0.free 0
            have g1 : W2.cell? ⟨wr.heap.size + 1, 1, none⟩ = some (.bool false) := hX0.cell 1
            have f1 : W2.frozen? ⟨wr.heap.size + 1, 1, none⟩ = false := hX0.free 1
            have HQ : Hid (Blk W2 (wr.heap.size + 1) #[(.int .i64 0), (.bool false), (.slice none 0 0), (.slice none 0 0)] 46 ∧ Below wr.heap.size wr W2) := ⟨hX0, hB2⟩
            clear hX0 hB2 x0 x1 x2
            go_upto_region 15 with fail
            obtain ⟨hX0, hB2⟩ := HQ.out
            have H2 : Hid (Inv base R tb t0 w t u5 rs ((W2.setCell ⟨wr.heap.size + 1, 0, none⟩ (.int .i64 (tell (findL (rankOf tb) k t.raw)).1)).setCell ⟨wr.heap.size + 1, 1, none⟩ (.bool (tell (findL (rankOf tb) k t.raw)).2))) := HI.out.1.below ((hB2.setCell (p := ⟨wr.heap.size + 1, 0, none⟩) (Nat.le_succ _) (.int .i64 (tell (findL (rankOf tb) k t.raw)).1)).setCell (p := ⟨wr.heap.size + 1, 1, none⟩) (Nat.le_succ _) (.bool (tell (findL (rankOf tb) k t.raw)).2))
            have hX : Blk ((W2.setCell ⟨wr.heap.size + 1, 0, none⟩ (.int .i64 (tell (findL (rankOf tb) k t.raw)).1)).setCell ⟨wr.heap.size + 1, 1, none⟩ (.bool (tell (findL (rankOf tb) k t.raw)).2)) (wr.heap.size + 1) #[(.int .i64 (tell (findL (rankOf tb) k t.raw)).1), (.bool (tell (findL (rankOf tb) k t.raw)).2), (.slice none 0 0), (.slice none 0 0)] 46 := ((hX0.set 0 (.int .i64 (tell (findL (rankOf tb) k t.raw)).1)).set 1 (.bool (tell (findL (rankOf tb) k t.raw)).2))
            have e0 : ((W2.setCell ⟨wr.heap.size + 1, 0, none⟩ (.int .i64 (tell (findL (rankOf tb) k t.raw)).1)).setCell ⟨wr.heap.size + 1, 1, none⟩ (.bool (tell (findL (rankOf tb) k t.raw)).2)).cell? ⟨wr.heap.size + 1, 0, none⟩ = some ((.int .i64 (tell (findL (rankOf tb) k t.raw)).1)) := hX.cell 0
            have e1 : ((W2.setCell ⟨wr.heap.size + 1, 0, none⟩ (.int .i64 (tell (findL (rankOf tb) k t.raw)).1)).setCell ⟨wr.heap.size + 1, 1, none⟩ (.bool (tell (findL (rankOf tb) k t.raw)).2)).cell? ⟨wr.heap.size + 1, 1, none⟩ = some ((.bool (tell (findL (rankOf tb) k t.raw)).2)) := hX.cell 1
            have e2 : ((W2.setCell ⟨wr.heap.size + 1, 0, none⟩ (.int .i64 (tell (findL (rankOf tb) k t.raw)).1)).setCell ⟨wr.heap.size + 1, 1, none⟩ (.bool (tell (findL (rankOf tb) k t.raw)).2)).cell? ⟨wr.heap.size + 1, 2, none⟩ = some ((.slice none 0 0)) := hX.cell 2
            have e3 : ((W2.setCell ⟨wr.heap.size + 1, 0, none⟩ (.int .i64 (tell (findL (rankOf tb) k t.raw)).1)).setCell ⟨wr.heap.size + 1, 1, none⟩ (.bool (tell (findL (rankOf tb) k t.raw)).2)).cell? ⟨wr.heap.size + 1, 3, none⟩ = some ((.slice none 0 0)) := hX.cell 3
            clear hX hX0 hB2 HQ f0 g0 f1 g1
            generalize ((W2.setCell ⟨wr.heap.size + 1, 0, none⟩ (.int .i64 (tell (findL (rankOf tb) k t.raw)).1)).setCell ⟨wr.heap.size + 1, 1, none⟩ (.bool (tell (findL (rankOf tb) k t.raw)).2)) = w2 at H2 e0 e1 e2 e3 ⊢
            have HS : Hid (stepT tb t.raw (2, k, v) = t.raw ∧ tellT tb t.raw (2, k, v) = ((tell (findL (rankOf tb) k t.raw)).1, (tell (findL (rankOf tb) k t.raw)).2, [], [])) := ⟨rfl, rfl⟩
            go_wp2_with (first | (at_builtin; refine Kd.S_append toldK (w0 := w2) (W := w2) w.heap.size rfl (.tmp 47) (.tmp 49) 43 46 (.agg #[(.int .i64 0), (.bool false), (.slice none 0 0), (.slice none 0 0)]) 64 rfl Try.underlying43 infoTold rfl (by decide) (by omega) u5 rs ((tell (findL (rankOf tb) k t.raw)).1, (tell (findL (rankOf tb) k t.raw)).2, [], []) [(.int .i64 (tell (findL (rankOf tb) k t.raw)).1), (.bool (tell (findL (rankOf tb) k t.raw)).2), (.slice none 0 0), (.slice none 0 0)] (fun b => b ≠ R ∧ b ∉ t.ids) (fun _ => False) rfl rfl (told_flat _ _ _ _) (fun _ hk => hk.elim) ?aF ?aO ?aB ?aS ?aL ?_; (case aF => exact fun k_ hk => by have h1 := H2.out.tree.lt; exact ⟨by omega, fun hb_ => by have := h1.2 _ hb_; omega⟩); (case aO => exact (Kd.S_mono H2.out.row (fun k_ hk => ⟨hk, fun h => h⟩))); (case aB => exact (Below.refl _ _)); (case aS => exact H2.out.fr.size); (case aL => have h1 := HZ.out.1; have h2 := HL.out; omega); intro v1 w3 ho hb hg hat))
            have HE := hid (H2.out.append HB.out ho hg)
            clear ho hb hg hat
            clear e0 e1 e2 e3
            go_wp2_with fail
            go_roundg k1
            case measure => omega
            case rel => exact ⟨i + 1, t, rs ++ [((tell (findL (rankOf tb) k t.raw)).1, (tell (findL (rankOf tb) k t.raw)).2, [], [])], rfl, HL.out, by have := HG.out; show k1 + (i + 1) = _; omega, HE.out, by rw [List.length_append, HZ.out.1]; rfl, by rw [← HZ.out.2.1, HX.out, List.append_assoc]; rw [← HS.out.2]; show _ = rs ++ (_ :: toldT tb (stepT tb t.raw _) _); rw [HS.out.1]; rfl, by rw [← HZ.out.2.2.1, HX.out]; show _ = runT tb (stepT tb t.raw _) _; rw [HS.out.1], ⟨Nat.le_succ_of_le HZ.out.2.2.2.1, Nat.le_succ_of_le HZ.out.2.2.2.2⟩⟩
          · by_cases h4 : d = 4
            · subst h4
              have HA : Hid (Acc (wr.heap.size + 2) (wr.heap.size + 1) 0 false [] [] ((wr.alloc (.cells #[.int .i64 4, .int .i64 k, .int .i64 v] 66)).alloc (.cells #[.int .i64 0, .bool false, .slice none 0 0, .slice none 0 0] 46))) := by
                have h0_ := (Blk.new (wr.alloc (.cells #[.int .i64 4, .int .i64 k, .int .i64 v] 66)) #[.int .i64 0, .bool false, .slice none 0 0, .slice none 0 0] 46)
                rw [alloc_size] at h0_
                exact ⟨_, _, h0_, Nat.lt_succ_self _, by rw [alloc_size, alloc_size]; exact Nat.le_refl _, Kd.R_nil .., Kd.R_nil ..⟩
              go_wp2_with fail
              refine (tEach_any base R tb t (wr.heap.size + 2) (wr.heap.size + 1) 0 false _ HW.out.tree (fun b hb => by have := HLT.out.2 b hb; omega) HA.out (by have := HZ.out.2.2.2.2; have := HL.out; omega) (by have := HEV.out; omega)).mono ?_
              rintro e w2 ⟨rfl, hA, hF⟩
              obtain ⟨K, V, hX, _, hN2, hK, hV⟩ := hA
              obtain ⟨AK, cK, hq⟩ := Kd.R_slice hK
              subst hq
              obtain ⟨AV, cV, hq⟩ := Kd.R_slice hV
              subst hq
              have HO : Hid (∀ k_, u5.ownBlock = some k_ → k_ < wr.heap.size) := fun k_ hk => (Kd.S_lt HI.out.1.row k_ hk)
              have hB2 : Below wr.heap.size wr w2 := (((Below.refl _ _).alloc (Nat.le_refl _) _).alloc (by rw [alloc_size]; exact Nat.le_succ _) _).trans ⟨hF.os, hF.tape, hF.output, hF.size, fun k_ hk => hF.block k_ (by rw [alloc_size, alloc_size]; omega) (fun e_ => by rcases e_ with e_ | e_ <;> omega)⟩
              have H2 := hid (HI.out.1.below hB2)
              have HS2 : Hid (Kd.S toldK 46 w2 w.heap.size (fun k_ => (k_ ≠ R ∧ k_ ∉ t.ids) ∧ ¬ wr.heap.size + 2 ≤ k_) u5 rs) := Kd.S_below (Kd.S_mono (Kd.S_bound HI.out.1.row) (fun k_ hk => ⟨hk.1, by have := hk.2.2.1; omega⟩)) hB2
              have HS : Hid (stepT tb t.raw (4, k, v) = t.raw ∧ tellT tb t.raw (4, k, v) = (0, false, keysV t.raw, valsV t.raw)) := ⟨rfl, rfl⟩
              have HM := hid (told_rows (base := w.heap.size) (by have := H2.out.fr.size; have := HI.out.1.fr.size; omega) hK hV 0 false)
              have e0 : w2.cell? ⟨wr.heap.size + 1, 0, none⟩ = some (.int .i64 0) := hX.cell 0
              have e1 : w2.cell? ⟨wr.heap.size + 1, 1, none⟩ = some (.bool false) := hX.cell 1
              have e2 : w2.cell? ⟨wr.heap.size + 1, 2, none⟩ = some (.slice AK (keysV t.raw).length cK) := hX.cell 2
              have e3 : w2.cell? ⟨wr.heap.size + 1, 3, none⟩ = some (.slice AV (valsV t.raw).length cV) := hX.cell 3
              clear hX hN2 hK hV hF hB2 x0 x1 x2
              go_wp2_with (first | (at_builtin; refine Kd.S_append toldK (w0 := w2) (W := w2) w.heap.size rfl (.tmp 47) (.tmp 49) 43 46 (.agg #[(.int .i64 0), (.bool false), (.slice none 0 0), (.slice none 0 0)]) 64 rfl Try.underlying43 infoTold rfl (by decide) (by omega) u5 rs (0, false, keysV t.raw, valsV t.raw) [.int .i64 0, .bool false, .slice AK (keysV t.raw).length cK, .slice AV (valsV t.raw).length cV] (fun b => b ≠ R ∧ b ∉ t.ids) (fun k_ => wr.heap.size + 2 ≤ k_) rfl rfl HM.out (fun k_ hk => ⟨⟨by have := HLT.out.1; omega, fun hb_ => by have := HLT.out.2 _ hb_; omega⟩, fun e_ => by have := HO.out k_ e_.symm; omega⟩) ?aF ?aO ?aB ?aS ?aL ?_; (case aF => exact fun k_ hk => by have h1 := H2.out.tree.lt; exact ⟨by omega, fun hb_ => by have := h1.2 _ hb_; omega⟩); (case aO => exact HS2.out); (case aB => exact (Below.refl _ _)); (case aS => exact H2.out.fr.size); (case aL => have h1 := HZ.out.1; have h2 := HL.out; omega); intro v1 w3 ho hb hg hat))
              have HE := hid (H2.out.append HB.out ho hg)
              clear ho hb hg hat
              clear e0 e1 e2 e3
              go_wp2_with fail
              go_roundg k1
              case measure => omega
              case rel => exact ⟨i + 1, t, rs ++ [(0, false, keysV t.raw, valsV t.raw)], rfl, HL.out, by have := HG.out; show k1 + (i + 1) = _; omega, HE.out, by rw [List.length_append, HZ.out.1]; rfl, by rw [← HZ.out.2.1, HX.out, List.append_assoc]; rw [← HS.out.2]; show _ = rs ++ (_ :: toldT tb (stepT tb t.raw _) _); rw [HS.out.1]; rfl, by rw [← HZ.out.2.2.1, HX.out]; show _ = runT tb (stepT tb t.raw _) _; rw [HS.out.1], ⟨Nat.le_succ_of_le HZ.out.2.2.2.1, Nat.le_succ_of_le HZ.out.2.2.2.2⟩⟩
            · have H2 : Hid (Inv base R tb t0 w t u5 rs (((wr.alloc (.cells #[.int .i64 d, .int .i64 k, .int .i64 v] 66)).alloc (.cells #[.int .i64 0, .bool false, .slice none 0 0, .slice none 0 0] 46)))) := HI.out.1.below (((Below.refl _ _).alloc (Nat.le_refl _) _).alloc (by rw [alloc_size]; exact Nat.le_succ _) _)
              have HS : Hid (stepT tb t.raw (d, k, v) = t.raw ∧ tellT tb t.raw (d, k, v) = (0, false, [], [])) := ⟨(if_neg h0).trans (if_neg h1), (if_neg h2).trans (if_neg h4)⟩
              have hX : Blk (((wr.alloc (.cells #[.int .i64 d, .int .i64 k, .int .i64 v] 66)).alloc (.cells #[.int .i64 0, .bool false, .slice none 0 0, .slice none 0 0] 46))) (wr.heap.size + 1) #[(.int .i64 0), (.bool false), (.slice none 0 0), (.slice none 0 0)] 46 := by
                have h0_ := Blk.new (wr.alloc (.cells #[.int .i64 d, .int .i64 k, .int .i64 v] 66)) #[(.int .i64 0), (.bool false), (.slice none 0 0), (.slice none 0 0)] 46
                rw [alloc_size] at h0_
                exact h0_
              have e0 : (((wr.alloc (.cells #[.int .i64 d, .int .i64 k, .int .i64 v] 66)).alloc (.cells #[.int .i64 0, .bool false, .slice none 0 0, .slice none 0 0] 46))).cell? ⟨wr.heap.size + 1, 0, none⟩ = some ((.int .i64 0)) := hX.cell 0
              have e1 : (((wr.alloc (.cells #[.int .i64 d, .int .i64 k, .int .i64 v] 66)).alloc (.cells #[.int .i64 0, .bool false, .slice none 0 0, .slice none 0 0] 46))).cell? ⟨wr.heap.size + 1, 1, none⟩ = some ((.bool false)) := hX.cell 1
              have e2 : (((wr.alloc (.cells #[.int .i64 d, .int .i64 k, .int .i64 v] 66)).alloc (.cells #[.int .i64 0, .bool false, .slice none 0 0, .slice none 0 0] 46))).cell? ⟨wr.heap.size + 1, 2, none⟩ = some ((.slice none 0 0)) := hX.cell 2
              have e3 : (((wr.alloc (.cells #[.int .i64 d, .int .i64 k, .int .i64 v] 66)).alloc (.cells #[.int .i64 0, .bool false, .slice none 0 0, .slice none 0 0] 46))).cell? ⟨wr.heap.size + 1, 3, none⟩ = some ((.slice none 0 0)) := hX.cell 3
              clear hX
              go_upto_region 15 with fail
              generalize ((wr.alloc (.cells #[.int .i64 d, .int .i64 k, .int .i64 v] 66)).alloc (.cells #[.int .i64 0, .bool false, .slice none 0 0, .slice none 0 0] 46)) = w2 at H2 e0 e1 e2 e3 ⊢
              clear x0 x1 x2
              go_wp2_with (first | (at_builtin; refine Kd.S_append toldK (w0 := w2) (W := w2) w.heap.size rfl (.tmp 47) (.tmp 49) 43 46 (.agg #[(.int .i64 0), (.bool false), (.slice none 0 0), (.slice none 0 0)]) 64 rfl Try.underlying43 infoTold rfl (by decide) (by omega) u5 rs (0, false, [], []) [(.int .i64 0), (.bool false), (.slice none 0 0), (.slice none 0 0)] (fun b => b ≠ R ∧ b ∉ t.ids) (fun _ => False) rfl rfl (told_flat _ _ _ _) (fun _ hk => hk.elim) ?aF ?aO ?aB ?aS ?aL ?_; (case aF => exact fun k_ hk => by have h1 := H2.out.tree.lt; exact ⟨by omega, fun hb_ => by have := h1.2 _ hb_; omega⟩); (case aO => exact (Kd.S_mono H2.out.row (fun k_ hk => ⟨hk, fun h => h⟩))); (case aB => exact (Below.refl _ _)); (case aS => exact H2.out.fr.size); (case aL => have h1 := HZ.out.1; have h2 := HL.out; omega); intro v1 w3 ho hb hg hat))
              have HE := hid (H2.out.append HB.out ho hg)
              clear ho hb hg hat
              go_wp2_with fail
              go_roundg k1
              case measure => omega
              case rel => exact ⟨i + 1, t, rs ++ [(0, false, [], [])], rfl, HL.out, by have := HG.out; show k1 + (i + 1) = _; omega, HE.out, by rw [List.length_append, HZ.out.1]; rfl, by rw [← HZ.out.2.1, HX.out, List.append_assoc]; rw [← HS.out.2]; show _ = rs ++ (_ :: toldT tb (stepT tb t.raw _) _); rw [HS.out.1]; rfl, by rw [← HZ.out.2.2.1, HX.out]; show _ = runT tb (stepT tb t.raw _) _; rw [HS.out.1], ⟨Nat.le_succ_of_le HZ.out.2.2.2.1, Nat.le_succ_of_le HZ.out.2.2.2.2⟩⟩
    · have e : i = l.length := by omega
      subst e
      have HF : Hid (rs = toldT tb t0.raw l ∧ t.raw = runT tb t0.raw l) := by
        have h1 := HI.out.2.2.1
        have h2 := HI.out.2.2.2.1
        rw [List.drop_length] at h1 h2
        exact ⟨by simpa [toldT] using h1, h2⟩
      go_wp2_with fail
      go_ret
      exact ⟨t, _, rfl, HF.out.2, HF.out.1 ▸ HI.out.1⟩
set_option maxRecDepth 100000 in
theorem BtreeRun_any (A0 : Option Addr) (c0 : Nat) (tb : List Int) (A : Option Addr) (c : Nat) (l : List Act3) (w : World) (h0 : Kd.C (Kd.int .i64) w A0 tb.length tb) (hn : tb.length ≤ 2147483647) (hC : Kd.C actK w A l.length l) (hl : l.length ≤ 2147483647) :
    Calls Try.prog 33 #[.slice A0 tb.length c0, .slice A l.length c] w fun e w' => ∃ v, e = .returned v ∧ Kd.S toldK 46 w' w.heap.size (fun _ => True) v (toldT tb [] l) ∧ Below w.heap.size w w' := by
  have H0 := hid h0
  have HC := hid hC
  clear h0 hC
  go_enter Try.func33, Try.ntmps33
  go_wp2_with fail
  refine (less_any A0 c0 tb w H0.out (by omega)).mono ?_
  rintro e w1 ⟨lv, rfl, hw, hL⟩
  have HL := hid hL
  have HB1 : Hid (Below w.heap.size w w1) := by rw [hw]; exact (Below.refl _ _).alloc (Nat.le_refl _) _
  clear hL hw
  go_wp2_with fail
  refine (New_any w1.heap.size tb lv w1 HL.out (Nat.le_refl _)).mono ?_
  rintro e w2 ⟨R, t0, rfl, hT, hraw0, hh0, hids0, _, hB⟩
  have HT := hid hT
  have H00 := hid (And.intro hh0 hraw0)
  have HID := hid hids0
  clear hh0 hraw0 hids0
  have HB2 := hid hB
  clear hT hB
  go_wp2_with fail
  refine (btreeDo_any w1.heap.size R tb t0 w2 A c l HT.out HB2.out.size (fun W hW => ?_) H00.out hl).mono ?_
  · exact Kd.C_below HC.out ((below_then HB1.out HB1.out.size HB2.out).trans ⟨hW.os, hW.tape, hW.output, hW.size, fun k hk => hW.block k (Nat.lt_of_lt_of_le hk HB1.out.size)⟩)
  rintro e w3 ⟨t', v, rfl, hraw, hI⟩
  rw [H00.out.2] at hI
  have HI := hid hI
  clear hI hraw
  go_wp2_with fail
  go_ret
  have b1 := HB1.out
  have b2 := HB2.out
  have b3 : Below w1.heap.size w2 w3 := HI.out.fr.below b2.size (fun k hk => by
    rcases hk with rfl | hk
    · exact HT.out.ge
    · exact HID.out _ hk)
  exact ⟨_, rfl, Kd.S_mono (Kd.S_lower HI.out.row (Nat.le_trans b1.size b2.size)) (fun _ _ => trivial), (below_then b1 b1.size b2).trans ⟨b3.os, b3.tape, b3.output, b3.size, fun k hk => b3.block k (Nat.lt_of_lt_of_le hk b1.size)⟩⟩
end Go.Proofs.Ytjlcebgfknfelaa.Bt

-- PRINTED BY print.sh 35421559b90ae4d0a3588c463048766b98c2df88dd9212a6774a882060cdf62d: not written by this session
namespace Go.Proofs.YtjlcebgfknfelaaW.PrintLast
section
variable {P : Program} {ops : Array Oper} {Q : Exit → Act → World → Prop} {md : Region.Mode} {S : World → Prop} {ds : List Nat} {T : Bool × List (List Nat × List Nat)}
end
end Go.Proofs.YtjlcebgfknfelaaW.PrintLast

-- PRINTED BY print.sh 35421559b90ae4d0a3588c463048766b98c2df88dd9212a6774a882060cdf62d: not written by this session
namespace Go.Proofs.YtjlcebgfknfelaaW.PrintWords
open Go.RowKit
namespace Kd
section
variable {α : Type} {d : Kd α} {W : World} {g n : Nat} {S ok : Nat → Prop} {A : Option Addr} {ad : Addr} {xs : List α}
end
end Kd
end Go.Proofs.YtjlcebgfknfelaaW.PrintWords

-- PRINTED BY print.sh 35421559b90ae4d0a3588c463048766b98c2df88dd9212a6774a882060cdf62d: not written by this session
namespace Go.Proofs.YtjlcebgfknfelaaW.PrintWords
open Go.RowKit
section
variable {w w' u : World} {m B g : Nat} {o : Obj} {row : Option Nat} {S : Nat → Prop} {a : Addr} {v : Value}
end
namespace Kd
section
variable {α : Type} {d : Kd α} {e base n m : Nat} {ok : Nat → Prop} {w w' : World} {v : Value} {A : Option Addr} {xs : List α}
end
end Kd
end Go.Proofs.YtjlcebgfknfelaaW.PrintWords

-- PRINTED BY print.sh 35421559b90ae4d0a3588c463048766b98c2df88dd9212a6774a882060cdf62d: not written by this session
namespace Go.Proofs.YtjlcebgfknfelaaW.PrintWords
open Go.RowKit
section
variable {P : Program} {d : Nat} {xs ys : Array Value} {f : Field} {fs : List Field} {a b : Value} {r s : Bool} {w : World}
end
end Go.Proofs.YtjlcebgfknfelaaW.PrintWords

-- PRINTED BY print.sh 35421559b90ae4d0a3588c463048766b98c2df88dd9212a6774a882060cdf62d: not written by this session
namespace Go.Proofs.YtjlcebgfknfelaaW.PrintWords
/-- More cells an element: told apart by the cells' list. -/
theorem Reps.front {α : Type} {R : α → List Value → Prop} {size : Nat} {ps : List α} {cs c all : List Value} {p : α} (hp : R p c) (hc : c.length = size) (h : Reps R size ps cs) (ha : c ++ cs = all) : Reps R size (p :: ps) all := by
  subst ha
  refine ⟨by rw [List.length_append, hc, h.1, List.length_cons, Nat.succ_mul, Nat.add_comm], fun j q hq => ?_⟩
  cases j with
  | zero =>
    simp only [List.getElem?_cons_zero, Option.some.injEq] at hq
    subst hq
    rw [Nat.zero_mul, List.drop_zero, List.take_append_of_le_length (by omega), List.take_of_length_le (by omega)]
    exact hp
  | succ j =>
    simp only [List.getElem?_cons_succ] at hq
    have h1 := h.2 j q hq
    rw [Nat.succ_mul, List.drop_append, List.drop_of_length_le (by rw [hc]; exact Nat.le_add_left _ _), List.nil_append, hc, Nat.add_sub_cancel]
    exact h1
theorem Reps.c2 {α : Type} {R : α → List Value → Prop} {ps : List α} {cs : List Value} {p : α} {va vb : Value} (hp : R p [va, vb]) (h : Reps R 2 ps cs) : Reps R 2 (p :: ps) (va :: vb :: cs) := Reps.front hp rfl h rfl
theorem Reps.c3 {α : Type} {R : α → List Value → Prop} {ps : List α} {cs : List Value} {p : α} {va vb vc : Value} (hp : R p [va, vb, vc]) (h : Reps R 3 ps cs) : Reps R 3 (p :: ps) (va :: vb :: vc :: cs) := Reps.front hp rfl h rfl
theorem Reps.c4 {α : Type} {R : α → List Value → Prop} {ps : List α} {cs : List Value} {p : α} {va vb vc vd : Value} (hp : R p [va, vb, vc, vd]) (h : Reps R 4 ps cs) : Reps R 4 (p :: ps) (va :: vb :: vc :: vd :: cs) := Reps.front hp rfl h rfl
theorem Reps.c5 {α : Type} {R : α → List Value → Prop} {ps : List α} {cs : List Value} {p : α} {va vb vc vd ve : Value} (hp : R p [va, vb, vc, vd, ve]) (h : Reps R 5 ps cs) : Reps R 5 (p :: ps) (va :: vb :: vc :: vd :: ve :: cs) := Reps.front hp rfl h rfl
theorem Reps.c6 {α : Type} {R : α → List Value → Prop} {ps : List α} {cs : List Value} {p : α} {va vb vc vd ve vf : Value} (hp : R p [va, vb, vc, vd, ve, vf]) (h : Reps R 6 ps cs) : Reps R 6 (p :: ps) (va :: vb :: vc :: vd :: ve :: vf :: cs) := Reps.front hp rfl h rfl
theorem Reps.c7 {α : Type} {R : α → List Value → Prop} {ps : List α} {cs : List Value} {p : α} {va vb vc vd ve vf vg : Value} (hp : R p [va, vb, vc, vd, ve, vf, vg]) (h : Reps R 7 ps cs) : Reps R 7 (p :: ps) (va :: vb :: vc :: vd :: ve :: vf :: vg :: cs) := Reps.front hp rfl h rfl
theorem Reps.c8 {α : Type} {R : α → List Value → Prop} {ps : List α} {cs : List Value} {p : α} {va vb vc vd ve vf vg vh : Value} (hp : R p [va, vb, vc, vd, ve, vf, vg, vh]) (h : Reps R 8 ps cs) : Reps R 8 (p :: ps) (va :: vb :: vc :: vd :: ve :: vf :: vg :: vh :: cs) := Reps.front hp rfl h rfl
theorem Reps.c9 {α : Type} {R : α → List Value → Prop} {ps : List α} {cs : List Value} {p : α} {va vb vc vd ve vf vg vh vi : Value} (hp : R p [va, vb, vc, vd, ve, vf, vg, vh, vi]) (h : Reps R 9 ps cs) : Reps R 9 (p :: ps) (va :: vb :: vc :: vd :: ve :: vf :: vg :: vh :: vi :: cs) := Reps.front hp rfl h rfl
theorem Reps.c10 {α : Type} {R : α → List Value → Prop} {ps : List α} {cs : List Value} {p : α} {va vb vc vd ve vf vg vh vi vj : Value} (hp : R p [va, vb, vc, vd, ve, vf, vg, vh, vi, vj]) (h : Reps R 10 ps cs) : Reps R 10 (p :: ps) (va :: vb :: vc :: vd :: ve :: vf :: vg :: vh :: vi :: vj :: cs) := Reps.front hp rfl h rfl
end Go.Proofs.YtjlcebgfknfelaaW.PrintWords

-- PRINTED BY print.sh 35421559b90ae4d0a3588c463048766b98c2df88dd9212a6774a882060cdf62d: not written by this session
namespace Go.Proofs.YtjlcebgfknfelaaW.PrintLast
section
variable {P : Program} {ops : Array Oper} {Q : Exit → Act → World → Prop} {md : Region.Mode} {T : Bool × List (List Nat × List Nat)} {B : List Nat} {O : List Nat} {b : Nat → Bool} {i j n : Nat}
end
end Go.Proofs.YtjlcebgfknfelaaW.PrintLast

-- PRINTED BY print.sh 35421559b90ae4d0a3588c463048766b98c2df88dd9212a6774a882060cdf62d: not written by this session
namespace Go.Proofs.YtjlcebgfknfelaaW.PrintWords
open Go.RowKit
end Go.Proofs.YtjlcebgfknfelaaW.PrintWords
namespace Go.Proofs.YtjlcebgfknfelaaW.PrintLast
section
variable {ops : Array Oper} {a : Act} {o og : Oper} {g : Nat} {t : Tmp} {u : Bool}
end
end Go.Proofs.YtjlcebgfknfelaaW.PrintLast

-- PRINTED BY print.sh 35421559b90ae4d0a3588c463048766b98c2df88dd9212a6774a882060cdf62d: not written by this session
namespace Go.Proofs.YtjlcebgfknfelaaW.PrintWords
open Go.RowKit
section
variable {P : Program} {ops : Array Oper} {rest : List Oper} {o : Oper} {a : Act} {Q : Exit → Act → World → Prop} {W : World}
/-- The gate takes the guard off (hw: 'by rfl', 'by kernel_rfl': the guard's slot holds what is wanted). -/
theorem gate_guard (hw : Region.wanted o (yielded ops a.tmps) = true) (h : wpList P ops Q ({ o with guard := none } :: rest) a W) : wpList P ops Q (o :: rest) a W := by
  have h1 : Region.wanted { o with guard := none } (yielded ops a.tmps) = true := rfl
  unfold wpList at h ⊢
  rw [if_pos h1] at h
  rw [if_pos hw]
  exact h
end
end Go.Proofs.YtjlcebgfknfelaaW.PrintWords

namespace Go.Proofs.Ytjlcebgfknfelaa.QFnTreesAgree
open Go.RowKit Go.Proofs.YtjlcebgfknfelaaW.PrintWords Go.Proofs.YtjlcebgfknfelaaW.PrintLast Go.Proofs.YtjlcebgfknfelaaW.PrintMore
attribute [local go_sem] max2_int min2_int max_two min_two max_three min_three max_four min_four   -- for this text's walks alone
set_option linter.unusedVariables false
set_option linter.unusedSimpArgs false
def errW : Option Int → Value
  | none => .nilIface
  | some c => .iface 0 (.int .i64 c)
theorem errW_none : errW none = .nilIface := rfl
theorem errW_some (c : Int) : errW (some c) = .iface 0 (.int .i64 c) := rfl
structure S46 where
  f0 : Int
  f1 : Bool
  f2 : (List Int)
  f3 : (List Int)
def z46 : S46 := ⟨(0 : Int), false, ([] : List Int), ([] : List Int)⟩
def k46 : Kd S46 := Kd.iso (Kd.pair (Kd.int .i64) (Kd.pair Kd.bool (Kd.pair (Kd.slice 3 (Kd.int .i64)) (Kd.slice 3 (Kd.int .i64))))) (fun x : S46 => (x.f0, x.f1, x.f2, x.f3))
theorem k46_open {w : World} {x : S46} {cs : List Value} (h : k46.K w x cs) : ∃ A2 c2 A3 c3, cs = [.int .i64 x.f0, .bool x.f1, .slice A2 x.f2.length c2, .slice A3 x.f3.length c3] ∧ x.f2.length ≤ c2 ∧ (Kd.int .i64).C w A2 x.f2.length x.f2 ∧ x.f3.length ≤ c3 ∧ (Kd.int .i64).C w A3 x.f3.length x.f3 := by
  obtain ⟨_, _, rfl, rfl, ⟨_, _, rfl, rfl, ⟨_, _, rfl, ⟨A2, c2, rfl, l2, g2⟩, ⟨A3, c3, rfl, l3, g3⟩⟩⟩⟩ := h
  exact ⟨A2, c2, A3, c3, rfl, l2, g2, l3, g3⟩
theorem k46_openF {W : World} {ok : Nat → Prop} {x : S46} {cs : List Value} (h : Kd.FK k46 W ok x cs) : ∃ A2 c2 A3 c3, cs = [.int .i64 x.f0, .bool x.f1, .slice A2 x.f2.length c2, .slice A3 x.f3.length c3] ∧ x.f2.length ≤ c2 ∧ Kd.F (Kd.int .i64) W ok A2 x.f2.length x.f2 ∧ x.f3.length ≤ c3 ∧ Kd.F (Kd.int .i64) W ok A3 x.f3.length x.f3 := by
  obtain ⟨A2, c2, A3, c3, rfl, l2, _, l3, _⟩ := k46_open (Kd.FK_now h)
  exact ⟨A2, c2, A3, c3, rfl, l2, (fun W' hW => by obtain ⟨A2_, c2_, A3_, c3_, he, l2_, g2_, l3_, g3_⟩ := k46_open (h W' hW); injection (Option.some.inj (show some (Value.slice A2 x.f2.length c2) = some (Value.slice A2_ x.f2.length c2_) from congrArg (fun l => l[2]?) he)) with ha_ _ _; rw [ha_]; exact g2_), l3, (fun W' hW => by obtain ⟨A2_, c2_, A3_, c3_, he, l2_, g2_, l3_, g3_⟩ := k46_open (h W' hW); injection (Option.some.inj (show some (Value.slice A3 x.f3.length c3) = some (Value.slice A3_ x.f3.length c3_) from congrArg (fun l => l[3]?) he)) with ha_ _ _; rw [ha_]; exact g3_)⟩
def rd_T46 (xs : List S46) (i : Int) : S46 := xs.getD i.toNat z46
theorem at_T46 {w : World} {A : Option Addr} {n : Nat} {xs : List S46} (h : Kd.C k46 w A n xs) (i : Int) (h0 : 0 ≤ i) (h1 : i < n) : ∃ ad A2 c2 A3 c3, A = some ad ∧ w.cell? (ad.add (i.toNat * 4)) = some (.int .i64 (rd_T46 xs i).f0) ∧ w.cell? ⟨(ad.add (i.toNat * 4)).block, (ad.add (i.toNat * 4)).off + 1, none⟩ = some (.bool (rd_T46 xs i).f1) ∧ w.cell? ⟨(ad.add (i.toNat * 4)).block, (ad.add (i.toNat * 4)).off + 2, none⟩ = some (.slice A2 (rd_T46 xs i).f2.length c2) ∧ w.cell? ⟨(ad.add (i.toNat * 4)).block, (ad.add (i.toNat * 4)).off + 3, none⟩ = some (.slice A3 (rd_T46 xs i).f3.length c3) ∧ (rd_T46 xs i).f2.length ≤ c2 ∧ (Kd.int .i64).C w A2 (rd_T46 xs i).f2.length (rd_T46 xs i).f2 ∧ (rd_T46 xs i).f3.length ≤ c3 ∧ (Kd.int .i64).C w A3 (rd_T46 xs i).f3.length (rd_T46 xs i).f3 := by
  obtain ⟨ad, c, e, _, hK, hc0⟩ := Kd.C_get h z46 i h0 h1
  have hc : ∀ j u, c[j]? = some u → w.cell? (ad.add (i.toNat * 4 + j)) = some u := hc0
  obtain ⟨A2, c2, A3, c3, rfl, l2, g2, l3, g3⟩ := k46_open hK
  exact ⟨ad, A2, c2, A3, c3, e, hc 0 _ rfl, by rw [← add_field _ _ 1 (by omega)]; exact hc 1 _ rfl, by rw [← add_field _ _ 2 (by omega)]; exact hc 2 _ rfl, by rw [← add_field _ _ 3 (by omega)]; exact hc 3 _ rfl, l2, g2, l3, g3⟩
structure S66 where
  f0 : Int
  f1 : Int
  f2 : Int
def z66 : S66 := ⟨(0 : Int), (0 : Int), (0 : Int)⟩
def k66 : Kd S66 := Kd.iso (Kd.pair (Kd.int .i64) (Kd.pair (Kd.int .i64) (Kd.int .i64))) (fun x : S66 => (x.f0, x.f1, x.f2))
theorem k66_open {w : World} {x : S66} {cs : List Value} (h : k66.K w x cs) : cs = [.int .i64 x.f0, .int .i64 x.f1, .int .i64 x.f2] := by
  obtain ⟨_, _, rfl, rfl, ⟨_, _, rfl, rfl, rfl⟩⟩ := h
  exact rfl
theorem k66_mkM (w : World) (base : Nat) (ok : Nat → Prop) (x : S66)  : k66.M w base ok x [.int .i64 x.f0, .int .i64 x.f1, .int .i64 x.f2] := ⟨[.int .i64 x.f0], [.int .i64 x.f1, .int .i64 x.f2], rfl, rfl, ⟨[.int .i64 x.f1], [.int .i64 x.f2], rfl, rfl, rfl⟩⟩
def rd_T66 (xs : List S66) (i : Int) : S66 := xs.getD i.toNat z66
theorem at_T66 {w : World} {A : Option Addr} {n : Nat} {xs : List S66} (h : Kd.C k66 w A n xs) (i : Int) (h0 : 0 ≤ i) (h1 : i < n) : ∃ ad , A = some ad ∧ w.cell? (ad.add (i.toNat * 3)) = some (.int .i64 (rd_T66 xs i).f0) ∧ w.cell? ⟨(ad.add (i.toNat * 3)).block, (ad.add (i.toNat * 3)).off + 1, none⟩ = some (.int .i64 (rd_T66 xs i).f1) ∧ w.cell? ⟨(ad.add (i.toNat * 3)).block, (ad.add (i.toNat * 3)).off + 2, none⟩ = some (.int .i64 (rd_T66 xs i).f2) := by
  obtain ⟨ad, c, e, _, hK, hc0⟩ := Kd.C_get h z66 i h0 h1
  have hc : ∀ j u, c[j]? = some u → w.cell? (ad.add (i.toNat * 3 + j)) = some u := hc0
  obtain rfl := k66_open hK
  exact ⟨ad, e, hc 0 _ rfl, by rw [← add_field _ _ 1 (by omega)]; exact hc 1 _ rfl, by rw [← add_field _ _ 2 (by omega)]; exact hc 2 _ rfl⟩
end Go.Proofs.Ytjlcebgfknfelaa.QFnTreesAgree

namespace Go.Proofs.Ytjlcebgfknfelaa.QFnTreesAgree
open Go.RowKit Go.Proofs.YtjlcebgfknfelaaW.PrintWords Go.Proofs.YtjlcebgfknfelaaW.PrintLast Go.Proofs.YtjlcebgfknfelaaW.PrintMore
attribute [local go_sem] max2_int min2_int max_two min_two max_three min_three max_four min_four   -- for this text's walks alone
set_option linter.unusedVariables false
set_option linter.unusedSimpArgs false
-- NOT PRINTED: function 81 (avl_node_int_int_getHeight)
def told_of (p : Avl.Told4) : S46 := ⟨p.1, p.2.1, p.2.2.1, p.2.2.2⟩
def impl_AvlRun.f (l0 : List Int) (l1 : List (S66)) : Option (List (S46)) :=
  if l0.length ≤ 2147483647 then (if l1.length ≤ 2147483647 then some ((Avl.toldT l0 .nil (l1.map fun x => (x.f0, x.f1, x.f2))).map told_of) else none) else none
theorem impl_AvlRun.calls (A0 : Option Addr) (c0 : Nat) (l0 : List Int) (A1 : Option Addr) (c1 : Nat) (l1 : List (S66)) (r : List (S46)) (w : World) (hr0 : Kd.C (Kd.int .i64) w A0 l0.length l0) (hc0 : l0.length ≤ c0) (hr1 : Kd.C k66 w A1 l1.length l1) (hc1 : l1.length ≤ c1) (h : impl_AvlRun.f l0 l1 = some r) :
    Calls Try.prog 23 #[.slice A0 l0.length c0, .slice A1 l1.length c1] w fun e w' => ∃ v0_ : Value, e = .returned (v0_) ∧ Kd.S k46 46 w' w.heap.size (fun _ => True) v0_ r ∧ Below w.heap.size w w' := by
  unfold impl_AvlRun.f at h
  by_cases q1 : l0.length ≤ 2147483647
  · rw [if_pos q1] at h
    by_cases q2 : l1.length ≤ 2147483647
    · rw [if_pos q2] at h
      obtain rfl := Option.some.inj h
      have hC := Row.C_iso hr1
      have hl : (l1.map fun x : S66 => (x.f0, x.f1, x.f2)).length = l1.length := List.length_map ..
      have H := Avl.AvlRun_any A0 c0 l0 A1 c1 (l1.map fun x : S66 => (x.f0, x.f1, x.f2)) w hr0 q1 (by rw [hl]; exact hC) (by rw [hl]; exact q2)
      rw [hl] at H
      refine H.mono ?_
      rintro e w' ⟨v, he, hS, hB⟩
      refine ⟨v, he, Row.S_iso ?_, hB⟩
      rw [List.map_map, show ((fun x : S46 => (x.f0, x.f1, x.f2, x.f3)) ∘ told_of) = id from rfl, List.map_id]
      exact hS
    · rw [if_neg q2] at h; cases h
  · rw [if_neg q1] at h; cases h
def spec_Same.l0 : Nat → List Int → List Int → Int → Option (Bool)
  | 0, _, _, _ => none
  | k + 1, x0, x1, x5 => if x5 < (x0.length : Int) then (if 0 ≤ x5 then (if x5 < (x1.length : Int) then (if (rd x0 x5) = (rd x1 x5) then (spec_Same.l0 k x0 x1 (wrap64 (x5 + 1))) else (some false)) else (none)) else (none)) else (some true)
def spec_Same.f (k : Nat) (l0 : List Int) (l1 : List Int) : Option (Bool) := if (l0.length : Int) = (l1.length : Int) then (spec_Same.l0 k l0 l1 0) else (some false)
set_option maxHeartbeats 8000000 in
set_option maxRecDepth 100000 in
theorem spec_Same.calls (k : Nat) (A0 : Option Addr) (c0 : Nat) (l0 : List Int) (A1 : Option Addr) (c1 : Nat) (l1 : List Int) (r : Bool) (w : World) (hr0 : Kd.C (Kd.int .i64) w A0 l0.length l0) (hc0 : l0.length ≤ c0) (hr1 : Kd.C (Kd.int .i64) w A1 l1.length l1) (hc1 : l1.length ≤ c1) (h : spec_Same.f k l0 l1 = some r) :
    Calls Try.prog 18 #[.slice A0 l0.length c0, .slice A1 l1.length c1] w fun e w' => e = .returned (.bool r) ∧ Drawn0 w w' := by
  have HR0 := Aside0.mk hr0
  have HC0 := Aside0.mk hc0
  clear hr0 hc0
  have HR1 := Aside0.mk hr1
  have HC1 := Aside0.mk hc1
  clear hr1 hc1
  have H : (if (l0.length : Int) = (l1.length : Int) then (spec_Same.l0 k l0 l1 0) else (some false)) = some r := h
  clear h
  by_cases c3 : (l0.length : Int) = (l1.length : Int)
  · rw [if_pos c3] at H
    have c3b0 : ((l0.length : Int) == (l1.length : Int)) = true := beq_iff_eq.mpr c3
    have c3b1 : ((l0.length : Int) != (l1.length : Int)) = false := bne_eq_false_iff_eq.mpr c3
    have c3b2 : (l0.length == l1.length) = true := by first | simpa using c3 | (simp at c3 ⊢; omega)
    clear c3
    have H' := Aside0.mk H
    clear H
    go_enter Try.func18, Try.ntmps18
    go_wp2
    repeat (go_quiet (fail); try go_wp2)
    go_loopg [5] k (fun kq v5 w' => ∃ (x5_1 : Int), v5 = .int .i64 x5_1 ∧ Aside0 (spec_Same.l0 kq l0 l1 x5_1 = some r) ∧ Aside0 (kq ≤ k) ∧ Drawn0 w w')
    case atStart => exact ⟨(0), (by first | rfl | (simp; done) | (simp [*]; done)), H', ⟨Nat.le_refl _⟩, by repeat (first | exact Drawn0.refl _ | apply Drawn0.step)⟩
    case round =>
      clear H'
      try clear c1
      try clear p2
      try clear c3
      try clear c3b0
      try clear c3b1
      try clear c3b2
      obtain ⟨x5_1, rfl, HA, HK1, ⟨m1, rfl⟩⟩ := hrel
      cases gk with
      | zero => exact absurd HA.out (by simp [spec_Same.l0])
      | succ k1 =>
        have H := HA.out
        clear HA
        simp only [spec_Same.l0] at H
        by_cases c4 : x5_1 < (l0.length : Int)
        · rw [if_pos c4] at H
          have c4b0 : decide (x5_1 < (l0.length : Int)) = true := decide_eq_true c4
          clear c4
          by_cases c5 : 0 ≤ x5_1
          · rw [if_pos c5] at H
            have c5b0 : decide (0 ≤ x5_1) = true := decide_eq_true c5
            clear c5
            by_cases c6 : x5_1 < (l1.length : Int)
            · rw [if_pos c6] at H
              have c6b0 : decide (x5_1 < (l1.length : Int)) = true := decide_eq_true c6
              clear c6
              by_cases c7 : (rd l0 x5_1) = (rd l1 x5_1)
              · rw [if_pos c7] at H
                have c7b0 : ((rd l0 x5_1) == (rd l1 x5_1)) = true := beq_iff_eq.mpr c7
                have c7b1 : ((rd l0 x5_1) != (rd l1 x5_1)) = false := bne_eq_false_iff_eq.mpr c7
                clear c7
                have H' := Aside0.mk H
                clear H
                have p104 : 0 ≤ (x5_1 : Int) := of_decide_eq_true (by first | (with_reducible assumption) | assumption)
                have q104 : x5_1 < (l0.length : Int) := of_decide_eq_true (by first | (with_reducible assumption) | assumption)
                obtain ⟨ad104, e104, hx104_0⟩ := Kd.at_int HR0.out x5_1 p104 q104
                cases e104
                replace p104 := eq_true p104
                replace q104 := eq_true q104
                have p105 : 0 ≤ (x5_1 : Int) := of_decide_eq_true (by first | (with_reducible assumption) | assumption)
                have q105 : x5_1 < (l1.length : Int) := of_decide_eq_true (by first | (with_reducible assumption) | assumption)
                obtain ⟨ad105, e105, hx105_0⟩ := Kd.at_int HR1.out x5_1 p105 q105
                cases e105
                replace p105 := eq_true p105
                replace q105 := eq_true q105
                go_wp2
                repeat (go_quiet (fail); try go_wp2)
                go_roundg k1
                case measure => have := HK1.out; omega
                case rel => exact ⟨(wrap64 (x5_1 + 1)), (by first | rfl | (simp; done) | (simp [*]; done)), H', ⟨by have := HK1.out; omega⟩, by repeat (first | exact Drawn0.refl _ | apply Drawn0.step)⟩
              · rw [if_neg c7] at H
                have c7b0 : ((rd l0 x5_1) == (rd l1 x5_1)) = false := beq_eq_false_iff_ne.mpr c7
                have c7b1 : ((rd l0 x5_1) != (rd l1 x5_1)) = true := bne_iff_ne.mpr c7
                obtain rfl := Option.some.inj H
                have p104 : 0 ≤ (x5_1 : Int) := of_decide_eq_true (by first | (with_reducible assumption) | assumption)
                have q104 : x5_1 < (l0.length : Int) := of_decide_eq_true (by first | (with_reducible assumption) | assumption)
                obtain ⟨ad104, e104, hx104_0⟩ := Kd.at_int HR0.out x5_1 p104 q104
                cases e104
                replace p104 := eq_true p104
                replace q104 := eq_true q104
                have p105 : 0 ≤ (x5_1 : Int) := of_decide_eq_true (by first | (with_reducible assumption) | assumption)
                have q105 : x5_1 < (l1.length : Int) := of_decide_eq_true (by first | (with_reducible assumption) | assumption)
                obtain ⟨ad105, e105, hx105_0⟩ := Kd.at_int HR1.out x5_1 p105 q105
                cases e105
                replace p105 := eq_true p105
                replace q105 := eq_true q105
                go_wp2
                repeat (go_quiet (fail); try go_wp2)
                go_ret
                exact ⟨by first | rfl | (simp; done) | (simp [*]; done), by repeat (first | exact Drawn0.refl _ | apply Drawn0.step)⟩
            · rw [if_neg c6] at H
              exact absurd H (by simp)
          · rw [if_neg c5] at H
            exact absurd H (by simp)
        · rw [if_neg c4] at H
          have c4b0 : decide (x5_1 < (l0.length : Int)) = false := decide_eq_false c4
          clear c4
          obtain rfl := Option.some.inj H
          go_wp2
          repeat (go_quiet (fail); try go_wp2)
          go_ret
          exact ⟨by first | rfl | (simp; done) | (simp [*]; done), by repeat (first | exact Drawn0.refl _ | apply Drawn0.step)⟩
  · rw [if_neg c3] at H
    have c3b0 : ((l0.length : Int) == (l1.length : Int)) = false := beq_eq_false_iff_ne.mpr c3
    have c3b1 : ((l0.length : Int) != (l1.length : Int)) = true := bne_iff_ne.mpr c3
    have c3b2 : (l0.length == l1.length) = false := by first | simpa using c3 | (simp at c3 ⊢; omega)
    obtain rfl := Option.some.inj H
    go_enter Try.func18, Try.ntmps18
    go_wp2
    repeat (go_quiet (fail); try go_wp2)
    go_ret
    exact ⟨by first | rfl | (simp; done) | (simp [*]; done), by repeat (first | exact Drawn0.refl _ | apply Drawn0.step)⟩
def spec_Rank.f (l0 : List Int) (a1 : Int) : Option (Int) := if (l0.length : Int) = 0 then (some a1) else (if 0 ≤ (Int.tmod (wrap64 ((Int.tmod a1 (l0.length : Int)) + (l0.length : Int))) (l0.length : Int)) then (if (Int.tmod (wrap64 ((Int.tmod a1 (l0.length : Int)) + (l0.length : Int))) (l0.length : Int)) < (l0.length : Int) then (some (rd l0 (Int.tmod (wrap64 ((Int.tmod a1 (l0.length : Int)) + (l0.length : Int))) (l0.length : Int)))) else (none)) else (none))
set_option maxHeartbeats 8000000 in
set_option maxRecDepth 100000 in
theorem spec_Rank.calls (A0 : Option Addr) (c0 : Nat) (l0 : List Int) (a1 : Int) (r : Int) (w : World) (hr0 : Kd.C (Kd.int .i64) w A0 l0.length l0) (hc0 : l0.length ≤ c0) (h : spec_Rank.f l0 a1 = some r) :
    Calls Try.prog 50 #[.slice A0 l0.length c0, .int .i64 a1] w fun e w' => e = .returned (.int .i64 r) ∧ Drawn0 w w' := by
  have HR0 := Aside0.mk hr0
  have HC0 := Aside0.mk hc0
  clear hr0 hc0
  have H : (if (l0.length : Int) = 0 then (some a1) else (if 0 ≤ (Int.tmod (wrap64 ((Int.tmod a1 (l0.length : Int)) + (l0.length : Int))) (l0.length : Int)) then (if (Int.tmod (wrap64 ((Int.tmod a1 (l0.length : Int)) + (l0.length : Int))) (l0.length : Int)) < (l0.length : Int) then (some (rd l0 (Int.tmod (wrap64 ((Int.tmod a1 (l0.length : Int)) + (l0.length : Int))) (l0.length : Int)))) else (none)) else (none))) = some r := h
  clear h
  by_cases c3 : (l0.length : Int) = 0
  · rw [if_pos c3] at H
    have c3b0 : ((l0.length : Int) == 0) = true := beq_iff_eq.mpr c3
    have c3b1 : ((l0.length : Int) != 0) = false := bne_eq_false_iff_eq.mpr c3
    clear c3
    obtain rfl := Option.some.inj H
    go_enter Try.func50, Try.ntmps50
    go_wp2
    go_ret
    exact ⟨by first | rfl | (simp; done) | (simp [*]; done), by repeat (first | exact Drawn0.refl _ | apply Drawn0.step)⟩
  · rw [if_neg c3] at H
    have c3b0 : ((l0.length : Int) == 0) = false := beq_eq_false_iff_ne.mpr c3
    have c3b1 : ((l0.length : Int) != 0) = true := bne_iff_ne.mpr c3
    have c3b2 : ¬ (l0 = []) := fun h_ => c3 (by rw [h_]; rfl)
    obtain ⟨ji4, hji4⟩ : ∃ j_ : Int, (Int.tmod (wrap64 ((Int.tmod a1 (l0.length : Int)) + (l0.length : Int))) (l0.length : Int)) = j_ := ⟨_, rfl⟩
    replace H : (if 0 ≤ (ji4) then (if (ji4) < (l0.length : Int) then (some (rd l0 (ji4))) else (none)) else (none)) = some r := by first | (rw [hji4] at H; exact H) | (simp only [hji4] at H ⊢; exact H)
    by_cases c5 : 0 ≤ (ji4)
    · rw [if_pos c5] at H
      have c5b0 : decide (0 ≤ (ji4)) = true := decide_eq_true c5
      clear c5
      by_cases c6 : (ji4) < (l0.length : Int)
      · rw [if_pos c6] at H
        have c6b0 : decide ((ji4) < (l0.length : Int)) = true := decide_eq_true c6
        clear c6
        obtain rfl := Option.some.inj H
        have p106 : 0 ≤ ((ji4) : Int) := of_decide_eq_true (by first | (with_reducible assumption) | assumption)
        have q106 : (ji4) < (l0.length : Int) := of_decide_eq_true (by first | (with_reducible assumption) | assumption)
        obtain ⟨ad106, e106, hx106_0⟩ := Kd.at_int HR0.out (ji4) p106 q106
        cases e106
        replace p106 := eq_true p106
        replace q106 := eq_true q106
        go_enter Try.func50, Try.ntmps50
        go_wp2
        go_ret
        exact ⟨by first | rfl | (simp; done) | (simp only [← hji4] <;> (first | rfl | simp)) | (simp [*]; done), by repeat (first | exact Drawn0.refl _ | apply Drawn0.step)⟩
      · rw [if_neg c6] at H
        exact absurd H (by simp)
    · rw [if_neg c5] at H
      exact absurd H (by simp)
def spec_Alike.f (l0 : List Int) (a1 : Int) (a2 : Int) : Option (Bool) := (spec_Rank.f l0 a1).bind fun t107 => ((spec_Rank.f l0 a2).bind fun t108 => (some (t107 == t108)))
set_option maxHeartbeats 8000000 in
set_option maxRecDepth 100000 in
theorem spec_Alike.calls (A0 : Option Addr) (c0 : Nat) (l0 : List Int) (a1 : Int) (a2 : Int) (r : Bool) (w : World) (hr0 : Kd.C (Kd.int .i64) w A0 l0.length l0) (hc0 : l0.length ≤ c0) (h : spec_Alike.f l0 a1 a2 = some r) :
    Calls Try.prog 37 #[.slice A0 l0.length c0, .int .i64 a1, .int .i64 a2] w fun e w' => e = .returned (.bool r) ∧ Drawn0 w w' := by
  have HR0 := Aside0.mk hr0
  have HC0 := Aside0.mk hc0
  clear hr0 hc0
  have H : ((spec_Rank.f l0 a1).bind fun t107 => ((spec_Rank.f l0 a2).bind fun t108 => (some (t107 == t108)))) = some r := h
  clear h
  replace H := Option.bind_eq_some_iff.mp H
  obtain ⟨t107, A40, H⟩ := H
  replace H : ((spec_Rank.f l0 a2).bind fun t108 => (some (t107 == t108))) = some r := H
  have A4 := Aside0.mk A40
  clear A40
  replace H := Option.bind_eq_some_iff.mp H
  obtain ⟨t108, A50, H⟩ := H
  replace H : (some (t107 == t108)) = some r := H
  have A5 := Aside0.mk A50
  clear A50
  obtain rfl := Option.some.inj H
  go_enter Try.func37, Try.ntmps37
  go_wp2_with (first | ((with_reducible refine gate_callee (f := 50) rfl ?_); refine goesL_ (some 9) rfl rfl Try.func50 (by kernel_rfl) rfl #[.slice A0 l0.length c0, .int .i64 a1] rfl (by (try simp only [List.map_toArray, List.map_cons, List.map_nil]); first | done | rfl | (simp only [List.length_drop, List.length_take]; rfl)) ?_; (with_reducible refine (spec_Rank.calls _ _ l0 a1 t107 _ ?side1 ?side2 A4.out).mono ?_); (case side1 => repeat (first | exact HR0.out | (with_reducible refine Kd.C_alloc ?_ _) | (with_reducible refine Kd.C_drewN ?_ _) | (with_reducible refine Kd.C_drew ?_))); (case side2 => exact HC0.out); rintro e w' ⟨rfl, ⟨nd, rfl⟩⟩; refine ⟨_, rfl, ?_⟩) | ((with_reducible refine gate_callee (f := 50) rfl ?_); refine goesL_ (some 12) rfl rfl Try.func50 (by kernel_rfl) rfl #[.slice A0 l0.length c0, .int .i64 a2] rfl (by (try simp only [List.map_toArray, List.map_cons, List.map_nil]); first | done | rfl | (simp only [List.length_drop, List.length_take]; rfl)) ?_; (with_reducible refine (spec_Rank.calls _ _ l0 a2 t108 _ ?side1 ?side2 A5.out).mono ?_); (case side1 => repeat (first | exact HR0.out | (with_reducible refine Kd.C_alloc ?_ _) | (with_reducible refine Kd.C_drewN ?_ _) | (with_reducible refine Kd.C_drew ?_))); (case side2 => exact HC0.out); rintro e w' ⟨rfl, ⟨nd, rfl⟩⟩; refine ⟨_, rfl, ?_⟩))
  go_ret
  exact ⟨by first | rfl | (simp; done) | (simp [*]; done), by repeat (first | exact Drawn0.refl _ | apply Drawn0.step)⟩
mutual
def spec_SameTold.j0 : Nat → List Int → Int → Bool → Int → Bool → List Int → List Int → Int → Bool → List Int → List Int → Option (Bool)
  | 0, _, _, _, _, _, _, _, _, _, _, _ => none
  | k + 1, x0, x1, x31, x110000, x110001, x110002, x110003, x111000, x111001, x111002, x111003 => if x31 = true then (some false) else (spec_SameTold.l0 k x0 x1 0 x110000 x110001 x110002 x110003 x111000 x111001 x111002 x111003)
def spec_SameTold.l0 : Nat → List Int → Int → Int → Int → Bool → List Int → List Int → Int → Bool → List Int → List Int → Option (Bool)
  | 0, _, _, _, _, _, _, _, _, _, _, _ => none
  | k + 1, x0, x1, x9, x110000, x110001, x110002, x110003, x111000, x111001, x111002, x111003 => if x9 < (x110002.length : Int) then (if 0 ≤ x9 then (if x9 < (x111002.length : Int) then ((spec_Alike.f x0 (rd x110002 x9) (rd x111002 x9)).bind fun t114 => (if t114 = true then (spec_SameTold.l0 k x0 x1 (wrap64 (x9 + 1)) x110000 x110001 x110002 x110003 x111000 x111001 x111002 x111003) else (some false))) else (none)) else (none)) else (if x1 = 2 then (if x110001 = true then (some (x110000 == x111000)) else (some true)) else (some (x110000 == x111000)))
end
def spec_SameTold.f (k : Nat) (l0 : List Int) (a1 : Int) (a2_0 : Int) (a2_1 : Bool) (l2_2 : List Int) (l2_3 : List Int) (a3_0 : Int) (a3_1 : Bool) (l3_2 : List Int) (l3_3 : List Int) : Option (Bool) := if (a2_1 != a3_1) = true then (spec_SameTold.j0 k l0 a1 true a2_0 a2_1 l2_2 l2_3 a3_0 a3_1 l3_2 l3_3) else (if (l2_2.length : Int) = (l3_2.length : Int) then ((spec_Same.f k l2_3 l3_3).bind fun t111 => (spec_SameTold.j0 k l0 a1 (!t111) a2_0 a2_1 l2_2 l2_3 a3_0 a3_1 l3_2 l3_3)) else (spec_SameTold.j0 k l0 a1 true a2_0 a2_1 l2_2 l2_3 a3_0 a3_1 l3_2 l3_3))
set_option maxHeartbeats 8000000 in
set_option maxRecDepth 100000 in
theorem spec_SameTold.calls (k : Nat) (A0 : Option Addr) (c0 : Nat) (l0 : List Int) (a1 : Int) (a2_0 : Int) (a2_1 : Bool) (A2_2 : Option Addr) (c2_2 : Nat) (l2_2 : List Int) (A2_3 : Option Addr) (c2_3 : Nat) (l2_3 : List Int) (a3_0 : Int) (a3_1 : Bool) (A3_2 : Option Addr) (c3_2 : Nat) (l3_2 : List Int) (A3_3 : Option Addr) (c3_3 : Nat) (l3_3 : List Int) (r : Bool) (w : World) (hr0 : Kd.C (Kd.int .i64) w A0 l0.length l0) (hc0 : l0.length ≤ c0) (hr2_2 : Kd.C (Kd.int .i64) w A2_2 l2_2.length l2_2) (hc2_2 : l2_2.length ≤ c2_2) (hr2_3 : Kd.C (Kd.int .i64) w A2_3 l2_3.length l2_3) (hc2_3 : l2_3.length ≤ c2_3) (hr3_2 : Kd.C (Kd.int .i64) w A3_2 l3_2.length l3_2) (hc3_2 : l3_2.length ≤ c3_2) (hr3_3 : Kd.C (Kd.int .i64) w A3_3 l3_3.length l3_3) (hc3_3 : l3_3.length ≤ c3_3) (h : spec_SameTold.f k l0 a1 a2_0 a2_1 l2_2 l2_3 a3_0 a3_1 l3_2 l3_3 = some r) :
    Calls Try.prog 49 #[.slice A0 l0.length c0, .int .i64 a1, .agg #[.int .i64 a2_0, .bool a2_1, .slice A2_2 l2_2.length c2_2, .slice A2_3 l2_3.length c2_3], .agg #[.int .i64 a3_0, .bool a3_1, .slice A3_2 l3_2.length c3_2, .slice A3_3 l3_3.length c3_3]] w fun e w' => e = .returned (.bool r) ∧ Below w.heap.size w w' := by
  have hu46 := Try.underlying46
  have HR0 := Aside0.mk hr0
  have HC0 := Aside0.mk hc0
  clear hr0 hc0
  have HR2_2 := Aside0.mk hr2_2
  have HC2_2 := Aside0.mk hc2_2
  clear hr2_2 hc2_2
  have HR2_3 := Aside0.mk hr2_3
  have HC2_3 := Aside0.mk hc2_3
  clear hr2_3 hc2_3
  have HR3_2 := Aside0.mk hr3_2
  have HC3_2 := Aside0.mk hc3_2
  clear hr3_2 hc3_2
  have HR3_3 := Aside0.mk hr3_3
  have HC3_3 := Aside0.mk hc3_3
  clear hr3_3 hc3_3
  have HB := Aside0.mk (Below.refl w.heap.size w)
  have H : (if (a2_1 != a3_1) = true then (spec_SameTold.j0 k l0 a1 true a2_0 a2_1 l2_2 l2_3 a3_0 a3_1 l3_2 l3_3) else (if (l2_2.length : Int) = (l3_2.length : Int) then ((spec_Same.f k l2_3 l3_3).bind fun t111 => (spec_SameTold.j0 k l0 a1 (!t111) a2_0 a2_1 l2_2 l2_3 a3_0 a3_1 l3_2 l3_3)) else (spec_SameTold.j0 k l0 a1 true a2_0 a2_1 l2_2 l2_3 a3_0 a3_1 l3_2 l3_3))) = some r := h
  clear h
  have HC5 := Aside0.mk H
  clear H
  go_enter Try.func49, Try.ntmps49
  go_upto_region 1 with (first | ((with_reducible refine gate_dst (N := 6) rfl ?_); (try (refine gate_guard (by rfl) ?_; dsimp only)); refine box_event ?hg (N := 6) ?hd (cs := #[.int .i64 a2_0, .bool a2_1, .slice A2_2 l2_2.length c2_2, .slice A2_3 l2_3.length c2_3]) (t := 46) ?hr ?_; (case hd => rfl); (case hg => rfl); (case hr => first | (go_simp; done) | (go_simp; rfl)); intro gb109 hg w6 hbox hb; have n0_ := Aside0.mk (below_step (by repeat (first | (with_reducible first | exact HB.out | apply below_alloc | apply pw_below_drewN | apply below_drew1) | exact HB.out)) hb); have n1_ := Aside0.mk (hbox); have n2_ := Aside0.mk ((by rw [hg]; exact (below_size (by repeat (first | (with_reducible first | exact HB.out | apply below_alloc | apply pw_below_drewN | apply below_drew1) | exact HB.out))) : w.heap.size ≤ gb109)); have n3_ := Aside0.mk ((by rw [hg]; exact (below_size (by repeat (first | (with_reducible first | exact HB.out | apply below_alloc | apply pw_below_drewN | apply below_drew1) | exact HB.out))) : w.heap.size ≤ gb109)); clear HB; have HB := n0_; have BK109 := n1_; have GW109 := n2_; have GE109 := n3_; clear n0_ n1_ n2_ n3_; clear hb hbox hg) | ((with_reducible refine gate_dst (N := 7) rfl ?_); (try (refine gate_guard (by rfl) ?_; dsimp only)); refine box_event ?hg (N := 7) ?hd (cs := #[.int .i64 a3_0, .bool a3_1, .slice A3_2 l3_2.length c3_2, .slice A3_3 l3_3.length c3_3]) (t := 46) ?hr ?_; (case hd => rfl); (case hg => rfl); (case hr => first | (go_simp; done) | (go_simp; rfl)); intro gb110 hg w7 hbox hb; have n0_ := Aside0.mk (blk_below (g := gb109) (o := .cells #[.int .i64 a2_0, .bool a2_1, .slice A2_2 l2_2.length c2_2, .slice A2_3 l2_3.length c2_3] 46 (0, 0)) (by (with_reducible repeat (first | refine blk_drewN ?_ _ | refine blk_drew ?_ | refine blk_alloc ?_ _)); exact BK109.out) hb); have n1_ := Aside0.mk (below_step (by repeat (first | (with_reducible first | exact HB.out | apply below_alloc | apply pw_below_drewN | apply below_drew1 | refine below_set ?_ GE109.out) | exact HB.out)) hb); have n2_ := Aside0.mk (hbox); have n3_ := Aside0.mk ((by rw [hg]; exact (below_size (by repeat (first | (with_reducible first | exact HB.out | apply below_alloc | apply pw_below_drewN | apply below_drew1 | refine below_set ?_ GE109.out) | exact HB.out))) : w.heap.size ≤ gb110)); have n4_ := Aside0.mk ((by rw [hg]; exact (below_size (by repeat (first | (with_reducible first | exact HB.out | apply below_alloc | apply pw_below_drewN | apply below_drew1 | refine below_set ?_ GE109.out) | exact HB.out))) : w.heap.size ≤ gb110)); have n5_ := Aside0.mk ((by rw [hg]; exact Nat.ne_of_lt (blk_lt (g := gb109) (o := .cells #[.int .i64 a2_0, .bool a2_1, .slice A2_2 l2_2.length c2_2, .slice A2_3 l2_3.length c2_3] 46 (0, 0)) (by (with_reducible repeat (first | refine blk_drewN ?_ _ | refine blk_drew ?_ | refine blk_alloc ?_ _)); exact BK109.out)) : gb109 ≠ gb110)); have n6_ := Aside0.mk ((by rw [hg]; exact Nat.ne_of_gt (blk_lt (g := gb109) (o := .cells #[.int .i64 a2_0, .bool a2_1, .slice A2_2 l2_2.length c2_2, .slice A2_3 l2_3.length c2_3] 46 (0, 0)) (by (with_reducible repeat (first | refine blk_drewN ?_ _ | refine blk_drew ?_ | refine blk_alloc ?_ _)); exact BK109.out)) : gb110 ≠ gb109)); clear BK109; clear HB; have BK109 := n0_; have HB := n1_; have BK110 := n2_; have GW110 := n3_; have GE110 := n4_; have NB109_110 := n5_; have NB110_109 := n6_; clear n0_ n1_ n2_ n3_ n4_ n5_ n6_; clear hb hbox hg))
  repeat (go_quiet (first | ((with_reducible refine gate_dst (N := 6) rfl ?_); (try (refine gate_guard (by rfl) ?_; dsimp only)); refine box_event ?hg (N := 6) ?hd (cs := #[.int .i64 a2_0, .bool a2_1, .slice A2_2 l2_2.length c2_2, .slice A2_3 l2_3.length c2_3]) (t := 46) ?hr ?_; (case hd => rfl); (case hg => rfl); (case hr => first | (go_simp; done) | (go_simp; rfl)); intro gb109 hg w6 hbox hb; have n0_ := Aside0.mk (below_step (by repeat (first | (with_reducible first | exact HB.out | apply below_alloc | apply pw_below_drewN | apply below_drew1) | exact HB.out)) hb); have n1_ := Aside0.mk (hbox); have n2_ := Aside0.mk ((by rw [hg]; exact (below_size (by repeat (first | (with_reducible first | exact HB.out | apply below_alloc | apply pw_below_drewN | apply below_drew1) | exact HB.out))) : w.heap.size ≤ gb109)); have n3_ := Aside0.mk ((by rw [hg]; exact (below_size (by repeat (first | (with_reducible first | exact HB.out | apply below_alloc | apply pw_below_drewN | apply below_drew1) | exact HB.out))) : w.heap.size ≤ gb109)); clear HB; have HB := n0_; have BK109 := n1_; have GW109 := n2_; have GE109 := n3_; clear n0_ n1_ n2_ n3_; clear hb hbox hg) | ((with_reducible refine gate_dst (N := 7) rfl ?_); (try (refine gate_guard (by rfl) ?_; dsimp only)); refine box_event ?hg (N := 7) ?hd (cs := #[.int .i64 a3_0, .bool a3_1, .slice A3_2 l3_2.length c3_2, .slice A3_3 l3_3.length c3_3]) (t := 46) ?hr ?_; (case hd => rfl); (case hg => rfl); (case hr => first | (go_simp; done) | (go_simp; rfl)); intro gb110 hg w7 hbox hb; have n0_ := Aside0.mk (blk_below (g := gb109) (o := .cells #[.int .i64 a2_0, .bool a2_1, .slice A2_2 l2_2.length c2_2, .slice A2_3 l2_3.length c2_3] 46 (0, 0)) (by (with_reducible repeat (first | refine blk_drewN ?_ _ | refine blk_drew ?_ | refine blk_alloc ?_ _)); exact BK109.out) hb); have n1_ := Aside0.mk (below_step (by repeat (first | (with_reducible first | exact HB.out | apply below_alloc | apply pw_below_drewN | apply below_drew1 | refine below_set ?_ GE109.out) | exact HB.out)) hb); have n2_ := Aside0.mk (hbox); have n3_ := Aside0.mk ((by rw [hg]; exact (below_size (by repeat (first | (with_reducible first | exact HB.out | apply below_alloc | apply pw_below_drewN | apply below_drew1 | refine below_set ?_ GE109.out) | exact HB.out))) : w.heap.size ≤ gb110)); have n4_ := Aside0.mk ((by rw [hg]; exact (below_size (by repeat (first | (with_reducible first | exact HB.out | apply below_alloc | apply pw_below_drewN | apply below_drew1 | refine below_set ?_ GE109.out) | exact HB.out))) : w.heap.size ≤ gb110)); have n5_ := Aside0.mk ((by rw [hg]; exact Nat.ne_of_lt (blk_lt (g := gb109) (o := .cells #[.int .i64 a2_0, .bool a2_1, .slice A2_2 l2_2.length c2_2, .slice A2_3 l2_3.length c2_3] 46 (0, 0)) (by (with_reducible repeat (first | refine blk_drewN ?_ _ | refine blk_drew ?_ | refine blk_alloc ?_ _)); exact BK109.out)) : gb109 ≠ gb110)); have n6_ := Aside0.mk ((by rw [hg]; exact Nat.ne_of_gt (blk_lt (g := gb109) (o := .cells #[.int .i64 a2_0, .bool a2_1, .slice A2_2 l2_2.length c2_2, .slice A2_3 l2_3.length c2_3] 46 (0, 0)) (by (with_reducible repeat (first | refine blk_drewN ?_ _ | refine blk_drew ?_ | refine blk_alloc ?_ _)); exact BK109.out)) : gb110 ≠ gb109)); clear BK109; clear HB; have BK109 := n0_; have HB := n1_; have BK110 := n2_; have GW110 := n3_; have GE110 := n4_; have NB109_110 := n5_; have NB110_109 := n6_; clear n0_ n1_ n2_ n3_ n4_ n5_ n6_; clear hb hbox hg)); go_upto_region 1 with (first | ((with_reducible refine gate_dst (N := 6) rfl ?_); (try (refine gate_guard (by rfl) ?_; dsimp only)); refine box_event ?hg (N := 6) ?hd (cs := #[.int .i64 a2_0, .bool a2_1, .slice A2_2 l2_2.length c2_2, .slice A2_3 l2_3.length c2_3]) (t := 46) ?hr ?_; (case hd => rfl); (case hg => rfl); (case hr => first | (go_simp; done) | (go_simp; rfl)); intro gb109 hg w6 hbox hb; have n0_ := Aside0.mk (below_step (by repeat (first | (with_reducible first | exact HB.out | apply below_alloc | apply pw_below_drewN | apply below_drew1) | exact HB.out)) hb); have n1_ := Aside0.mk (hbox); have n2_ := Aside0.mk ((by rw [hg]; exact (below_size (by repeat (first | (with_reducible first | exact HB.out | apply below_alloc | apply pw_below_drewN | apply below_drew1) | exact HB.out))) : w.heap.size ≤ gb109)); have n3_ := Aside0.mk ((by rw [hg]; exact (below_size (by repeat (first | (with_reducible first | exact HB.out | apply below_alloc | apply pw_below_drewN | apply below_drew1) | exact HB.out))) : w.heap.size ≤ gb109)); clear HB; have HB := n0_; have BK109 := n1_; have GW109 := n2_; have GE109 := n3_; clear n0_ n1_ n2_ n3_; clear hb hbox hg) | ((with_reducible refine gate_dst (N := 7) rfl ?_); (try (refine gate_guard (by rfl) ?_; dsimp only)); refine box_event ?hg (N := 7) ?hd (cs := #[.int .i64 a3_0, .bool a3_1, .slice A3_2 l3_2.length c3_2, .slice A3_3 l3_3.length c3_3]) (t := 46) ?hr ?_; (case hd => rfl); (case hg => rfl); (case hr => first | (go_simp; done) | (go_simp; rfl)); intro gb110 hg w7 hbox hb; have n0_ := Aside0.mk (blk_below (g := gb109) (o := .cells #[.int .i64 a2_0, .bool a2_1, .slice A2_2 l2_2.length c2_2, .slice A2_3 l2_3.length c2_3] 46 (0, 0)) (by (with_reducible repeat (first | refine blk_drewN ?_ _ | refine blk_drew ?_ | refine blk_alloc ?_ _)); exact BK109.out) hb); have n1_ := Aside0.mk (below_step (by repeat (first | (with_reducible first | exact HB.out | apply below_alloc | apply pw_below_drewN | apply below_drew1 | refine below_set ?_ GE109.out) | exact HB.out)) hb); have n2_ := Aside0.mk (hbox); have n3_ := Aside0.mk ((by rw [hg]; exact (below_size (by repeat (first | (with_reducible first | exact HB.out | apply below_alloc | apply pw_below_drewN | apply below_drew1 | refine below_set ?_ GE109.out) | exact HB.out))) : w.heap.size ≤ gb110)); have n4_ := Aside0.mk ((by rw [hg]; exact (below_size (by repeat (first | (with_reducible first | exact HB.out | apply below_alloc | apply pw_below_drewN | apply below_drew1 | refine below_set ?_ GE109.out) | exact HB.out))) : w.heap.size ≤ gb110)); have n5_ := Aside0.mk ((by rw [hg]; exact Nat.ne_of_lt (blk_lt (g := gb109) (o := .cells #[.int .i64 a2_0, .bool a2_1, .slice A2_2 l2_2.length c2_2, .slice A2_3 l2_3.length c2_3] 46 (0, 0)) (by (with_reducible repeat (first | refine blk_drewN ?_ _ | refine blk_drew ?_ | refine blk_alloc ?_ _)); exact BK109.out)) : gb109 ≠ gb110)); have n6_ := Aside0.mk ((by rw [hg]; exact Nat.ne_of_gt (blk_lt (g := gb109) (o := .cells #[.int .i64 a2_0, .bool a2_1, .slice A2_2 l2_2.length c2_2, .slice A2_3 l2_3.length c2_3] 46 (0, 0)) (by (with_reducible repeat (first | refine blk_drewN ?_ _ | refine blk_drew ?_ | refine blk_alloc ?_ _)); exact BK109.out)) : gb110 ≠ gb109)); clear BK109; clear HB; have BK109 := n0_; have HB := n1_; have BK110 := n2_; have GW110 := n3_; have GE110 := n4_; have NB109_110 := n5_; have NB110_109 := n6_; clear n0_ n1_ n2_ n3_ n4_ n5_ n6_; clear hb hbox hg)))
  (try simp only [Act.put, List.setIfInBounds_toArray, List.set_cons_zero, List.set_cons_succ])
  go_cut [31] (fun v31 wc => ∃ (kq : Nat) (x31_4 : Bool), v31 = .bool x31_4 ∧ Aside0 (spec_SameTold.j0 kq l0 a1 x31_4 a2_0 a2_1 l2_2 l2_3 a3_0 a3_1 l3_2 l3_3 = some r) ∧ Aside0 (kq ≤ k) ∧ Aside0 (wc.heap[gb109]? = some (.cells #[.int .i64 a2_0, .bool a2_1, (.slice A2_2 l2_2.length c2_2), (.slice A2_3 l2_3.length c2_3)] 46 (0, 0))) ∧ Aside0 (wc.heap[gb110]? = some (.cells #[.int .i64 a3_0, .bool a3_1, (.slice A3_2 l3_2.length c3_2), (.slice A3_3 l3_3.length c3_3)] 46 (0, 0))) ∧ Aside0 (Below w.heap.size w wc))
  case first =>
    have H := HC5.out
    clear HC5
    by_cases c8 : (a2_1 != a3_1) = true
    · rw [if_pos c8] at H
      have c8b0 : (a2_1 != a3_1) = true := c8
      (try (have c8b1 : decide (a2_1 = a3_1) = false := by simpa using c8))
      (try (have c8b2 : (a2_1 == a3_1) = false := by simpa using c8))
      (try (have c8b3 : ¬ (a2_1 = a3_1) := by simpa using c8))
      clear c8
      (first | rw [c8b0] | (simp only [i64_w, i32_w]; rw [c8b0]) | skip)
      have H' := Aside0.mk H
      clear H
      have hnb9 := NB109_110.out
      have hnc9 := NB110_109.out
      have hcz10_0 : w7.cell? ⟨gb109, 0, none⟩ = some (.int .i64 a2_0) := (blk_cell BK109.out 0).trans rfl
      have hcz10_1 : w7.cell? ⟨gb109, 1, none⟩ = some (.bool a2_1) := (blk_cell BK109.out 1).trans rfl
      have hcz10_2 : w7.cell? ⟨gb109, 2, none⟩ = some (.slice A2_2 l2_2.length c2_2) := (blk_cell BK109.out 2).trans rfl
      have hcz10_3 : w7.cell? ⟨gb109, 3, none⟩ = some (.slice A2_3 l2_3.length c2_3) := (blk_cell BK109.out 3).trans rfl
      have hfz10_0 := blk_frozen BK109.out 0
      have hfz10_1 := blk_frozen BK109.out 1
      have hfz10_2 := blk_frozen BK109.out 2
      have hfz10_3 := blk_frozen BK109.out 3
      have hcz11_0 : w7.cell? ⟨gb110, 0, none⟩ = some (.int .i64 a3_0) := (blk_cell BK110.out 0).trans rfl
      have hcz11_1 : w7.cell? ⟨gb110, 1, none⟩ = some (.bool a3_1) := (blk_cell BK110.out 1).trans rfl
      have hcz11_2 : w7.cell? ⟨gb110, 2, none⟩ = some (.slice A3_2 l3_2.length c3_2) := (blk_cell BK110.out 2).trans rfl
      have hcz11_3 : w7.cell? ⟨gb110, 3, none⟩ = some (.slice A3_3 l3_3.length c3_3) := (blk_cell BK110.out 3).trans rfl
      have hfz11_0 := blk_frozen BK110.out 0
      have hfz11_1 := blk_frozen BK110.out 1
      have hfz11_2 := blk_frozen BK110.out 2
      have hfz11_3 := blk_frozen BK110.out 3
      go_wp2
      repeat (go_quiet (fail); try go_wp2)
      go_meet
      case rel => exact ⟨_, (true), (by first | rfl | (simp; done) | (simp [*]; done)), H', ⟨by first | omega | exact Nat.le_refl _⟩, ⟨by (with_reducible repeat (first | refine blk_drewN ?_ _ | refine blk_drew ?_ | refine blk_alloc ?_ _)); exact BK109.out⟩, ⟨by (with_reducible repeat (first | refine blk_drewN ?_ _ | refine blk_drew ?_ | refine blk_alloc ?_ _)); exact BK110.out⟩, ⟨by repeat (first | (with_reducible first | exact HB.out | apply below_alloc | apply pw_below_drewN | apply below_drew1 | refine below_set ?_ GE109.out | refine below_set ?_ GE110.out) | exact HB.out)⟩⟩
    · rw [if_neg c8] at H
      have c8b0 : (a2_1 != a3_1) = false := by simpa using c8
      (try (have c8b1 : decide (a2_1 = a3_1) = true := by simpa using c8))
      (try (have c8b2 : (a2_1 == a3_1) = true := by simpa using c8))
      clear c8
      (first | rw [c8b0] | (simp only [i64_w, i32_w]; rw [c8b0]) | skip)
      by_cases c12 : (l2_2.length : Int) = (l3_2.length : Int)
      · rw [if_pos c12] at H
        have c12b0 : ((l2_2.length : Int) == (l3_2.length : Int)) = true := beq_iff_eq.mpr c12
        have c12b1 : ((l2_2.length : Int) != (l3_2.length : Int)) = false := bne_eq_false_iff_eq.mpr c12
        have c12b2 : (l2_2.length == l3_2.length) = true := by first | simpa using c12 | (simp at c12 ⊢; omega)
        clear c12
        replace H := Option.bind_eq_some_iff.mp H
        obtain ⟨t111, A130, H⟩ := H
        replace H : (spec_SameTold.j0 k l0 a1 (!t111) a2_0 a2_1 l2_2 l2_3 a3_0 a3_1 l3_2 l3_3) = some r := H
        have A13 := Aside0.mk A130
        clear A130
        have H' := Aside0.mk H
        clear H
        have hnb14 := NB109_110.out
        have hnc14 := NB110_109.out
        have hcz15_0 : w7.cell? ⟨gb109, 0, none⟩ = some (.int .i64 a2_0) := (blk_cell BK109.out 0).trans rfl
        have hcz15_1 : w7.cell? ⟨gb109, 1, none⟩ = some (.bool a2_1) := (blk_cell BK109.out 1).trans rfl
        have hcz15_2 : w7.cell? ⟨gb109, 2, none⟩ = some (.slice A2_2 l2_2.length c2_2) := (blk_cell BK109.out 2).trans rfl
        have hcz15_3 : w7.cell? ⟨gb109, 3, none⟩ = some (.slice A2_3 l2_3.length c2_3) := (blk_cell BK109.out 3).trans rfl
        have hfz15_0 := blk_frozen BK109.out 0
        have hfz15_1 := blk_frozen BK109.out 1
        have hfz15_2 := blk_frozen BK109.out 2
        have hfz15_3 := blk_frozen BK109.out 3
        have hcz16_0 : w7.cell? ⟨gb110, 0, none⟩ = some (.int .i64 a3_0) := (blk_cell BK110.out 0).trans rfl
        have hcz16_1 : w7.cell? ⟨gb110, 1, none⟩ = some (.bool a3_1) := (blk_cell BK110.out 1).trans rfl
        have hcz16_2 : w7.cell? ⟨gb110, 2, none⟩ = some (.slice A3_2 l3_2.length c3_2) := (blk_cell BK110.out 2).trans rfl
        have hcz16_3 : w7.cell? ⟨gb110, 3, none⟩ = some (.slice A3_3 l3_3.length c3_3) := (blk_cell BK110.out 3).trans rfl
        have hfz16_0 := blk_frozen BK110.out 0
        have hfz16_1 := blk_frozen BK110.out 1
        have hfz16_2 := blk_frozen BK110.out 2
        have hfz16_3 := blk_frozen BK110.out 3
        go_wp2_with (first | (go_at_call 18; (with_reducible refine (spec_Same.calls k _ _ l2_3 _ _ l3_3 t111 _ ?side1 ?side2 ?side3 ?side4 A13.out).mono ?_); (case side1 => repeat (first | exact (Kd.C_below HR2_3.out HB.out) | (with_reducible refine Kd.C_alloc ?_ _) | (with_reducible refine Kd.C_drewN ?_ _) | (with_reducible refine Kd.C_drew ?_))); (case side2 => exact HC2_3.out); (case side3 => repeat (first | exact (Kd.C_below HR3_3.out HB.out) | (with_reducible refine Kd.C_alloc ?_ _) | (with_reducible refine Kd.C_drewN ?_ _) | (with_reducible refine Kd.C_drew ?_))); (case side4 => exact HC3_3.out); rintro e w' ⟨rfl, ⟨nd, rfl⟩⟩; (try first | exact ⟨rfl, _, World.drewN_drewN _ _ _⟩ | exact ⟨rfl, _, Eq.trans (World.drewN_drewN _ _ _) (congrArg (World.drewN _) (Nat.add_assoc _ _ _))⟩)))
        repeat (go_quiet (first | (go_at_call 18; (with_reducible refine (spec_Same.calls k _ _ l2_3 _ _ l3_3 t111 _ ?side1 ?side2 ?side3 ?side4 A13.out).mono ?_); (case side1 => repeat (first | exact (Kd.C_below HR2_3.out HB.out) | (with_reducible refine Kd.C_alloc ?_ _) | (with_reducible refine Kd.C_drewN ?_ _) | (with_reducible refine Kd.C_drew ?_))); (case side2 => exact HC2_3.out); (case side3 => repeat (first | exact (Kd.C_below HR3_3.out HB.out) | (with_reducible refine Kd.C_alloc ?_ _) | (with_reducible refine Kd.C_drewN ?_ _) | (with_reducible refine Kd.C_drew ?_))); (case side4 => exact HC3_3.out); rintro e w' ⟨rfl, ⟨nd, rfl⟩⟩; (try first | exact ⟨rfl, _, World.drewN_drewN _ _ _⟩ | exact ⟨rfl, _, Eq.trans (World.drewN_drewN _ _ _) (congrArg (World.drewN _) (Nat.add_assoc _ _ _))⟩))); try go_wp2_with (first | (go_at_call 18; (with_reducible refine (spec_Same.calls k _ _ l2_3 _ _ l3_3 t111 _ ?side1 ?side2 ?side3 ?side4 A13.out).mono ?_); (case side1 => repeat (first | exact (Kd.C_below HR2_3.out HB.out) | (with_reducible refine Kd.C_alloc ?_ _) | (with_reducible refine Kd.C_drewN ?_ _) | (with_reducible refine Kd.C_drew ?_))); (case side2 => exact HC2_3.out); (case side3 => repeat (first | exact (Kd.C_below HR3_3.out HB.out) | (with_reducible refine Kd.C_alloc ?_ _) | (with_reducible refine Kd.C_drewN ?_ _) | (with_reducible refine Kd.C_drew ?_))); (case side4 => exact HC3_3.out); rintro e w' ⟨rfl, ⟨nd, rfl⟩⟩; (try first | exact ⟨rfl, _, World.drewN_drewN _ _ _⟩ | exact ⟨rfl, _, Eq.trans (World.drewN_drewN _ _ _) (congrArg (World.drewN _) (Nat.add_assoc _ _ _))⟩))))
        go_meet
        case rel => exact ⟨_, (!t111), (by first | rfl | (simp; done) | (simp [*]; done)), H', ⟨by first | omega | exact Nat.le_refl _⟩, ⟨by (with_reducible repeat (first | refine blk_drewN ?_ _ | refine blk_drew ?_ | refine blk_alloc ?_ _)); exact BK109.out⟩, ⟨by (with_reducible repeat (first | refine blk_drewN ?_ _ | refine blk_drew ?_ | refine blk_alloc ?_ _)); exact BK110.out⟩, ⟨by repeat (first | (with_reducible first | exact HB.out | apply below_alloc | apply pw_below_drewN | apply below_drew1 | refine below_set ?_ GE109.out | refine below_set ?_ GE110.out) | exact HB.out)⟩⟩
      · rw [if_neg c12] at H
        have c12b0 : ((l2_2.length : Int) == (l3_2.length : Int)) = false := beq_eq_false_iff_ne.mpr c12
        have c12b1 : ((l2_2.length : Int) != (l3_2.length : Int)) = true := bne_iff_ne.mpr c12
        have c12b2 : (l2_2.length == l3_2.length) = false := by first | simpa using c12 | (simp at c12 ⊢; omega)
        have H' := Aside0.mk H
        clear H
        have hnb17 := NB109_110.out
        have hnc17 := NB110_109.out
        have hcz18_0 : w7.cell? ⟨gb109, 0, none⟩ = some (.int .i64 a2_0) := (blk_cell BK109.out 0).trans rfl
        have hcz18_1 : w7.cell? ⟨gb109, 1, none⟩ = some (.bool a2_1) := (blk_cell BK109.out 1).trans rfl
        have hcz18_2 : w7.cell? ⟨gb109, 2, none⟩ = some (.slice A2_2 l2_2.length c2_2) := (blk_cell BK109.out 2).trans rfl
        have hcz18_3 : w7.cell? ⟨gb109, 3, none⟩ = some (.slice A2_3 l2_3.length c2_3) := (blk_cell BK109.out 3).trans rfl
        have hfz18_0 := blk_frozen BK109.out 0
        have hfz18_1 := blk_frozen BK109.out 1
        have hfz18_2 := blk_frozen BK109.out 2
        have hfz18_3 := blk_frozen BK109.out 3
        have hcz19_0 : w7.cell? ⟨gb110, 0, none⟩ = some (.int .i64 a3_0) := (blk_cell BK110.out 0).trans rfl
        have hcz19_1 : w7.cell? ⟨gb110, 1, none⟩ = some (.bool a3_1) := (blk_cell BK110.out 1).trans rfl
        have hcz19_2 : w7.cell? ⟨gb110, 2, none⟩ = some (.slice A3_2 l3_2.length c3_2) := (blk_cell BK110.out 2).trans rfl
        have hcz19_3 : w7.cell? ⟨gb110, 3, none⟩ = some (.slice A3_3 l3_3.length c3_3) := (blk_cell BK110.out 3).trans rfl
        have hfz19_0 := blk_frozen BK110.out 0
        have hfz19_1 := blk_frozen BK110.out 1
        have hfz19_2 := blk_frozen BK110.out 2
        have hfz19_3 := blk_frozen BK110.out 3
        go_wp2
        repeat (go_quiet (fail); try go_wp2)
        go_meet
        case rel => exact ⟨_, (true), (by first | rfl | (simp; done) | (simp [*]; done)), H', ⟨by first | omega | exact Nat.le_refl _⟩, ⟨by (with_reducible repeat (first | refine blk_drewN ?_ _ | refine blk_drew ?_ | refine blk_alloc ?_ _)); exact BK109.out⟩, ⟨by (with_reducible repeat (first | refine blk_drewN ?_ _ | refine blk_drew ?_ | refine blk_alloc ?_ _)); exact BK110.out⟩, ⟨by repeat (first | (with_reducible first | exact HB.out | apply below_alloc | apply pw_below_drewN | apply below_drew1 | refine below_set ?_ GE109.out | refine below_set ?_ GE110.out) | exact HB.out)⟩⟩
  case rest =>
    clear HC5
    try clear c1
    try clear c2
    try clear p2
    try clear c3
    try clear c4
    try clear c8
    try clear c8b0
    try clear c8b1
    try clear c8b2
    try clear c9
    try clear c12
    try clear c12b0
    try clear c12b1
    try clear c12b2
    try clear c14
    try clear c17
    try clear hcz10_0
    try clear hcz10_1
    try clear hcz10_2
    try clear hcz10_3
    try clear hcz11_0
    try clear hcz11_1
    try clear hcz11_2
    try clear hcz11_3
    try clear hcz15_0
    try clear hcz15_1
    try clear hcz15_2
    try clear hcz15_3
    try clear hcz16_0
    try clear hcz16_1
    try clear hcz16_2
    try clear hcz16_3
    try clear hcz18_0
    try clear hcz18_1
    try clear hcz18_2
    try clear hcz18_3
    try clear hcz19_0
    try clear hcz19_1
    try clear hcz19_2
    try clear hcz19_3
    try clear hfz10_0
    try clear hfz10_1
    try clear hfz10_2
    try clear hfz10_3
    try clear hfz11_0
    try clear hfz11_1
    try clear hfz11_2
    try clear hfz11_3
    try clear hfz15_0
    try clear hfz15_1
    try clear hfz15_2
    try clear hfz15_3
    try clear hfz16_0
    try clear hfz16_1
    try clear hfz16_2
    try clear hfz16_3
    try clear hfz18_0
    try clear hfz18_1
    try clear hfz18_2
    try clear hfz18_3
    try clear hfz19_0
    try clear hfz19_1
    try clear hfz19_2
    try clear hfz19_3
    obtain ⟨kq, x31_4, rfl, HA, HJ4, BK109, BK110, HB⟩ := hcut
    cases kq with
    | zero => exact absurd HA.out (by simp [spec_SameTold.j0])
    | succ kj4 =>
      have H := HA.out
      clear HA
      simp only [spec_SameTold.j0] at H
      by_cases c20 : x31_4 = true
      · subst c20
        have H1 : (some false) = some r := by rw [if_pos rfl] at H; exact H
        clear H
        have H := H1
        clear H1
        obtain rfl := Option.some.inj H
        go_wp2
        repeat (go_quiet (fail); try go_wp2)
        go_ret
        exact ⟨by first | rfl | (simp [errW_none, errW_some] <;> rfl) | (simp [*, errW_none, errW_some] <;> rfl), by repeat (first | (with_reducible first | exact HB.out | apply below_alloc | apply pw_below_drewN | apply below_drew1 | refine below_set ?_ GE109.out | refine below_set ?_ GE110.out) | exact HB.out)⟩
      · replace c20 := Bool.eq_false_iff.mpr c20
        subst c20
        have H1 : (spec_SameTold.l0 kj4 l0 a1 0 a2_0 a2_1 l2_2 l2_3 a3_0 a3_1 l3_2 l3_3) = some r := by rw [if_neg (show ¬ (false = true) by decide)] at H; exact H
        clear H
        have H := H1
        clear H1
        have H' := Aside0.mk H
        clear H
        go_wp2
        repeat (go_quiet (fail); try go_wp2)
        go_loopg [9] kj4 (fun kq v9 w' => ∃ (x9_2 : Int), v9 = .int .i64 x9_2 ∧ Aside0 (spec_SameTold.l0 kq l0 a1 x9_2 a2_0 a2_1 l2_2 l2_3 a3_0 a3_1 l3_2 l3_3 = some r) ∧ Aside0 (kq ≤ kj4) ∧ Aside0 (w'.heap[gb109]? = some (.cells #[.int .i64 a2_0, .bool a2_1, (.slice A2_2 l2_2.length c2_2), (.slice A2_3 l2_3.length c2_3)] 46 (0, 0))) ∧ Aside0 (w'.heap[gb110]? = some (.cells #[.int .i64 a3_0, .bool a3_1, (.slice A3_2 l3_2.length c3_2), (.slice A3_3 l3_3.length c3_3)] 46 (0, 0))) ∧ Aside0 (Below w.heap.size w w'))
        case atStart => exact ⟨(0), (by first | rfl | (simp; done) | (simp [*]; done)), H', ⟨Nat.le_refl _⟩, ⟨by (with_reducible repeat (first | refine blk_drewN ?_ _ | refine blk_drew ?_ | refine blk_alloc ?_ _)); exact BK109.out⟩, ⟨by (with_reducible repeat (first | refine blk_drewN ?_ _ | refine blk_drew ?_ | refine blk_alloc ?_ _)); exact BK110.out⟩, ⟨by repeat (first | (with_reducible first | exact HB.out | apply below_alloc | apply pw_below_drewN | apply below_drew1 | refine below_set ?_ GE109.out | refine below_set ?_ GE110.out) | exact HB.out)⟩⟩
        case round =>
          clear H'
          try clear c1
          try clear c2
          try clear p2
          try clear c3
          try clear c4
          try clear c8
          try clear c8b0
          try clear c8b1
          try clear c8b2
          try clear c9
          try clear c12
          try clear c12b0
          try clear c12b1
          try clear c12b2
          try clear c14
          try clear c17
          try clear c20
          try clear hcz10_0
          try clear hcz10_1
          try clear hcz10_2
          try clear hcz10_3
          try clear hcz11_0
          try clear hcz11_1
          try clear hcz11_2
          try clear hcz11_3
          try clear hcz15_0
          try clear hcz15_1
          try clear hcz15_2
          try clear hcz15_3
          try clear hcz16_0
          try clear hcz16_1
          try clear hcz16_2
          try clear hcz16_3
          try clear hcz18_0
          try clear hcz18_1
          try clear hcz18_2
          try clear hcz18_3
          try clear hcz19_0
          try clear hcz19_1
          try clear hcz19_2
          try clear hcz19_3
          try clear hfz10_0
          try clear hfz10_1
          try clear hfz10_2
          try clear hfz10_3
          try clear hfz11_0
          try clear hfz11_1
          try clear hfz11_2
          try clear hfz11_3
          try clear hfz15_0
          try clear hfz15_1
          try clear hfz15_2
          try clear hfz15_3
          try clear hfz16_0
          try clear hfz16_1
          try clear hfz16_2
          try clear hfz16_3
          try clear hfz18_0
          try clear hfz18_1
          try clear hfz18_2
          try clear hfz18_3
          try clear hfz19_0
          try clear hfz19_1
          try clear hfz19_2
          try clear hfz19_3
          try clear p2
          obtain ⟨x9_2, rfl, HA, HK2, BK109, BK110, HB⟩ := hrel
          cases gk with
          | zero => exact absurd HA.out (by simp [spec_SameTold.l0])
          | succ k2 =>
            have H := HA.out
            clear HA
            simp only [spec_SameTold.l0] at H
            by_cases c21 : x9_2 < (l2_2.length : Int)
            · rw [if_pos c21] at H
              have c21b0 : decide (x9_2 < (l2_2.length : Int)) = true := decide_eq_true c21
              clear c21
              by_cases c22 : 0 ≤ x9_2
              · rw [if_pos c22] at H
                have c22b0 : decide (0 ≤ x9_2) = true := decide_eq_true c22
                clear c22
                by_cases c23 : x9_2 < (l3_2.length : Int)
                · rw [if_pos c23] at H
                  have c23b0 : decide (x9_2 < (l3_2.length : Int)) = true := decide_eq_true c23
                  clear c23
                  replace H := Option.bind_eq_some_iff.mp H
                  obtain ⟨t114, A240, H⟩ := H
                  replace H : (if t114 = true then (spec_SameTold.l0 k2 l0 a1 (wrap64 (x9_2 + 1)) a2_0 a2_1 l2_2 l2_3 a3_0 a3_1 l3_2 l3_3) else (some false)) = some r := H
                  have A24 := Aside0.mk A240
                  clear A240
                  by_cases c25 : t114 = true
                  · subst c25
                    have H1 : (spec_SameTold.l0 k2 l0 a1 (wrap64 (x9_2 + 1)) a2_0 a2_1 l2_2 l2_3 a3_0 a3_1 l3_2 l3_3) = some r := by rw [if_pos rfl] at H; exact H
                    clear H
                    have H := H1
                    clear H1
                    have H' := Aside0.mk H
                    clear H
                    have hnb26 := NB109_110.out
                    have hnc26 := NB110_109.out
                    have hcz27_0 : wr.cell? ⟨gb109, 0, none⟩ = some (.int .i64 a2_0) := (blk_cell BK109.out 0).trans rfl
                    have hcz27_1 : wr.cell? ⟨gb109, 1, none⟩ = some (.bool a2_1) := (blk_cell BK109.out 1).trans rfl
                    have hcz27_2 : wr.cell? ⟨gb109, 2, none⟩ = some (.slice A2_2 l2_2.length c2_2) := (blk_cell BK109.out 2).trans rfl
                    have hcz27_3 : wr.cell? ⟨gb109, 3, none⟩ = some (.slice A2_3 l2_3.length c2_3) := (blk_cell BK109.out 3).trans rfl
                    have hfz27_0 := blk_frozen BK109.out 0
                    have hfz27_1 := blk_frozen BK109.out 1
                    have hfz27_2 := blk_frozen BK109.out 2
                    have hfz27_3 := blk_frozen BK109.out 3
                    have p112 : 0 ≤ (x9_2 : Int) := of_decide_eq_true (by first | (with_reducible assumption) | assumption)
                    have q112 : x9_2 < (l2_2.length : Int) := of_decide_eq_true (by first | (with_reducible assumption) | assumption)
                    obtain ⟨ad112, e112, hx112_0⟩ := Kd.at_int HR2_2.out x9_2 p112 q112
                    cases e112
                    replace hx112_0 := (HB.out.cell (World.block_lt_of_cell? w _ hx112_0)).trans hx112_0
                    replace p112 := eq_true p112
                    replace q112 := eq_true q112
                    have hcz28_0 : wr.cell? ⟨gb110, 0, none⟩ = some (.int .i64 a3_0) := (blk_cell BK110.out 0).trans rfl
                    have hcz28_1 : wr.cell? ⟨gb110, 1, none⟩ = some (.bool a3_1) := (blk_cell BK110.out 1).trans rfl
                    have hcz28_2 : wr.cell? ⟨gb110, 2, none⟩ = some (.slice A3_2 l3_2.length c3_2) := (blk_cell BK110.out 2).trans rfl
                    have hcz28_3 : wr.cell? ⟨gb110, 3, none⟩ = some (.slice A3_3 l3_3.length c3_3) := (blk_cell BK110.out 3).trans rfl
                    have hfz28_0 := blk_frozen BK110.out 0
                    have hfz28_1 := blk_frozen BK110.out 1
                    have hfz28_2 := blk_frozen BK110.out 2
                    have hfz28_3 := blk_frozen BK110.out 3
                    have p113 : 0 ≤ (x9_2 : Int) := of_decide_eq_true (by first | (with_reducible assumption) | assumption)
                    have q113 : x9_2 < (l3_2.length : Int) := of_decide_eq_true (by first | (with_reducible assumption) | assumption)
                    obtain ⟨ad113, e113, hx113_0⟩ := Kd.at_int HR3_2.out x9_2 p113 q113
                    cases e113
                    replace hx113_0 := (HB.out.cell (World.block_lt_of_cell? w _ hx113_0)).trans hx113_0
                    replace p113 := eq_true p113
                    replace q113 := eq_true q113
                    go_wp2_with (first | (go_at_call 37; (with_reducible refine (spec_Alike.calls _ _ l0 (rd l2_2 x9_2) (rd l3_2 x9_2) true _ ?side1 ?side2 A24.out).mono ?_); (case side1 => repeat (first | exact (Kd.C_below HR0.out HB.out) | (with_reducible refine Kd.C_alloc ?_ _) | (with_reducible refine Kd.C_drewN ?_ _) | (with_reducible refine Kd.C_drew ?_))); (case side2 => exact HC0.out); rintro e w' ⟨rfl, ⟨nd, rfl⟩⟩; (try first | exact ⟨rfl, _, World.drewN_drewN _ _ _⟩ | exact ⟨rfl, _, Eq.trans (World.drewN_drewN _ _ _) (congrArg (World.drewN _) (Nat.add_assoc _ _ _))⟩)))
                    repeat (go_quiet (first | (go_at_call 37; (with_reducible refine (spec_Alike.calls _ _ l0 (rd l2_2 x9_2) (rd l3_2 x9_2) true _ ?side1 ?side2 A24.out).mono ?_); (case side1 => repeat (first | exact (Kd.C_below HR0.out HB.out) | (with_reducible refine Kd.C_alloc ?_ _) | (with_reducible refine Kd.C_drewN ?_ _) | (with_reducible refine Kd.C_drew ?_))); (case side2 => exact HC0.out); rintro e w' ⟨rfl, ⟨nd, rfl⟩⟩; (try first | exact ⟨rfl, _, World.drewN_drewN _ _ _⟩ | exact ⟨rfl, _, Eq.trans (World.drewN_drewN _ _ _) (congrArg (World.drewN _) (Nat.add_assoc _ _ _))⟩))); try go_wp2_with (first | (go_at_call 37; (with_reducible refine (spec_Alike.calls _ _ l0 (rd l2_2 x9_2) (rd l3_2 x9_2) true _ ?side1 ?side2 A24.out).mono ?_); (case side1 => repeat (first | exact (Kd.C_below HR0.out HB.out) | (with_reducible refine Kd.C_alloc ?_ _) | (with_reducible refine Kd.C_drewN ?_ _) | (with_reducible refine Kd.C_drew ?_))); (case side2 => exact HC0.out); rintro e w' ⟨rfl, ⟨nd, rfl⟩⟩; (try first | exact ⟨rfl, _, World.drewN_drewN _ _ _⟩ | exact ⟨rfl, _, Eq.trans (World.drewN_drewN _ _ _) (congrArg (World.drewN _) (Nat.add_assoc _ _ _))⟩))))
                    go_roundg k2
                    case measure => have := HJ4.out; have := HK2.out; omega
                    case rel => exact ⟨(wrap64 (x9_2 + 1)), (by first | rfl | (simp; done) | (simp [*]; done)), H', ⟨by have := HJ4.out; have := HK2.out; omega⟩, ⟨by (with_reducible repeat (first | refine blk_drewN ?_ _ | refine blk_drew ?_ | refine blk_alloc ?_ _)); exact BK109.out⟩, ⟨by (with_reducible repeat (first | refine blk_drewN ?_ _ | refine blk_drew ?_ | refine blk_alloc ?_ _)); exact BK110.out⟩, ⟨by repeat (first | (with_reducible first | exact HB.out | apply below_alloc | apply pw_below_drewN | apply below_drew1 | refine below_set ?_ GE109.out | refine below_set ?_ GE110.out) | exact HB.out)⟩⟩
                  · replace c25 := Bool.eq_false_iff.mpr c25
                    subst c25
                    have H1 : (some false) = some r := by rw [if_neg (show ¬ (false = true) by decide)] at H; exact H
                    clear H
                    have H := H1
                    clear H1
                    obtain rfl := Option.some.inj H
                    have hnb29 := NB109_110.out
                    have hnc29 := NB110_109.out
                    have hcz30_0 : wr.cell? ⟨gb109, 0, none⟩ = some (.int .i64 a2_0) := (blk_cell BK109.out 0).trans rfl
                    have hcz30_1 : wr.cell? ⟨gb109, 1, none⟩ = some (.bool a2_1) := (blk_cell BK109.out 1).trans rfl
                    have hcz30_2 : wr.cell? ⟨gb109, 2, none⟩ = some (.slice A2_2 l2_2.length c2_2) := (blk_cell BK109.out 2).trans rfl
                    have hcz30_3 : wr.cell? ⟨gb109, 3, none⟩ = some (.slice A2_3 l2_3.length c2_3) := (blk_cell BK109.out 3).trans rfl
                    have hfz30_0 := blk_frozen BK109.out 0
                    have hfz30_1 := blk_frozen BK109.out 1
                    have hfz30_2 := blk_frozen BK109.out 2
                    have hfz30_3 := blk_frozen BK109.out 3
                    have p112 : 0 ≤ (x9_2 : Int) := of_decide_eq_true (by first | (with_reducible assumption) | assumption)
                    have q112 : x9_2 < (l2_2.length : Int) := of_decide_eq_true (by first | (with_reducible assumption) | assumption)
                    obtain ⟨ad112, e112, hx112_0⟩ := Kd.at_int HR2_2.out x9_2 p112 q112
                    cases e112
                    replace hx112_0 := (HB.out.cell (World.block_lt_of_cell? w _ hx112_0)).trans hx112_0
                    replace p112 := eq_true p112
                    replace q112 := eq_true q112
                    have hcz31_0 : wr.cell? ⟨gb110, 0, none⟩ = some (.int .i64 a3_0) := (blk_cell BK110.out 0).trans rfl
                    have hcz31_1 : wr.cell? ⟨gb110, 1, none⟩ = some (.bool a3_1) := (blk_cell BK110.out 1).trans rfl
                    have hcz31_2 : wr.cell? ⟨gb110, 2, none⟩ = some (.slice A3_2 l3_2.length c3_2) := (blk_cell BK110.out 2).trans rfl
                    have hcz31_3 : wr.cell? ⟨gb110, 3, none⟩ = some (.slice A3_3 l3_3.length c3_3) := (blk_cell BK110.out 3).trans rfl
                    have hfz31_0 := blk_frozen BK110.out 0
                    have hfz31_1 := blk_frozen BK110.out 1
                    have hfz31_2 := blk_frozen BK110.out 2
                    have hfz31_3 := blk_frozen BK110.out 3
                    have p113 : 0 ≤ (x9_2 : Int) := of_decide_eq_true (by first | (with_reducible assumption) | assumption)
                    have q113 : x9_2 < (l3_2.length : Int) := of_decide_eq_true (by first | (with_reducible assumption) | assumption)
                    obtain ⟨ad113, e113, hx113_0⟩ := Kd.at_int HR3_2.out x9_2 p113 q113
                    cases e113
                    replace hx113_0 := (HB.out.cell (World.block_lt_of_cell? w _ hx113_0)).trans hx113_0
                    replace p113 := eq_true p113
                    replace q113 := eq_true q113
                    go_wp2_with (first | (go_at_call 37; (with_reducible refine (spec_Alike.calls _ _ l0 (rd l2_2 x9_2) (rd l3_2 x9_2) false _ ?side1 ?side2 A24.out).mono ?_); (case side1 => repeat (first | exact (Kd.C_below HR0.out HB.out) | (with_reducible refine Kd.C_alloc ?_ _) | (with_reducible refine Kd.C_drewN ?_ _) | (with_reducible refine Kd.C_drew ?_))); (case side2 => exact HC0.out); rintro e w' ⟨rfl, ⟨nd, rfl⟩⟩; (try first | exact ⟨rfl, _, World.drewN_drewN _ _ _⟩ | exact ⟨rfl, _, Eq.trans (World.drewN_drewN _ _ _) (congrArg (World.drewN _) (Nat.add_assoc _ _ _))⟩)))
                    repeat (go_quiet (first | (go_at_call 37; (with_reducible refine (spec_Alike.calls _ _ l0 (rd l2_2 x9_2) (rd l3_2 x9_2) false _ ?side1 ?side2 A24.out).mono ?_); (case side1 => repeat (first | exact (Kd.C_below HR0.out HB.out) | (with_reducible refine Kd.C_alloc ?_ _) | (with_reducible refine Kd.C_drewN ?_ _) | (with_reducible refine Kd.C_drew ?_))); (case side2 => exact HC0.out); rintro e w' ⟨rfl, ⟨nd, rfl⟩⟩; (try first | exact ⟨rfl, _, World.drewN_drewN _ _ _⟩ | exact ⟨rfl, _, Eq.trans (World.drewN_drewN _ _ _) (congrArg (World.drewN _) (Nat.add_assoc _ _ _))⟩))); try go_wp2_with (first | (go_at_call 37; (with_reducible refine (spec_Alike.calls _ _ l0 (rd l2_2 x9_2) (rd l3_2 x9_2) false _ ?side1 ?side2 A24.out).mono ?_); (case side1 => repeat (first | exact (Kd.C_below HR0.out HB.out) | (with_reducible refine Kd.C_alloc ?_ _) | (with_reducible refine Kd.C_drewN ?_ _) | (with_reducible refine Kd.C_drew ?_))); (case side2 => exact HC0.out); rintro e w' ⟨rfl, ⟨nd, rfl⟩⟩; (try first | exact ⟨rfl, _, World.drewN_drewN _ _ _⟩ | exact ⟨rfl, _, Eq.trans (World.drewN_drewN _ _ _) (congrArg (World.drewN _) (Nat.add_assoc _ _ _))⟩))))
                    go_ret
                    exact ⟨by first | rfl | (simp [errW_none, errW_some] <;> rfl) | (simp [*, errW_none, errW_some] <;> rfl), by repeat (first | (with_reducible first | exact HB.out | apply below_alloc | apply pw_below_drewN | apply below_drew1 | refine below_set ?_ GE109.out | refine below_set ?_ GE110.out) | exact HB.out)⟩
                · rw [if_neg c23] at H
                  exact absurd H (by simp)
              · rw [if_neg c22] at H
                exact absurd H (by simp)
            · rw [if_neg c21] at H
              have c21b0 : decide (x9_2 < (l2_2.length : Int)) = false := decide_eq_false c21
              clear c21
              by_cases c32 : a1 = 2
              · rw [if_pos c32] at H
                have c32b0 : (a1 == 2) = true := beq_iff_eq.mpr c32
                have c32b1 : (a1 != 2) = false := bne_eq_false_iff_eq.mpr c32
                clear c32
                by_cases c33 : a2_1 = true
                · subst c33
                  have H1 : (some (a2_0 == a3_0)) = some r := by rw [if_pos rfl] at H; exact H
                  clear H
                  have H := H1
                  clear H1
                  obtain rfl := Option.some.inj H
                  have hnb34 := NB109_110.out
                  have hnc34 := NB110_109.out
                  have hcz35_0 : wr.cell? ⟨gb109, 0, none⟩ = some (.int .i64 a2_0) := (blk_cell BK109.out 0).trans rfl
                  have hcz35_1 : wr.cell? ⟨gb109, 1, none⟩ = some (.bool true) := (blk_cell BK109.out 1).trans rfl
                  have hcz35_2 : wr.cell? ⟨gb109, 2, none⟩ = some (.slice A2_2 l2_2.length c2_2) := (blk_cell BK109.out 2).trans rfl
                  have hcz35_3 : wr.cell? ⟨gb109, 3, none⟩ = some (.slice A2_3 l2_3.length c2_3) := (blk_cell BK109.out 3).trans rfl
                  have hfz35_0 := blk_frozen BK109.out 0
                  have hfz35_1 := blk_frozen BK109.out 1
                  have hfz35_2 := blk_frozen BK109.out 2
                  have hfz35_3 := blk_frozen BK109.out 3
                  have hcz36_0 : wr.cell? ⟨gb110, 0, none⟩ = some (.int .i64 a3_0) := (blk_cell BK110.out 0).trans rfl
                  have hcz36_1 : wr.cell? ⟨gb110, 1, none⟩ = some (.bool a3_1) := (blk_cell BK110.out 1).trans rfl
                  have hcz36_2 : wr.cell? ⟨gb110, 2, none⟩ = some (.slice A3_2 l3_2.length c3_2) := (blk_cell BK110.out 2).trans rfl
                  have hcz36_3 : wr.cell? ⟨gb110, 3, none⟩ = some (.slice A3_3 l3_3.length c3_3) := (blk_cell BK110.out 3).trans rfl
                  have hfz36_0 := blk_frozen BK110.out 0
                  have hfz36_1 := blk_frozen BK110.out 1
                  have hfz36_2 := blk_frozen BK110.out 2
                  have hfz36_3 := blk_frozen BK110.out 3
                  go_wp2
                  repeat (go_quiet (fail); try go_wp2)
                  go_ret
                  exact ⟨by first | rfl | (simp [errW_none, errW_some] <;> rfl) | (simp [*, errW_none, errW_some] <;> rfl), by repeat (first | (with_reducible first | exact HB.out | apply below_alloc | apply pw_below_drewN | apply below_drew1 | refine below_set ?_ GE109.out | refine below_set ?_ GE110.out) | exact HB.out)⟩
                · replace c33 := Bool.eq_false_iff.mpr c33
                  subst c33
                  have H1 : (some true) = some r := by rw [if_neg (show ¬ (false = true) by decide)] at H; exact H
                  clear H
                  have H := H1
                  clear H1
                  obtain rfl := Option.some.inj H
                  have hnb37 := NB109_110.out
                  have hnc37 := NB110_109.out
                  have hcz38_0 : wr.cell? ⟨gb109, 0, none⟩ = some (.int .i64 a2_0) := (blk_cell BK109.out 0).trans rfl
                  have hcz38_1 : wr.cell? ⟨gb109, 1, none⟩ = some (.bool false) := (blk_cell BK109.out 1).trans rfl
                  have hcz38_2 : wr.cell? ⟨gb109, 2, none⟩ = some (.slice A2_2 l2_2.length c2_2) := (blk_cell BK109.out 2).trans rfl
                  have hcz38_3 : wr.cell? ⟨gb109, 3, none⟩ = some (.slice A2_3 l2_3.length c2_3) := (blk_cell BK109.out 3).trans rfl
                  have hfz38_0 := blk_frozen BK109.out 0
                  have hfz38_1 := blk_frozen BK109.out 1
                  have hfz38_2 := blk_frozen BK109.out 2
                  have hfz38_3 := blk_frozen BK109.out 3
                  go_wp2
                  repeat (go_quiet (fail); try go_wp2)
                  go_ret
                  exact ⟨by first | rfl | (simp [errW_none, errW_some] <;> rfl) | (simp [*, errW_none, errW_some] <;> rfl), by repeat (first | (with_reducible first | exact HB.out | apply below_alloc | apply pw_below_drewN | apply below_drew1 | refine below_set ?_ GE109.out | refine below_set ?_ GE110.out) | exact HB.out)⟩
              · rw [if_neg c32] at H
                have c32b0 : (a1 == 2) = false := beq_eq_false_iff_ne.mpr c32
                have c32b1 : (a1 != 2) = true := bne_iff_ne.mpr c32
                obtain rfl := Option.some.inj H
                have hnb39 := NB109_110.out
                have hnc39 := NB110_109.out
                have hcz40_0 : wr.cell? ⟨gb109, 0, none⟩ = some (.int .i64 a2_0) := (blk_cell BK109.out 0).trans rfl
                have hcz40_1 : wr.cell? ⟨gb109, 1, none⟩ = some (.bool a2_1) := (blk_cell BK109.out 1).trans rfl
                have hcz40_2 : wr.cell? ⟨gb109, 2, none⟩ = some (.slice A2_2 l2_2.length c2_2) := (blk_cell BK109.out 2).trans rfl
                have hcz40_3 : wr.cell? ⟨gb109, 3, none⟩ = some (.slice A2_3 l2_3.length c2_3) := (blk_cell BK109.out 3).trans rfl
                have hfz40_0 := blk_frozen BK109.out 0
                have hfz40_1 := blk_frozen BK109.out 1
                have hfz40_2 := blk_frozen BK109.out 2
                have hfz40_3 := blk_frozen BK109.out 3
                have hcz41_0 : wr.cell? ⟨gb110, 0, none⟩ = some (.int .i64 a3_0) := (blk_cell BK110.out 0).trans rfl
                have hcz41_1 : wr.cell? ⟨gb110, 1, none⟩ = some (.bool a3_1) := (blk_cell BK110.out 1).trans rfl
                have hcz41_2 : wr.cell? ⟨gb110, 2, none⟩ = some (.slice A3_2 l3_2.length c3_2) := (blk_cell BK110.out 2).trans rfl
                have hcz41_3 : wr.cell? ⟨gb110, 3, none⟩ = some (.slice A3_3 l3_3.length c3_3) := (blk_cell BK110.out 3).trans rfl
                have hfz41_0 := blk_frozen BK110.out 0
                have hfz41_1 := blk_frozen BK110.out 1
                have hfz41_2 := blk_frozen BK110.out 2
                have hfz41_3 := blk_frozen BK110.out 3
                go_wp2
                repeat (go_quiet (fail); try go_wp2)
                go_ret
                exact ⟨by first | rfl | (simp [errW_none, errW_some] <;> rfl) | (simp [*, errW_none, errW_some] <;> rfl), by repeat (first | (with_reducible first | exact HB.out | apply below_alloc | apply pw_below_drewN | apply below_drew1 | refine below_set ?_ GE109.out | refine below_set ?_ GE110.out) | exact HB.out)⟩
end Go.Proofs.Ytjlcebgfknfelaa.QFnTreesAgree
