/- B-trees in memory: a script of steps, one behind the other. For every table and every script. -/
import Derived.Test.YtjlcebgfknfelaaBtF
import Derived.Test.YtjlcebgfknfelaaAvlI
namespace Go.Proofs.Ytjlcebgfknfelaa.Bt
open Go Go.RowKit Go.IntWalk Go.Proofs.Ytjlcebgfknfelaa.Hk Go.Proofs.Ytjlcebgfknfelaa.BtPure Go.Proofs.Ytjlcebgfknfelaa.Less Go.Proofs.YtjlcebgfknfelaaW.PrintWords Go.Proofs.YtjlcebgfknfelaaW.PrintLast Go.Proofs.YtjlcebgfknfelaaW.PrintMore
open Go.Proofs.Ytjlcebgfknfelaa.Row hiding hid alloc_size
open Go.Proofs.Ytjlcebgfknfelaa.Avl (LessS Acc own_ge Act3 Told4 actK toldK at_act infoTold told_flat told_rows less_any)

def stepT (tb : List Int) (t : List E) (a : Act3) : List E := if a.1 = 0 then insL (rankOf tb) a.2.1 a.2.2 true t else if a.1 = 1 then (if (tell (findL (rankOf tb) a.2.1 t)).2 = true then insL (rankOf tb) a.2.1 0 false t else t) else t
def tellT (tb : List Int) (t : List E) (a : Act3) : Told4 :=
  if a.1 = 2 then ((tell (findL (rankOf tb) a.2.1 t)).1, (tell (findL (rankOf tb) a.2.1 t)).2, [], []) else if a.1 = 4 then (0, false, keysV t, valsV t) else (0, false, [], [])
def runT (tb : List Int) : List E → List Act3 → List E
  | t, [] => t
  | t, a :: l => runT tb (stepT tb t a) l
def toldT (tb : List Int) : List E → List Act3 → List Told4
  | _, [] => []
  | t, a :: l => tellT tb t a :: toldT tb (stepT tb t a) l
theorem toldT_length (tb : List Int) : ∀ (l : List Act3) (t : List E), (toldT tb t l).length = l.length
  | [], _ => rfl
  | a :: l, t => by simp [toldT, toldT_length tb l]

/-- What holds between the steps of a script that began at w with the tree t0. -/
structure Inv (base R : Nat) (tb : List Int) (t0 : M) (w : World) (t : M) (out : Value) (rs : List Told4) (wr : World) : Prop where
  tree : Tree base R tb t wr
  ids : ∀ b ∈ t.ids, b ∈ t0.ids ∨ w.heap.size ≤ b
  row : Kd.S toldK 46 wr w.heap.size (fun b => b ≠ R ∧ b ∉ t.ids) out rs
  fr : Fr (fun b => b = R ∨ b ∈ t0.ids) w wr

section
variable {base R : Nat} {tb : List Int} {t0 t : M} {w wr W w' w1 : World} {out : Value} {rs : List Told4}

theorem Inv.below (h : Inv base R tb t0 w t out rs wr) (hb : Below wr.heap.size wr w') : Inv base R tb t0 w t out rs w' :=
  ⟨h.tree.below hb, h.ids, Kd.S_below h.row hb, h.fr.trans (S' := fun _ => False) ⟨hb.os, hb.tape, hb.output, hb.size, fun k hk _ => hb.block k hk⟩ (fun _ _ h => h.elim)⟩

theorem Inv.turned (h : Inv base R tb t0 w t out rs W) {raw' : List E} (hT : Turned base R tb t raw' W w') : ∃ t', t'.raw = raw' ∧ t'.h ≤ t.h + 1 ∧ Inv base R tb t0 w t' out rs w' := by
  obtain ⟨t', a1, a2, a0, a3, a4⟩ := hT
  refine ⟨t', a2, a0, a1, fun b hb => ?_, ?_, h.fr.trans a3 (fun n hn hk => ?_)⟩
  · rcases a4 b hb with h1 | h1
    · exact h.ids b h1
    · exact .inr (Nat.le_trans h.fr.size h1)
  · refine Kd.S_mono (Kd.S_step (Kd.S_bound h.row) (fun k hk hlt => a3.block k hlt (fun e => ?_))) (fun k hk => ⟨hk.1.1, fun hb => ?_⟩)
    · rcases e with e | e
      · exact hk.1.1 e
      · exact hk.1.2 e
    · rcases a4 k hb with h1 | h1
      · exact hk.1.2 h1
      · have := hk.2.2.1; omega
  · rcases hk with hk | hk
    · exact .inl hk
    · rcases h.ids n hk with h1 | h1
      · exact .inr h1
      · omega

/-- Behind the append of what a step tells. -/
theorem Inv.append (h : Inv base R tb t0 w t out rs W) (hb : base ≤ w.heap.size) {v1 : Value} {p : Told4} (hR : Kd.S toldK 46 w1 w.heap.size (fun b => b ≠ R ∧ b ∉ t.ids) v1 (rs ++ [p])) (hg : W.grownBy w1 out.ownBlock) :
    Inv base R tb t0 w t v1 (rs ++ [p]) w1 := by
  obtain ⟨_, inner, ho, _⟩ := Kd.S_R h.row
  have hlo : ∀ k, out.ownBlock = some k → w.heap.size ≤ k := fun k hk => (ho.lt k hk).1
  refine ⟨h.tree.kept ⟨hg.os, hg.tape, hg.output, hg.size, fun k hk => ?_⟩ (hg.block R h.tree.lt.1 (fun e => ((Kd.S_R h.row).1 R e.symm).1 rfl)) (fun b hx => hg.block b (h.tree.lt.2 b hx) (fun e => ((Kd.S_R h.row).1 b e.symm).2 hx)), h.ids, hR, grown_fr h.fr hg (fun k hk hlt => ?_)⟩
  · have hRs := h.tree.lt.1
    have hge := h.tree.ge
    exact hg.block k (by omega) (fun e => by have := hlo k e.symm; omega)
  · have := hlo k hk; omega
end

set_option maxHeartbeats 8000000 in
set_option maxRecDepth 100000 in
theorem btreeDo_any (base R : Nat) (tb : List Int) (t0 : M) (w : World) (A : Option Addr) (c : Nat) (l : List Act3) (hT : Tree base R tb t0 w) (hb : base ≤ w.heap.size) (hC : ∀ W, Below base w W → Kd.C actK W A l.length l)
    (hs : t0.h = 0 ∧ t0.raw = []) (hl : l.length ≤ 4294967296) :
    Calls Try.prog 51 #[.pointer (some ⟨R, 0, none⟩), .slice A l.length c] w fun e w' => ∃ t' v, e = .returned v ∧ t'.raw = runT tb t0.raw l ∧ Inv base R tb t0 w t' v (toldT tb t0.raw l) w' := by
  have HC : Hid (∀ W, Below base w W → Kd.C actK W A l.length l) := hC
  have HT : Hid (Tree base R tb t0 w) := hT
  have HB : Hid (base ≤ w.heap.size) := hb
  have HS0 := hid hs
  clear hC hT hb hs
  go_enter Try.func51, Try.ntmps51
  go_wp2_with fail
  go_loopg [5, 11] l.length (fun g v5 v11 wr => ∃ (i : Nat) (t : M) (rs : List Told4), v11 = .int .i64 i ∧ i ≤ l.length ∧ Hid (g + i = l.length) ∧ Hid (Inv base R tb t0 w t v5 rs wr ∧ rs.length = i ∧ rs ++ toldT tb t.raw (l.drop i) = toldT tb t0.raw l ∧ runT tb t.raw (l.drop i) = runT tb t0.raw l ∧ (t.h ≤ i ∧ t.raw.length ≤ i)))
  case atStart => exact ⟨0, t0, [], rfl, Nat.zero_le _, Nat.add_zero _, ⟨HT.out, fun b hb => .inl hb, Kd.S_nil .., Fr.refl _ _⟩, rfl, rfl, rfl, by rw [HS0.out.1]; exact Nat.le_refl _, by rw [HS0.out.2]; exact Nat.le_refl _⟩
  case round =>
    obtain ⟨i, t, rs, rfl, hi, HG, HI⟩ := hrel
    by_cases hlt : i < l.length
    · obtain ⟨ad, rfl, x0, x1, x2⟩ := at_act (HC.out wr (by
        have h := HI.out.1.fr
        have hg := HT.out.ge
        exact h.below HB.out (fun k hk => by
          rcases hk with rfl | hk
          · exact hg
          · exact HT.out.good.above k hk))) i hlt
      have HX : Hid (l.drop i = l[i] :: l.drop (i + 1)) := List.drop_eq_getElem_cons hlt
      generalize l[i] = x at x0 x1 x2 HX
      obtain ⟨d, k, v⟩ := x
      simp only at x0 x1 x2
      have HL := hid hlt
      have HW := hid (HI.out.1.below (((Below.refl _ _).alloc (Nat.le_refl _) (.cells #[.int .i64 d, .int .i64 k, .int .i64 v] 66)).alloc (by rw [alloc_size]; exact Nat.le_succ _) (.cells #[.int .i64 0, .bool false, .slice none 0 0, .slice none 0 0] 46)))
      have HLT := hid HI.out.1.tree.lt
      have HZ := hid HI.out.2
      obtain ⟨k1, rfl⟩ : ∃ k1, gk = k1 + 1 := ⟨gk - 1, by have := HG.out; omega⟩
      have HEV : Hid (t.h ≤ 1099511627775) := hid (by have := HZ.out.2.2.2.1; omega)
      have HXN : Hid (wr.heap.size + 1 ≠ R ∧ wr.heap.size + 1 ∉ t.ids) := ⟨by have := HLT.out.1; omega, fun h => by have := HLT.out.2 _ h; omega⟩
      clear hlt
      by_cases h0 : d = 0
      · subst h0
        go_wp2_with fail
        refine (tPut_any base R tb t k v _ HW.out.tree HEV.out).mono ?_
        rintro e w2 ⟨rfl, hT⟩
        obtain ⟨t', hraw, hh', hI⟩ := HW.out.turned hT
        have HH2 := hid hh'
        have hX : Blk w2 (wr.heap.size + 1) #[.int .i64 0, .bool false, .slice none 0 0, .slice none 0 0] 46 := by
          have h0_ := (Blk.new (wr.alloc (.cells #[.int .i64 0, .int .i64 k, .int .i64 v] 66)) #[.int .i64 0, .bool false, .slice none 0 0, .slice none 0 0] 46)
          rw [alloc_size] at h0_
          obtain ⟨_, _, _, _, a3, _⟩ := hT
          exact h0_.fr a3 (fun e => e.elim HXN.out.1 HXN.out.2)
        have e0 : w2.cell? ⟨wr.heap.size + 1, 0, none⟩ = some ((.int .i64 0)) := hX.cell 0
        have e1 : w2.cell? ⟨wr.heap.size + 1, 1, none⟩ = some ((.bool false)) := hX.cell 1
        have e2 : w2.cell? ⟨wr.heap.size + 1, 2, none⟩ = some ((.slice none 0 0)) := hX.cell 2
        have e3 : w2.cell? ⟨wr.heap.size + 1, 3, none⟩ = some ((.slice none 0 0)) := hX.cell 3
        have H2 := hid hI
        have HR := hid hraw
        clear hT hI hraw hh' hX x0 x1 x2
        go_wp2_with (first | (at_builtin; refine Kd.S_append toldK (w0 := w2) (W := w2) w.heap.size rfl (.tmp 47) (.tmp 49) 43 46 (.agg #[(.int .i64 0), (.bool false), (.slice none 0 0), (.slice none 0 0)]) 64 rfl Try.underlying43 infoTold rfl (by decide) (by omega) u5 rs (0, false, [], []) [(.int .i64 0), (.bool false), (.slice none 0 0), (.slice none 0 0)] (fun b => b ≠ R ∧ b ∉ t'.ids) (fun _ => False) rfl rfl (told_flat _ _ _ _) (fun _ hk => hk.elim) ?aF ?aO ?aB ?aS ?aL ?_; (case aF => exact fun k_ hk => by have h1 := H2.out.tree.lt; exact ⟨by omega, fun hb_ => by have := h1.2 _ hb_; omega⟩); (case aO => exact (Kd.S_mono H2.out.row (fun k_ hk => ⟨hk, fun h => h⟩))); (case aB => exact (Below.refl _ _)); (case aS => exact H2.out.fr.size); (case aL => have h1 := HZ.out.1; have h2 := HL.out; omega); intro v1 w3 ho hb hg hat))
        have HE := hid (H2.out.append HB.out ho hg)
        clear ho hb hg hat
        clear e0 e1 e2 e3
        go_wp2_with fail
        go_roundg k1
        case measure => omega
        case rel => exact ⟨i + 1, t', rs ++ [(0, false, [], [])], rfl, HL.out, by have := HG.out; show k1 + (i + 1) = _; omega, HE.out, by rw [List.length_append, HZ.out.1]; rfl, by rw [← HZ.out.2.1, HX.out, List.append_assoc]; rw [HR.out]; rfl, by rw [← HZ.out.2.2.1, HX.out]; rw [HR.out]; rfl, ⟨by have := HH2.out; have := HZ.out.2.2.2.1; omega, by rw [HR.out]; have h1 := (@len_insL (rankOf tb) k v true t.raw).1; have := HZ.out.2.2.2.2; omega⟩⟩
      · by_cases h1 : d = 1
        · subst h1
          go_wp2_with fail
          refine (tRemove_any base R tb t k _ HW.out.tree HEV.out).mono ?_
          rintro e w2 ⟨rfl, hT⟩
          obtain ⟨t', hraw, hh', hI⟩ := HW.out.turned hT
          have HH2 := hid hh'
          have hX : Blk w2 (wr.heap.size + 1) #[.int .i64 0, .bool false, .slice none 0 0, .slice none 0 0] 46 := by
            have h0_ := (Blk.new (wr.alloc (.cells #[.int .i64 1, .int .i64 k, .int .i64 v] 66)) #[.int .i64 0, .bool false, .slice none 0 0, .slice none 0 0] 46)
            rw [alloc_size] at h0_
            obtain ⟨_, _, _, _, a3, _⟩ := hT
            exact h0_.fr a3 (fun e => e.elim HXN.out.1 HXN.out.2)
          have e0 : w2.cell? ⟨wr.heap.size + 1, 0, none⟩ = some ((.int .i64 0)) := hX.cell 0
          have e1 : w2.cell? ⟨wr.heap.size + 1, 1, none⟩ = some ((.bool false)) := hX.cell 1
          have e2 : w2.cell? ⟨wr.heap.size + 1, 2, none⟩ = some ((.slice none 0 0)) := hX.cell 2
          have e3 : w2.cell? ⟨wr.heap.size + 1, 3, none⟩ = some ((.slice none 0 0)) := hX.cell 3
          have H2 := hid hI
          have HR := hid hraw
          clear hT hI hraw hh' hX x0 x1 x2
          go_wp2_with (first | (at_builtin; refine Kd.S_append toldK (w0 := w2) (W := w2) w.heap.size rfl (.tmp 47) (.tmp 49) 43 46 (.agg #[(.int .i64 0), (.bool false), (.slice none 0 0), (.slice none 0 0)]) 64 rfl Try.underlying43 infoTold rfl (by decide) (by omega) u5 rs (0, false, [], []) [(.int .i64 0), (.bool false), (.slice none 0 0), (.slice none 0 0)] (fun b => b ≠ R ∧ b ∉ t'.ids) (fun _ => False) rfl rfl (told_flat _ _ _ _) (fun _ hk => hk.elim) ?aF ?aO ?aB ?aS ?aL ?_; (case aF => exact fun k_ hk => by have h1 := H2.out.tree.lt; exact ⟨by omega, fun hb_ => by have := h1.2 _ hb_; omega⟩); (case aO => exact (Kd.S_mono H2.out.row (fun k_ hk => ⟨hk, fun h => h⟩))); (case aB => exact (Below.refl _ _)); (case aS => exact H2.out.fr.size); (case aL => have h1 := HZ.out.1; have h2 := HL.out; omega); intro v1 w3 ho hb hg hat))
          have HE := hid (H2.out.append HB.out ho hg)
          clear ho hb hg hat
          clear e0 e1 e2 e3
          go_wp2_with fail
          go_roundg k1
          case measure => omega
          case rel => exact ⟨i + 1, t', rs ++ [(0, false, [], [])], rfl, HL.out, by have := HG.out; show k1 + (i + 1) = _; omega, HE.out, by rw [List.length_append, HZ.out.1]; rfl, by rw [← HZ.out.2.1, HX.out, List.append_assoc]; rw [HR.out]; rfl, by rw [← HZ.out.2.2.1, HX.out]; rw [HR.out]; rfl, ⟨by have := HH2.out; have := HZ.out.2.2.2.1; omega, by rw [HR.out]; have h1 := (@len_insL (rankOf tb) k 0 false t.raw).1; have := HZ.out.2.2.2.2; split <;> omega⟩⟩
        · by_cases h2 : d = 2
          · subst h2
            go_wp2_with fail
            refine (tGet_any base R tb t k _ HW.out.tree (by have := HEV.out; omega)).mono ?_
            rintro e W2 ⟨rfl, hBW⟩
            have hB2 : Below wr.heap.size wr W2 := (((Below.refl _ _).alloc (Nat.le_refl _) _).alloc (by rw [alloc_size]; exact Nat.le_succ _) _).trans (below_le hBW (by rw [alloc_size, alloc_size]; omega))
            have hX0 : Blk W2 (wr.heap.size + 1) #[(.int .i64 0), (.bool false), (.slice none 0 0), (.slice none 0 0)] 46 := by
              have h0_ := (Blk.new (wr.alloc (.cells #[.int .i64 2, .int .i64 k, .int .i64 v] 66)) #[.int .i64 0, .bool false, .slice none 0 0, .slice none 0 0] 46)
              rw [alloc_size] at h0_
              exact h0_.below hBW (by rw [alloc_size, alloc_size]; omega)
            clear hBW
            have g0 : W2.cell? ⟨wr.heap.size + 1, 0, none⟩ = some (.int .i64 0) := hX0.cell 0
            have f0 : W2.frozen? ⟨wr.heap.size + 1, 0, none⟩ = false := hX0.free 0
            have g1 : W2.cell? ⟨wr.heap.size + 1, 1, none⟩ = some (.bool false) := hX0.cell 1
            have f1 : W2.frozen? ⟨wr.heap.size + 1, 1, none⟩ = false := hX0.free 1
            have HQ : Hid (Blk W2 (wr.heap.size + 1) #[(.int .i64 0), (.bool false), (.slice none 0 0), (.slice none 0 0)] 46 ∧ Below wr.heap.size wr W2) := ⟨hX0, hB2⟩
            clear hX0 hB2 x0 x1 x2
            go_upto_region 15 with fail
            obtain ⟨hX0, hB2⟩ := HQ.out
            have H2 : Hid (Inv base R tb t0 w t u5 rs ((W2.setCell ⟨wr.heap.size + 1, 0, none⟩ (.int .i64 (tell (findL (rankOf tb) k t.raw)).1)).setCell ⟨wr.heap.size + 1, 1, none⟩ (.bool (tell (findL (rankOf tb) k t.raw)).2))) := HI.out.1.below ((hB2.setCell (p := ⟨wr.heap.size + 1, 0, none⟩) (Nat.le_succ _) (.int .i64 (tell (findL (rankOf tb) k t.raw)).1)).setCell (p := ⟨wr.heap.size + 1, 1, none⟩) (Nat.le_succ _) (.bool (tell (findL (rankOf tb) k t.raw)).2))
            have hX : Blk ((W2.setCell ⟨wr.heap.size + 1, 0, none⟩ (.int .i64 (tell (findL (rankOf tb) k t.raw)).1)).setCell ⟨wr.heap.size + 1, 1, none⟩ (.bool (tell (findL (rankOf tb) k t.raw)).2)) (wr.heap.size + 1) #[(.int .i64 (tell (findL (rankOf tb) k t.raw)).1), (.bool (tell (findL (rankOf tb) k t.raw)).2), (.slice none 0 0), (.slice none 0 0)] 46 := ((hX0.set 0 (.int .i64 (tell (findL (rankOf tb) k t.raw)).1)).set 1 (.bool (tell (findL (rankOf tb) k t.raw)).2))
            have e0 : ((W2.setCell ⟨wr.heap.size + 1, 0, none⟩ (.int .i64 (tell (findL (rankOf tb) k t.raw)).1)).setCell ⟨wr.heap.size + 1, 1, none⟩ (.bool (tell (findL (rankOf tb) k t.raw)).2)).cell? ⟨wr.heap.size + 1, 0, none⟩ = some ((.int .i64 (tell (findL (rankOf tb) k t.raw)).1)) := hX.cell 0
            have e1 : ((W2.setCell ⟨wr.heap.size + 1, 0, none⟩ (.int .i64 (tell (findL (rankOf tb) k t.raw)).1)).setCell ⟨wr.heap.size + 1, 1, none⟩ (.bool (tell (findL (rankOf tb) k t.raw)).2)).cell? ⟨wr.heap.size + 1, 1, none⟩ = some ((.bool (tell (findL (rankOf tb) k t.raw)).2)) := hX.cell 1
            have e2 : ((W2.setCell ⟨wr.heap.size + 1, 0, none⟩ (.int .i64 (tell (findL (rankOf tb) k t.raw)).1)).setCell ⟨wr.heap.size + 1, 1, none⟩ (.bool (tell (findL (rankOf tb) k t.raw)).2)).cell? ⟨wr.heap.size + 1, 2, none⟩ = some ((.slice none 0 0)) := hX.cell 2
            have e3 : ((W2.setCell ⟨wr.heap.size + 1, 0, none⟩ (.int .i64 (tell (findL (rankOf tb) k t.raw)).1)).setCell ⟨wr.heap.size + 1, 1, none⟩ (.bool (tell (findL (rankOf tb) k t.raw)).2)).cell? ⟨wr.heap.size + 1, 3, none⟩ = some ((.slice none 0 0)) := hX.cell 3
            clear hX hX0 hB2 HQ f0 g0 f1 g1
            generalize ((W2.setCell ⟨wr.heap.size + 1, 0, none⟩ (.int .i64 (tell (findL (rankOf tb) k t.raw)).1)).setCell ⟨wr.heap.size + 1, 1, none⟩ (.bool (tell (findL (rankOf tb) k t.raw)).2)) = w2 at H2 e0 e1 e2 e3 ⊢
            have HS : Hid (stepT tb t.raw (2, k, v) = t.raw ∧ tellT tb t.raw (2, k, v) = ((tell (findL (rankOf tb) k t.raw)).1, (tell (findL (rankOf tb) k t.raw)).2, [], [])) := ⟨rfl, rfl⟩
            go_wp2_with (first | (at_builtin; refine Kd.S_append toldK (w0 := w2) (W := w2) w.heap.size rfl (.tmp 47) (.tmp 49) 43 46 (.agg #[(.int .i64 0), (.bool false), (.slice none 0 0), (.slice none 0 0)]) 64 rfl Try.underlying43 infoTold rfl (by decide) (by omega) u5 rs ((tell (findL (rankOf tb) k t.raw)).1, (tell (findL (rankOf tb) k t.raw)).2, [], []) [(.int .i64 (tell (findL (rankOf tb) k t.raw)).1), (.bool (tell (findL (rankOf tb) k t.raw)).2), (.slice none 0 0), (.slice none 0 0)] (fun b => b ≠ R ∧ b ∉ t.ids) (fun _ => False) rfl rfl (told_flat _ _ _ _) (fun _ hk => hk.elim) ?aF ?aO ?aB ?aS ?aL ?_; (case aF => exact fun k_ hk => by have h1 := H2.out.tree.lt; exact ⟨by omega, fun hb_ => by have := h1.2 _ hb_; omega⟩); (case aO => exact (Kd.S_mono H2.out.row (fun k_ hk => ⟨hk, fun h => h⟩))); (case aB => exact (Below.refl _ _)); (case aS => exact H2.out.fr.size); (case aL => have h1 := HZ.out.1; have h2 := HL.out; omega); intro v1 w3 ho hb hg hat))
            have HE := hid (H2.out.append HB.out ho hg)
            clear ho hb hg hat
            clear e0 e1 e2 e3
            go_wp2_with fail
            go_roundg k1
            case measure => omega
            case rel => exact ⟨i + 1, t, rs ++ [((tell (findL (rankOf tb) k t.raw)).1, (tell (findL (rankOf tb) k t.raw)).2, [], [])], rfl, HL.out, by have := HG.out; show k1 + (i + 1) = _; omega, HE.out, by rw [List.length_append, HZ.out.1]; rfl, by rw [← HZ.out.2.1, HX.out, List.append_assoc]; rw [← HS.out.2]; show _ = rs ++ (_ :: toldT tb (stepT tb t.raw _) _); rw [HS.out.1]; rfl, by rw [← HZ.out.2.2.1, HX.out]; show _ = runT tb (stepT tb t.raw _) _; rw [HS.out.1], ⟨Nat.le_succ_of_le HZ.out.2.2.2.1, Nat.le_succ_of_le HZ.out.2.2.2.2⟩⟩
          · by_cases h4 : d = 4
            · subst h4
              have HA : Hid (Acc (wr.heap.size + 2) (wr.heap.size + 1) 0 false [] [] ((wr.alloc (.cells #[.int .i64 4, .int .i64 k, .int .i64 v] 66)).alloc (.cells #[.int .i64 0, .bool false, .slice none 0 0, .slice none 0 0] 46))) := by
                have h0_ := (Blk.new (wr.alloc (.cells #[.int .i64 4, .int .i64 k, .int .i64 v] 66)) #[.int .i64 0, .bool false, .slice none 0 0, .slice none 0 0] 46)
                rw [alloc_size] at h0_
                exact ⟨_, _, h0_, Nat.lt_succ_self _, by rw [alloc_size, alloc_size]; exact Nat.le_refl _, Kd.R_nil .., Kd.R_nil ..⟩
              go_wp2_with fail
              refine (tEach_any base R tb t (wr.heap.size + 2) (wr.heap.size + 1) 0 false _ HW.out.tree (fun b hb => by have := HLT.out.2 b hb; omega) HA.out (by have := HZ.out.2.2.2.2; have := HL.out; omega) (by have := HEV.out; omega)).mono ?_
              rintro e w2 ⟨rfl, hA, hF⟩
              obtain ⟨K, V, hX, _, hN2, hK, hV⟩ := hA
              obtain ⟨AK, cK, hq⟩ := Kd.R_slice hK
              subst hq
              obtain ⟨AV, cV, hq⟩ := Kd.R_slice hV
              subst hq
              have HO : Hid (∀ k_, u5.ownBlock = some k_ → k_ < wr.heap.size) := fun k_ hk => (Kd.S_lt HI.out.1.row k_ hk)
              have hB2 : Below wr.heap.size wr w2 := (((Below.refl _ _).alloc (Nat.le_refl _) _).alloc (by rw [alloc_size]; exact Nat.le_succ _) _).trans ⟨hF.os, hF.tape, hF.output, hF.size, fun k_ hk => hF.block k_ (by rw [alloc_size, alloc_size]; omega) (fun e_ => by rcases e_ with e_ | e_ <;> omega)⟩
              have H2 := hid (HI.out.1.below hB2)
              have HS2 : Hid (Kd.S toldK 46 w2 w.heap.size (fun k_ => (k_ ≠ R ∧ k_ ∉ t.ids) ∧ ¬ wr.heap.size + 2 ≤ k_) u5 rs) := Kd.S_below (Kd.S_mono (Kd.S_bound HI.out.1.row) (fun k_ hk => ⟨hk.1, by have := hk.2.2.1; omega⟩)) hB2
              have HS : Hid (stepT tb t.raw (4, k, v) = t.raw ∧ tellT tb t.raw (4, k, v) = (0, false, keysV t.raw, valsV t.raw)) := ⟨rfl, rfl⟩
              have HM := hid (told_rows (base := w.heap.size) (by have := H2.out.fr.size; have := HI.out.1.fr.size; omega) hK hV 0 false)
              have e0 : w2.cell? ⟨wr.heap.size + 1, 0, none⟩ = some (.int .i64 0) := hX.cell 0
              have e1 : w2.cell? ⟨wr.heap.size + 1, 1, none⟩ = some (.bool false) := hX.cell 1
              have e2 : w2.cell? ⟨wr.heap.size + 1, 2, none⟩ = some (.slice AK (keysV t.raw).length cK) := hX.cell 2
              have e3 : w2.cell? ⟨wr.heap.size + 1, 3, none⟩ = some (.slice AV (valsV t.raw).length cV) := hX.cell 3
              clear hX hN2 hK hV hF hB2 x0 x1 x2
              go_wp2_with (first | (at_builtin; refine Kd.S_append toldK (w0 := w2) (W := w2) w.heap.size rfl (.tmp 47) (.tmp 49) 43 46 (.agg #[(.int .i64 0), (.bool false), (.slice none 0 0), (.slice none 0 0)]) 64 rfl Try.underlying43 infoTold rfl (by decide) (by omega) u5 rs (0, false, keysV t.raw, valsV t.raw) [.int .i64 0, .bool false, .slice AK (keysV t.raw).length cK, .slice AV (valsV t.raw).length cV] (fun b => b ≠ R ∧ b ∉ t.ids) (fun k_ => wr.heap.size + 2 ≤ k_) rfl rfl HM.out (fun k_ hk => ⟨⟨by have := HLT.out.1; omega, fun hb_ => by have := HLT.out.2 _ hb_; omega⟩, fun e_ => by have := HO.out k_ e_.symm; omega⟩) ?aF ?aO ?aB ?aS ?aL ?_; (case aF => exact fun k_ hk => by have h1 := H2.out.tree.lt; exact ⟨by omega, fun hb_ => by have := h1.2 _ hb_; omega⟩); (case aO => exact HS2.out); (case aB => exact (Below.refl _ _)); (case aS => exact H2.out.fr.size); (case aL => have h1 := HZ.out.1; have h2 := HL.out; omega); intro v1 w3 ho hb hg hat))
              have HE := hid (H2.out.append HB.out ho hg)
              clear ho hb hg hat
              clear e0 e1 e2 e3
              go_wp2_with fail
              go_roundg k1
              case measure => omega
              case rel => exact ⟨i + 1, t, rs ++ [(0, false, keysV t.raw, valsV t.raw)], rfl, HL.out, by have := HG.out; show k1 + (i + 1) = _; omega, HE.out, by rw [List.length_append, HZ.out.1]; rfl, by rw [← HZ.out.2.1, HX.out, List.append_assoc]; rw [← HS.out.2]; show _ = rs ++ (_ :: toldT tb (stepT tb t.raw _) _); rw [HS.out.1]; rfl, by rw [← HZ.out.2.2.1, HX.out]; show _ = runT tb (stepT tb t.raw _) _; rw [HS.out.1], ⟨Nat.le_succ_of_le HZ.out.2.2.2.1, Nat.le_succ_of_le HZ.out.2.2.2.2⟩⟩
            · have H2 : Hid (Inv base R tb t0 w t u5 rs (((wr.alloc (.cells #[.int .i64 d, .int .i64 k, .int .i64 v] 66)).alloc (.cells #[.int .i64 0, .bool false, .slice none 0 0, .slice none 0 0] 46)))) := HI.out.1.below (((Below.refl _ _).alloc (Nat.le_refl _) _).alloc (by rw [alloc_size]; exact Nat.le_succ _) _)
              have HS : Hid (stepT tb t.raw (d, k, v) = t.raw ∧ tellT tb t.raw (d, k, v) = (0, false, [], [])) := ⟨(if_neg h0).trans (if_neg h1), (if_neg h2).trans (if_neg h4)⟩
              have hX : Blk (((wr.alloc (.cells #[.int .i64 d, .int .i64 k, .int .i64 v] 66)).alloc (.cells #[.int .i64 0, .bool false, .slice none 0 0, .slice none 0 0] 46))) (wr.heap.size + 1) #[(.int .i64 0), (.bool false), (.slice none 0 0), (.slice none 0 0)] 46 := by
                have h0_ := Blk.new (wr.alloc (.cells #[.int .i64 d, .int .i64 k, .int .i64 v] 66)) #[(.int .i64 0), (.bool false), (.slice none 0 0), (.slice none 0 0)] 46
                rw [alloc_size] at h0_
                exact h0_
              have e0 : (((wr.alloc (.cells #[.int .i64 d, .int .i64 k, .int .i64 v] 66)).alloc (.cells #[.int .i64 0, .bool false, .slice none 0 0, .slice none 0 0] 46))).cell? ⟨wr.heap.size + 1, 0, none⟩ = some ((.int .i64 0)) := hX.cell 0
              have e1 : (((wr.alloc (.cells #[.int .i64 d, .int .i64 k, .int .i64 v] 66)).alloc (.cells #[.int .i64 0, .bool false, .slice none 0 0, .slice none 0 0] 46))).cell? ⟨wr.heap.size + 1, 1, none⟩ = some ((.bool false)) := hX.cell 1
              have e2 : (((wr.alloc (.cells #[.int .i64 d, .int .i64 k, .int .i64 v] 66)).alloc (.cells #[.int .i64 0, .bool false, .slice none 0 0, .slice none 0 0] 46))).cell? ⟨wr.heap.size + 1, 2, none⟩ = some ((.slice none 0 0)) := hX.cell 2
              have e3 : (((wr.alloc (.cells #[.int .i64 d, .int .i64 k, .int .i64 v] 66)).alloc (.cells #[.int .i64 0, .bool false, .slice none 0 0, .slice none 0 0] 46))).cell? ⟨wr.heap.size + 1, 3, none⟩ = some ((.slice none 0 0)) := hX.cell 3
              clear hX
              go_upto_region 15 with fail
              generalize ((wr.alloc (.cells #[.int .i64 d, .int .i64 k, .int .i64 v] 66)).alloc (.cells #[.int .i64 0, .bool false, .slice none 0 0, .slice none 0 0] 46)) = w2 at H2 e0 e1 e2 e3 ⊢
              clear x0 x1 x2
              go_wp2_with (first | (at_builtin; refine Kd.S_append toldK (w0 := w2) (W := w2) w.heap.size rfl (.tmp 47) (.tmp 49) 43 46 (.agg #[(.int .i64 0), (.bool false), (.slice none 0 0), (.slice none 0 0)]) 64 rfl Try.underlying43 infoTold rfl (by decide) (by omega) u5 rs (0, false, [], []) [(.int .i64 0), (.bool false), (.slice none 0 0), (.slice none 0 0)] (fun b => b ≠ R ∧ b ∉ t.ids) (fun _ => False) rfl rfl (told_flat _ _ _ _) (fun _ hk => hk.elim) ?aF ?aO ?aB ?aS ?aL ?_; (case aF => exact fun k_ hk => by have h1 := H2.out.tree.lt; exact ⟨by omega, fun hb_ => by have := h1.2 _ hb_; omega⟩); (case aO => exact (Kd.S_mono H2.out.row (fun k_ hk => ⟨hk, fun h => h⟩))); (case aB => exact (Below.refl _ _)); (case aS => exact H2.out.fr.size); (case aL => have h1 := HZ.out.1; have h2 := HL.out; omega); intro v1 w3 ho hb hg hat))
              have HE := hid (H2.out.append HB.out ho hg)
              clear ho hb hg hat
              go_wp2_with fail
              go_roundg k1
              case measure => omega
              case rel => exact ⟨i + 1, t, rs ++ [(0, false, [], [])], rfl, HL.out, by have := HG.out; show k1 + (i + 1) = _; omega, HE.out, by rw [List.length_append, HZ.out.1]; rfl, by rw [← HZ.out.2.1, HX.out, List.append_assoc]; rw [← HS.out.2]; show _ = rs ++ (_ :: toldT tb (stepT tb t.raw _) _); rw [HS.out.1]; rfl, by rw [← HZ.out.2.2.1, HX.out]; show _ = runT tb (stepT tb t.raw _) _; rw [HS.out.1], ⟨Nat.le_succ_of_le HZ.out.2.2.2.1, Nat.le_succ_of_le HZ.out.2.2.2.2⟩⟩
    · have e : i = l.length := by omega
      subst e
      have HF : Hid (rs = toldT tb t0.raw l ∧ t.raw = runT tb t0.raw l) := by
        have h1 := HI.out.2.2.1
        have h2 := HI.out.2.2.2.1
        rw [List.drop_length] at h1 h2
        exact ⟨by simpa [toldT] using h1, h2⟩
      go_wp2_with fail
      go_ret
      exact ⟨t, _, rfl, HF.out.2, HF.out.1 ▸ HI.out.1⟩
set_option maxRecDepth 100000 in
theorem BtreeRun_any (A0 : Option Addr) (c0 : Nat) (tb : List Int) (A : Option Addr) (c : Nat) (l : List Act3) (w : World) (h0 : Kd.C (Kd.int .i64) w A0 tb.length tb) (hn : tb.length ≤ 2147483647) (hC : Kd.C actK w A l.length l) (hl : l.length ≤ 4294967296) :
    Calls Try.prog 33 #[.slice A0 tb.length c0, .slice A l.length c] w fun e w' => ∃ v, e = .returned v ∧ Kd.S toldK 46 w' w.heap.size (fun _ => True) v (toldT tb [] l) ∧ Below w.heap.size w w' := by
  have H0 := hid h0
  have HC := hid hC
  clear h0 hC
  go_enter Try.func33, Try.ntmps33
  go_wp2_with fail
  refine (less_any A0 c0 tb w H0.out (by omega)).mono ?_
  rintro e w1 ⟨lv, rfl, hw, hL⟩
  have HL := hid hL
  have HB1 : Hid (Below w.heap.size w w1) := by rw [hw]; exact (Below.refl _ _).alloc (Nat.le_refl _) _
  clear hL hw
  go_wp2_with fail
  refine (New_any w1.heap.size tb lv w1 HL.out (Nat.le_refl _)).mono ?_
  rintro e w2 ⟨R, t0, rfl, hT, hraw0, hh0, hids0, _, hB⟩
  have HT := hid hT
  have H00 := hid (And.intro hh0 hraw0)
  have HID := hid hids0
  clear hh0 hraw0 hids0
  have HB2 := hid hB
  clear hT hB
  go_wp2_with fail
  refine (btreeDo_any w1.heap.size R tb t0 w2 A c l HT.out HB2.out.size (fun W hW => ?_) H00.out hl).mono ?_
  · exact Kd.C_below HC.out ((below_then HB1.out HB1.out.size HB2.out).trans ⟨hW.os, hW.tape, hW.output, hW.size, fun k hk => hW.block k (Nat.lt_of_lt_of_le hk HB1.out.size)⟩)
  rintro e w3 ⟨t', v, rfl, hraw, hI⟩
  rw [H00.out.2] at hI
  have HI := hid hI
  clear hI hraw
  go_wp2_with fail
  go_ret
  have b1 := HB1.out
  have b2 := HB2.out
  have b3 : Below w1.heap.size w2 w3 := HI.out.fr.below b2.size (fun k hk => by
    rcases hk with rfl | hk
    · exact HT.out.ge
    · exact HID.out _ hk)
  exact ⟨_, rfl, Kd.S_mono (Kd.S_lower HI.out.row (Nat.le_trans b1.size b2.size)) (fun _ _ => trivial), (below_then b1 b1.size b2).trans ⟨b3.os, b3.tape, b3.output, b3.size, fun k hk => b3.block k (Nat.lt_of_lt_of_le hk b1.size)⟩⟩

end Go.Proofs.Ytjlcebgfknfelaa.Bt
