/- B-trees in memory: what lies where; search. For every tree and every world in which it lies. -/
import Derived.Test.YtjlcebgfknfelaaBtA
import Derived.Test.YtjlcebgfknfelaaAvlC
import Derived.Deep.CutRange
import Derived.BigRegion
import Derived.Deep.QuietTactic
import Derived.BigQuiet
namespace Go.Proofs.Ytjlcebgfknfelaa.Bt
open Go Go.RowKit Go.IntWalk Go.Proofs.Ytjlcebgfknfelaa.Hk Go.Proofs.Ytjlcebgfknfelaa.BtPure Go.Proofs.Ytjlcebgfknfelaa.Less Go.Proofs.YtjlcebgfknfelaaW.PrintWords Go.Proofs.YtjlcebgfknfelaaW.PrintLast Go.Proofs.YtjlcebgfknfelaaW.PrintMore
open Go.Proofs.Ytjlcebgfknfelaa.Avl (LessS cmp_lt cmp_gt cmp_eq)

/-- A tree of so many levels, with the blocks in which its nodes lie. -/
def N : Nat → Type
  | 0 => Nat × List E
  | h + 1 => Nat × List (Int × N h)
def N.blk : (h : Nat) → N h → Nat
  | 0, (t : Nat × List E) => t.1
  | _ + 1, (t : Nat × List (Int × N _)) => t.1
def N.len : (h : Nat) → N h → Nat
  | 0, (t : Nat × List E) => t.2.length
  | _ + 1, (t : Nat × List (Int × N _)) => t.2.length
def N.raw : (h : Nat) → N h → T h
  | 0, (t : Nat × List E) => t.2
  | h + 1, (t : Nat × List (Int × N h)) => t.2.map (fun c => (c.1, N.raw h c.2))
def N.ids : (h : Nat) → N h → List Nat
  | 0, (t : Nat × List E) => [t.1]
  | h + 1, (t : Nat × List (Int × N h)) => t.1 :: t.2.flatMap (fun c => N.ids h c.2)
/-- What the places of a node hold, of a leaf's entries, or of an inner node's parts. -/
def Rep0 (q : Q) (x : E) : Prop := q.k = x.1 ∧ q.v = x.2.1 ∧ q.ok = x.2.2
def Rep1 {h : Nat} (q : Q) (c : Int × N h) : Prop := q.k = c.1 ∧ q.p = some ⟨N.blk h c.2, 0, none⟩
def Rep {α : Type} (R : Q → α → Prop) (g : Nat → Q) (l : List α) : Prop := ∀ i x, l[i]? = some x → R (g i) x
def N.In (w : World) : (h : Nat) → N h → Prop
  | 0, (t : Nat × List E) => ∃ g, Nd w t.1 t.2.length g ∧ Rep Rep0 g t.2
  | h + 1, (t : Nat × List (Int × N h)) => (∃ g, Nd w t.1 t.2.length g ∧ Rep Rep1 g t.2) ∧ ∀ c ∈ t.2, N.In w h c.2
/-- Each node has sixty-three entries at most, and each inner node one at least. -/
def N.Fit : (h : Nat) → N h → Prop
  | 0, (t : Nat × List E) => t.2.length ≤ 63
  | h + 1, (t : Nat × List (Int × N h)) => t.2.length ≤ 63 ∧ 1 ≤ t.2.length ∧ ∀ c ∈ t.2, N.Fit h c.2
theorem N.blk_in : ∀ {h : Nat} (t : N h), N.blk h t ∈ N.ids h t
  | 0, t => by show t.1 ∈ [t.1]; simp
  | h + 1, t => by show t.1 ∈ t.1 :: _; simp
theorem N.len_raw : ∀ {h : Nat} (t : N h), T.len h (N.raw h t) = N.len h t
  | 0, _ => rfl
  | h + 1, (t : Nat × List (Int × N h)) => by show (t.2.map _).length = t.2.length; simp
theorem N.In.lt {w : World} : ∀ {h : Nat} {t : N h}, N.In w h t → ∀ b ∈ N.ids h t, b < w.heap.size
  | 0, t, ⟨g, hN, _⟩, b, hb => by
    have hb' : b ∈ [t.1] := hb
    rw [List.mem_singleton.1 hb']; exact hN.lt
  | h + 1, t, ⟨⟨g, hN, _⟩, hc⟩, b, hb => by
    have hb' : b ∈ t.1 :: t.2.flatMap (fun c => N.ids h c.2) := hb
    rcases List.mem_cons.1 hb' with rfl | hb'
    · exact hN.lt
    · obtain ⟨c, hm, hb'⟩ := List.mem_flatMap.1 hb'
      exact N.In.lt (hc c hm) b hb'
theorem N.In.kept {w w' : World} : ∀ {h : Nat} {t : N h}, N.In w h t → (∀ b ∈ N.ids h t, w'.heap[b]? = w.heap[b]?) → N.In w' h t
  | 0, t, ⟨g, hN, hR⟩, hk => ⟨g, (hk t.1 (by show t.1 ∈ [t.1]; simp)).trans hN, hR⟩
  | h + 1, t, ⟨⟨g, hN, hR⟩, hc⟩, hk => ⟨⟨g, (hk t.1 (by show t.1 ∈ t.1 :: _; simp)).trans hN, hR⟩, fun c hm => N.In.kept (hc c hm) (fun b hb => hk b (by
    show b ∈ t.1 :: t.2.flatMap (fun c => N.ids h c.2)
    exact List.mem_cons_of_mem _ (List.mem_flatMap.2 ⟨c, hm, hb⟩)))⟩
theorem N.In.fr {S : Nat → Prop} {w w' : World} {h : Nat} {t : N h} (hi : N.In w h t) (hf : Fr S w w') (hn : ∀ b ∈ N.ids h t, ¬ S b) : N.In w' h t :=
  hi.kept (fun b hb => hf.block b (hi.lt b hb) (hn b hb))
theorem N.In.below {w w' : World} {h : Nat} {t : N h} (hi : N.In w h t) (hb : Below w.heap.size w w') : N.In w' h t :=
  hi.kept (fun b hm => hb.block b (hi.lt b hm))

theorem arr_cells (g : Nat → Q) : ∀ j v, (arrC g).toList[j]? = some v → j < 256 ∧ (arrC g)[j]? = some v := fun j v hv => by
  rw [Array.getElem?_toList] at hv
  have := (Array.getElem?_eq_some_iff.1 hv).1
  rw [arr_size] at this
  exact ⟨this, hv⟩
theorem Nd.arr {w : World} {b : Nat} {m : Int} {g : Nat → Q} (h : Nd w b m g) : w.rangeAt b 1 (arrC g).toList := fun j v hv => by
  obtain ⟨hj, hv⟩ := arr_cells g j v hv
  rw [Blk.cell h, show 1 + j = j + 1 by omega, cells_arr m g j hj, hv]
theorem zero_arr : Try.zeroCells111 = arrC (fun _ => q0) := by kernel_rfl
/-- The copy of a node's array. -/
def Cp (w : World) (b : Nat) (g : Nat → Q) : Prop := Blk w b (arrC g) 111
theorem Cp.at {w : World} {b : Nat} {g : Nat → Q} (h : Cp w b g) (x f : Nat) (hx : x < 64) (hf : f < 4) : w.cell? ⟨b, x * 4 + f, none⟩ = some ((g x).cell f) := by
  rw [Blk.cell h, show x * 4 + f = 4 * x + f by omega, arr_at _ _ _ hx hf]
theorem one_arr (g : Nat → Q) : (arrC g).all (·.oneCell') = true := by
  refine Array.all_eq_true_iff_forall_mem.2 (fun v hv => ?_)
  obtain ⟨i, hi⟩ := Array.mem_iff_getElem?.1 hv
  have h256 := (Array.getElem?_eq_some_iff.1 hi).1
  rw [arr_size] at h256
  have h1 := arr_at g (i / 4) (i % 4) (by omega) (by omega)
  rw [show 4 * (i / 4) + i % 4 = i by omega, hi] at h1
  obtain rfl := Option.some.inj h1
  have : ∀ (q : Q) (f : Nat), (q.cell f).oneCell' = true := fun q f => by
    match f with
    | 0 => rfl
    | 1 => rfl
    | 2 => rfl
    | _ + 3 => rfl
  exact this _ _

theorem below_le {a base : Nat} {w w' : World} (h : Below a w w') (hb : base ≤ a) : Below base w w' := ⟨h.os, h.tape, h.output, h.size, fun k hk => h.block k (Nat.lt_of_lt_of_le hk hb)⟩
theorem below_dr {base : Nat} {a w : World} (h : Below base a w) : Below base a w.drew := ⟨h.os, h.tape, h.output, h.size, h.block⟩
theorem Nd.below {w w' : World} {b base : Nat} {m : Int} {g : Nat → Q} (h : Nd w b m g) (hb : Below base w w') (hn : b < base) : Nd w' b m g := Blk.below h hb hn
section
variable {P : Program} {ops : Array Oper} {Q : Exit → Act → World → Prop} {op : Oper} {rest : List Oper} {a a' : Act} {w w' : World} {v : Value} {M : Option Tmp}
theorem l_val (hg : op.guard = none) (hN : op.dst = M) (hrun : (execOp a.eval op).run P w = .ok (.value v) w') (ha : a.put M v = a') (h : wpList P ops Q rest a' w') : wpList P ops Q (op :: rest) a w :=
  wpList_plain hg fun K hK => by
    unfold Oper.wp
    rw [hrun]
    subst hN ha
    exact hK _ _ h
theorem l_skip (hg : op.guard = none) (hN : op.dst = none) (hrun : (execOp a.eval op).run P w = .ok .skip w') (h : wpList P ops Q rest a w') : wpList P ops Q (op :: rest) a w :=
  wpList_plain hg fun K hK => by
    unfold Oper.wp
    rw [hrun]
    show K (a.put op.dst undef) w'
    rw [hN]
    exact hK _ _ h
end
/-- The copy is laid into the block that was made last. -/
theorem copy_ {ops : Array Oper} {Qx : Exit → Act → World → Prop} {op : Oper} {rest : List Oper} {a : Act} {w : World} {g : Nat → Q} (hg : op.guard = none) (hd : op.dst = none) (ho : op.op = .store 111 (.tmp 10) (.tmp 17)) (hx : a.eval (.tmp 10) = .pointer (some ⟨w.heap.size, 0, none⟩)) (hy : a.eval (.tmp 17) = .agg (arrC g).toList.toArray)
    (hz : (Try.prog.info? 111).map (·.size) = some 256) (h : wpList Try.prog ops Qx rest a (w.alloc (.cells (arrC g) 111))) : wpList Try.prog ops Qx (op :: rest) a (w.alloc (.cells Try.zeroCells111 111)) := by
  rw [Array.toArray_toList] at hy
  refine l_skip hg hd ?_ h
  simp only [execOp, ho, hx, hy]
  have := run_storeAt_new (P := Try.prog) w 111 Try.zeroCells111 (arrC g) (by rw [arr_size]; exact hz) (by rw [zero_arr, arr_size, arr_size]) (one_arr g)
  simp [this, Result.andThen]
theorem find_at {tb : List Int} (key : Int) : ∀ {es : List E} {i : Nat} {x : E}, (∀ y e, y < i → es[y]? = some e → rankOf tb key ≠ rankOf tb e.1) → es[i]? = some x → rankOf tb key = rankOf tb x.1 → findL (rankOf tb) key es = some x
  | [], _, _, _, h, _ => by simp at h
  | e :: es, 0, x, _, h, hk => by
    obtain rfl : e = x := by simpa using h
    unfold findL
    rw [List.find?_cons_of_pos (by simpa using hk)]
  | e :: es, i + 1, x, hn, h, hk => by
    have h0 := hn 0 e (by omega) rfl
    have ih := find_at key (es := es) (i := i) (fun y e' hy he => hn (y + 1) e' (by omega) (by simpa using he)) (by simpa using h) hk
    unfold findL at ih ⊢
    rw [List.find?_cons_of_neg (by simpa using h0)]
    exact ih
theorem pick_at {α : Type} {r : Int → Int} (k : Int) : ∀ {cs : List (Int × α)} {j : Nat} {c : Int × α}, (∀ y d, 1 ≤ y → y ≤ j → cs[y]? = some d → ¬ r k < r d.1) → cs[j]? = some c → (j + 1 = cs.length ∨ ∃ d, cs[j + 1]? = some d ∧ r k < r d.1) → pick r k cs = some c.2
  | [], _, _, _, h, _ => by simp at h
  | [c'], 0, c, _, h, _ => by
    obtain rfl : c' = c := by simpa using h
    rfl
  | [c'], j + 1, c, _, h, _ => by simp at h
  | c' :: d :: cs, 0, c, _, h, hd => by
    obtain rfl : c' = c := by simpa using h
    rw [pick, if_pos]
    rcases hd with hd | ⟨d', h1, h2⟩
    · simp at hd
    · obtain rfl : d = d' := by simpa using h1
      exact h2
  | c' :: d :: cs, j + 1, c, hn, h, hd => by
    have h1 := hn 1 d (Nat.le_refl _) (by omega) rfl
    rw [pick, if_neg h1]
    refine pick_at k (cs := d :: cs) (j := j) (fun y e hy hle he => hn (y + 1) e (by omega) (by omega) (by simpa using he)) (by simpa using h) ?_
    rcases hd with hd | ⟨d', h2, h3⟩
    · left; simp only [List.length_cons] at hd ⊢; omega
    · exact .inr ⟨d', by simpa using h2, h3⟩
set_option maxHeartbeats 4000000 in
set_option maxRecDepth 100000 in
theorem search_leaf (base R : Nat) (tb : List Int) (key n H : Int) (rp lv : Value) (t : N 0) (w : World) (hI : N.In w 0 t) (hF : N.Fit 0 t) (hR : Blk w R #[rp, .int .i64 H, .int .i64 n, lv] 115) (hL : LessS base w lv tb) (hb : base ≤ w.heap.size) :
    Calls Try.prog 93 #[.pointer (some ⟨R, 0, none⟩), .pointer (some ⟨N.blk 0 t, 0, none⟩), .int .i64 key, .int .i64 0] w fun e w' =>
      e = .returned (.tuple #[.int .i64 (tell (T.find (rankOf tb) key 0 (N.raw 0 t))).1, .bool (tell (T.find (rankOf tb) key 0 (N.raw 0 t))).2]) ∧ Below w.heap.size w w' := by
  obtain ⟨b, es⟩ := t
  obtain ⟨g, hN, hP⟩ := hI
  have HN : Hid (Nd w b es.length g) := hN
  have HP : Hid (Rep Rep0 g es) := hP
  have HF : Hid (es.length ≤ 63) := hF
  have HR := hid hR
  have HL := hid hL
  have HB := hid hb
  clear hN hP hF hR hL hb
  show Calls Try.prog 93 #[.pointer (some ⟨R, 0, none⟩), .pointer (some ⟨b, 0, none⟩), .int .i64 key, .int .i64 0] w fun e w' => e = .returned (.tuple #[.int .i64 (tell (findL (rankOf tb) key es)).1, .bool (tell (findL (rankOf tb) key es)).2]) ∧ Below w.heap.size w w'
  have HZ : Hid ((Try.prog.info? 111).map (·.size) = some 256) := (by kernel_rfl : (Try.prog.info? 111).map (·.size) = some 256)
  go_enter Try.func93, Try.ntmps93
  go_upto_region 1 with fail
  refine wp_region_lit ?_
  refine l_val (v := .pointer (some ⟨b, 0, none⟩)) rfl rfl (by rfl) rfl ?_
  refine l_val rfl rfl (by rfl) rfl ?_
  refine l_val (v := .pointer (some ⟨b, 1, none⟩)) (w' := w) rfl rfl ?_ rfl ?_
  · go_simp
  refine wpList_load_mid rfl 111 (.tmp 16) rfl b 1 rfl (arrC g).toList (.array 64 110) HN.out.arr Try.underlying111 rfl (by rw [Array.length_toList, arr_size]; exact HZ.out) ?_
  refine l_val (v := .pointer (some ⟨w.heap.size, 0, none⟩)) (w' := w.alloc (.cells Try.zeroCells111 111)) rfl rfl ?_ rfl ?_
  · go_simp
  refine copy_ (g := g) rfl rfl rfl rfl rfl HZ.out ?_
  refine wpList_nil ?_
  simp only [Act.put, List.setIfInBounds_toArray, List.set_cons_zero, List.set_cons_succ]
  have HC : Hid (Cp (w.alloc (.cells (arrC g) 111)) w.heap.size g) := Blk.new w _ _
  have HW : Hid (Below w.heap.size w (w.alloc (.cells (arrC g) 111))) := (Below.refl _ _).alloc (Nat.le_refl _) _
  generalize (arrC g).toList.toArray = AG
  generalize w.alloc (.cells (arrC g) 111) = W at HC HW ⊢
  go_wp2_with fail
  go_loopg [11] es.length (fun n_ v11 wr => ∃ i : Nat, v11 = .int .i64 i ∧ i ≤ es.length ∧ Hid (n_ + i = es.length) ∧ Hid (Below w.heap.size w wr ∧ Cp wr w.heap.size g ∧ ∀ x e, x < i → es[x]? = some e → rankOf tb key ≠ rankOf tb e.1))
  case atStart => exact ⟨0, rfl, Nat.zero_le _, Nat.add_zero _, HW.out, HC.out, fun x e hx => absurd hx (Nat.not_lt_zero _)⟩
  case round =>
    obtain ⟨i, rfl, hi, HG, HI⟩ := hrel
    have c0 : wr.cell? ⟨b, 0, none⟩ = some (.int .i64 es.length) := (Nd.below HN.out HI.out.1 HN.out.lt).m0
    by_cases hlt : i < es.length
    · have hx : es[i]? = some es[i] := List.getElem?_eq_getElem hlt
      have h64 : i < 64 := by have := HF.out; omega
      generalize es[i] = x at hx
      have hk := (HP.out i x hx).1
      have hv := (HP.out i x hx).2.1
      have ho := (HP.out i x hx).2.2
      have a0 : wr.cell? ⟨w.heap.size, i * 4, none⟩ = some (.int .i64 x.1) := by rw [← hk]; exact HI.out.2.1.at i 0 h64 (by omega)
      have a1 : wr.cell? ⟨w.heap.size, i * 4 + 1, none⟩ = some (.int .i64 x.2.1) := by rw [← hv]; exact HI.out.2.1.at i 1 h64 (by omega)
      have a2 : wr.cell? ⟨w.heap.size, i * 4 + 2, none⟩ = some (.bool x.2.2) := by rw [← ho]; exact HI.out.2.1.at i 2 h64 (by omega)
      have c3 : wr.cell? ⟨R, 3, none⟩ = some lv := (HR.out.below HI.out.1 HR.out.lt).cell 3
      have HX := hid hx
      have HLV : Hid (LessV wr.drew lv tb) := (HL.out.to (below_le HI.out.1 HB.out)).drewN 1 |>.now
      clear hk hv ho hx
      have r1 : (i : Int) < 64 := by omega
      have hlti : (i : Int) < es.length := by omega
      go_upto_region 6 with fail
      refine still_tail_drew 9 (by kernel_rfl) (by kernel_rfl) ?_
      simp only [List.take_succ_cons, List.take_zero, List.drop_succ_cons, List.drop_zero]
      repeat still_step
      refine wpStill_nil ?_
      go_wp2_with fail
      refine (compare_any lv tb key x.1 _ HLV.out).mono ?_
      rintro e w1 ⟨rfl, q, rfl⟩
      have HS : Hid (Below w.heap.size w (wr.drew.drewN q)) := ⟨HI.out.1.os, HI.out.1.tape, HI.out.1.output, HI.out.1.size, HI.out.1.block⟩
      have HC2 : Hid (Cp (wr.drew.drewN q) w.heap.size g) := HI.out.2.1
      by_cases he : rankOf tb key = rankOf tb x.1
      · have hc : cmp tb key x.1 = 0 := cmp_eq (by omega) (by omega)
        rw [hc]
        have HE := hid he
        clear hc he
        have a1' : (wr.drew.drewN q).cell? ⟨w.heap.size, i * 4 + 1, none⟩ = some (.int .i64 x.2.1) := a1
        have a2' : (wr.drew.drewN q).cell? ⟨w.heap.size, i * 4 + 2, none⟩ = some (.bool x.2.2) := a2
        clear a0 a1 a2 c0 c3
        generalize wr.drew.drewN q = W2 at HS HC2 a1' a2' ⊢
        go_upto_region 7 with fail
        go_region
        go_wp2_with fail
        go_ret2
        rw [find_at key HI.out.2.2 HX.out HE.out]
        exact ⟨rfl, below_dr HS.out⟩
      · have hc : cmp tb key x.1 ≠ 0 := fun h => he (by unfold cmp at h; split at h <;> (try split at h) <;> omega)
        have hc2 : (cmp tb key x.1 == 0) = false := beq_eq_false_iff_ne.2 hc
        have HE := hid he
        clear he a0 a1 a2 c0 c3
        generalize cmp tb key x.1 = cv at hc hc2 ⊢
        generalize wr.drew.drewN q = W2 at HS HC2 ⊢
        go_wp2_with fail
        have hg0 := HG.out
        obtain ⟨k1, rfl⟩ : ∃ k1, gk = k1 + 1 := ⟨gk - 1, by omega⟩
        go_roundg k1
        case measure => omega
        case rel => exact ⟨i + 1, rfl, hlt, by show k1 + (i + 1) = es.length; omega, HS.out, HC2.out, fun y e hy hq => by
          by_cases hyi : y = i
          · subst hyi; rw [HX.out] at hq; obtain rfl := Option.some.inj hq; exact HE.out
          · exact HI.out.2.2 y e (by omega) hq⟩
    · have HNL := hid hlt
      have hlti : ¬ (i : Int) < es.length := by omega
      go_wp2_with fail
      go_ret2
      have hn : findL (rankOf tb) key es = none := List.find?_eq_none.2 (fun e he => by
        obtain ⟨y, hy, rfl⟩ := List.getElem_of_mem he
        simpa using HI.out.2.2 y _ (by omega) (List.getElem?_eq_getElem hy))
      exact ⟨by rw [hn]; rfl, HI.out.1⟩
set_option maxHeartbeats 4000000 in
set_option maxRecDepth 100000 in
theorem search_any (base R : Nat) (tb : List Int) (key n H : Int) (rp lv : Value) : ∀ (h : Nat) (t : N h) (w : World), N.In w h t → N.Fit h t → Blk w R #[rp, .int .i64 H, .int .i64 n, lv] 115 → LessS base w lv tb → base ≤ w.heap.size → h ≤ 1099511627776 →
    Calls Try.prog 93 #[.pointer (some ⟨R, 0, none⟩), .pointer (some ⟨N.blk h t, 0, none⟩), .int .i64 key, .int .i64 h] w fun e w' =>
      e = .returned (.tuple #[.int .i64 (tell (T.find (rankOf tb) key h (N.raw h t))).1, .bool (tell (T.find (rankOf tb) key h (N.raw h t))).2]) ∧ Below w.heap.size w w'
  | 0, t, w, hI, hF, hR, hL, hb, _ => search_leaf base R tb key n H rp lv t w hI hF hR hL hb
  | h + 1, (b, cs), w, hI, hF, hR, hL, hb, hh => by
    obtain ⟨⟨g, hN, hP⟩, hI'⟩ := hI
    have ih := search_any base R tb key n H rp lv h
    have HIH := hid ih
    have HN : Hid (Nd w b cs.length g) := hN
    have HP : Hid (Rep Rep1 g cs) := hP
    have HI1 : Hid (∀ c ∈ cs, N.In w h c.2) := hI'
    have HF : Hid (cs.length ≤ 63 ∧ 1 ≤ cs.length ∧ ∀ c ∈ cs, N.Fit h c.2) := hF
    have HR := hid hR
    have HL := hid hL
    have HB := hid hb
    have HH := hid hh
    clear hN hP hF hR hL hb hI' ih hh
    have HT : ∀ j c, (∀ y d, 1 ≤ y → y ≤ j → cs[y]? = some d → ¬ rankOf tb key < rankOf tb d.1) → cs[j]? = some c → (j + 1 = cs.length ∨ ∃ d, cs[j + 1]? = some d ∧ rankOf tb key < rankOf tb d.1) → T.find (rankOf tb) key (h + 1) (N.raw (h + 1) (b, cs)) = T.find (rankOf tb) key h (N.raw h c.2) := fun j c h1 h2 h3 => by
      show (pick (rankOf tb) key (cs.map (fun c => (c.1, N.raw h c.2)))).bind (fun t => T.find (rankOf tb) key h t) = _
      have p1 : ∀ y d, 1 ≤ y → y ≤ j → (cs.map (fun c => (c.1, N.raw h c.2)))[y]? = some d → ¬ rankOf tb key < rankOf tb d.1 := fun y d hy hle he => by
        rw [List.getElem?_map] at he
        obtain ⟨d', hd, rfl⟩ := Option.map_eq_some_iff.1 he
        exact h1 y d' hy hle hd
      have p2 : (cs.map (fun c => (c.1, N.raw h c.2)))[j]? = some (c.1, N.raw h c.2) := by rw [List.getElem?_map, h2]; rfl
      have p3 : j + 1 = (cs.map (fun c => (c.1, N.raw h c.2))).length ∨ ∃ d, (cs.map (fun c => (c.1, N.raw h c.2)))[j + 1]? = some d ∧ rankOf tb key < rankOf tb d.1 := by
        rcases h3 with h3 | ⟨d, h3, h4⟩
        · exact .inl (by rw [List.length_map]; exact h3)
        · exact .inr ⟨(d.1, N.raw h d.2), by rw [List.getElem?_map, h3]; rfl, h4⟩
      rw [pick_at key p1 p2 p3]
      rfl
    have HTT := hid HT
    clear HT
    show Calls Try.prog 93 #[.pointer (some ⟨R, 0, none⟩), .pointer (some ⟨b, 0, none⟩), .int .i64 key, .int .i64 ((h + 1 : Nat) : Int)] w _
    generalize T.find (rankOf tb) key (h + 1) (N.raw (h + 1) (b, cs)) = FF at HTT ⊢
    have hz : (((h + 1 : Nat) : Int) == 0) = false := beq_eq_false_iff_ne.2 (by omega)
    have hz2 : wrap64 (((h + 1 : Nat) : Int) - 1) = (h : Int) := by have := HH.out; rw [wrap64_in _ (by omega)]; omega
    have HZ : Hid ((Try.prog.info? 111).map (·.size) = some 256) := (by kernel_rfl : (Try.prog.info? 111).map (·.size) = some 256)
    obtain ⟨hv, hhv⟩ : ∃ hv : Int, hv = ((h + 1 : Nat) : Int) := ⟨_, rfl⟩
    rw [← hhv] at hz hz2 ⊢
    have HHV := hid hhv
    clear hhv
    go_enter Try.func93, Try.ntmps93
    go_upto_region 1 with fail
    refine wp_region_lit ?_
    refine l_val (v := .pointer (some ⟨b, 0, none⟩)) rfl rfl (by rfl) rfl ?_
    refine l_val rfl rfl (by rfl) rfl ?_
    refine l_val (v := .pointer (some ⟨b, 1, none⟩)) (w' := w) rfl rfl ?_ rfl ?_
    · go_simp
    refine wpList_load_mid rfl 111 (.tmp 16) rfl b 1 rfl (arrC g).toList (.array 64 110) HN.out.arr Try.underlying111 rfl (by rw [Array.length_toList, arr_size]; exact HZ.out) ?_
    refine l_val (v := .pointer (some ⟨w.heap.size, 0, none⟩)) (w' := w.alloc (.cells Try.zeroCells111 111)) rfl rfl ?_ rfl ?_
    · go_simp
    refine copy_ (g := g) rfl rfl rfl rfl rfl HZ.out ?_
    refine wpList_nil ?_
    simp only [Act.put, List.setIfInBounds_toArray, List.set_cons_zero, List.set_cons_succ]
    have HC : Hid (Cp (w.alloc (.cells (arrC g) 111)) w.heap.size g) := Blk.new w _ _
    have HW : Hid (Below w.heap.size w (w.alloc (.cells (arrC g) 111))) := (Below.refl _ _).alloc (Nat.le_refl _) _
    generalize (arrC g).toList.toArray = AG
    generalize w.alloc (.cells (arrC g) 111) = W at HC HW ⊢
    go_wp2_with fail
    go_loopg [12] cs.length (fun n_ v12 wr => ∃ i : Nat, v12 = .int .i64 i ∧ i < cs.length ∧ Hid (n_ + i = cs.length) ∧ Hid (Below w.heap.size w wr ∧ Cp wr w.heap.size g ∧ ∀ y d, 1 ≤ y → y ≤ i → cs[y]? = some d → ¬ rankOf tb key < rankOf tb d.1))
    case atStart => exact ⟨0, rfl, HF.out.2.1, Nat.add_zero _, HW.out, HC.out, fun y d h1 h2 => by omega⟩
    case round =>
      obtain ⟨i, rfl, hlt, HG, HI⟩ := hrel
      have c0 : wr.cell? ⟨b, 0, none⟩ = some (.int .i64 cs.length) := (Nd.below HN.out HI.out.1 HN.out.lt).m0
      have hx : cs[i]? = some cs[i] := List.getElem?_eq_getElem hlt
      have h63 := HF.out.1
      have hcm : cs[i] ∈ cs := List.getElem_mem hlt
      generalize cs[i] = x at hx hcm
      have hp := (HP.out i x hx).2
      have c3 : wr.cell? ⟨R, 3, none⟩ = some lv := (HR.out.below HI.out.1 HR.out.lt).cell 3
      have HX := hid hx
      have HXF : Hid (N.Fit h x.2 ∧ N.In w h x.2) := ⟨HF.out.2.2 x hcm, HI1.out x hcm⟩
      have HLV : Hid (LessV wr.drew lv tb) := (HL.out.to (below_le HI.out.1 HB.out)).drewN 1 |>.now
      have hlti : (i : Int) < cs.length := by omega
      have hw1 : IntKind.i64.wrap ((i : Int) + 1) = ((i + 1 : Nat) : Int) := by rw [i64_in _ (by omega)]; rfl
      have r1 : (i : Int) < 64 := by omega
      have hp3 : wr.cell? ⟨w.heap.size, i * 4 + 3, none⟩ = some (.pointer (some ⟨N.blk h x.2, 0, none⟩)) := by rw [← hp]; exact HI.out.2.1.at i 3 (by omega) (by omega)
      clear hp hx hcm
      by_cases hl : i + 1 = cs.length
      · have hm : ((cs.length : Int) == ((i + 1 : Nat) : Int)) = true := by rw [hl]; simp
        go_wp2_with fail
        go_quiet ((fail))
        go_wp2_with fail
        have HXD := hid (HXF.out.2.below HI.out.1)
        have HXR : Hid (Blk wr R #[rp, .int .i64 H, .int .i64 n, lv] 115 ∧ LessS base wr lv tb ∧ base ≤ wr.heap.size) := ⟨HR.out.below HI.out.1 HR.out.lt, HL.out.to (below_le HI.out.1 HB.out), Nat.le_trans HB.out HI.out.1.size⟩
        refine (HIH.out x.2 (wr.drewN nq) (N.In.kept HXD.out (fun _ _ => rfl)) HXF.out.1 HXR.out.1 (HXR.out.2.1.drewN nq) HXR.out.2.2 (by have := HH.out; omega)).mono ?_
        rintro e w2 ⟨rfl, hB2⟩
        have HB2 := hid hB2
        clear hB2
        go_wp2_with fail
        go_ret2
        have hB3 : Below w.heap.size w w2 := HI.out.1.trans (below_le ⟨HB2.out.os, HB2.out.tape, HB2.out.output, HB2.out.size, HB2.out.block⟩ HI.out.1.size)
        exact ⟨by rw [HTT.out i x HI.out.2.2 HX.out (.inl hl)]; rfl, hB3⟩
      · have hm : ((cs.length : Int) == ((i + 1 : Nat) : Int)) = false := beq_eq_false_iff_ne.2 (by omega)
        have hl2 : i + 1 < cs.length := by omega
        have hm2 : ((cs.length : Int) == (i : Int) + 1) = false := beq_eq_false_iff_ne.2 (by omega)
        have hm3 : ¬ (cs.length : Int) = (i : Int) + 1 := by omega
        have hm4 : (cs.length == i + 1) = false := beq_eq_false_iff_ne.2 (by omega)
        have hm5 : ¬ cs.length = i + 1 := by omega
        have hx2 : cs[i + 1]? = some cs[i + 1] := List.getElem?_eq_getElem hl2
        generalize cs[i + 1] = x2 at hx2
        have hk2 := (HP.out (i + 1) x2 hx2).1
        have a0 : wr.cell? ⟨w.heap.size, (i + 1) * 4, none⟩ = some (.int .i64 x2.1) := by rw [← hk2]; exact HI.out.2.1.at (i + 1) 0 (by omega) (by omega)
        have HX2 := hid hx2
        clear hk2 hx2
        have HLS : Hid (LessS base wr lv tb) := HL.out.to (below_le HI.out.1 HB.out)
        have r2 : 0 ≤ (i : Int) + 1 ∧ (i : Int) + 1 < 64 := by omega
        have t0 : ((i : Int) + 1).toNat = i + 1 := by omega
        go_wp2_with fail
        go_quiet ((exact Calls.quiet_of (compare_any lv tb key x2.1 _ (HLS.out.drewN _).now)))
        have HXD := hid (HXF.out.2.below HI.out.1)
        have HXR : Hid (Blk wr R #[rp, .int .i64 H, .int .i64 n, lv] 115 ∧ LessS base wr lv tb ∧ base ≤ wr.heap.size) := ⟨HR.out.below HI.out.1 HR.out.lt, HL.out.to (below_le HI.out.1 HB.out), Nat.le_trans HB.out HI.out.1.size⟩
        by_cases hc : rankOf tb key < rankOf tb x2.1
        · have HCC := hid hc
          rw [cmp_lt hc]
          clear hc
          go_wp2_with fail
          refine (HIH.out x.2 (wr.drewN nq) (N.In.kept HXD.out (fun _ _ => rfl)) HXF.out.1 HXR.out.1 (HXR.out.2.1.drewN nq) HXR.out.2.2 (by have := HH.out; omega)).mono ?_
          rintro e w2 ⟨rfl, hB2⟩
          have HB2 := hid hB2
          clear hB2
          go_wp2_with fail
          go_ret2
          have hB3 : Below w.heap.size w w2 := HI.out.1.trans (below_le ⟨HB2.out.os, HB2.out.tape, HB2.out.output, HB2.out.size, HB2.out.block⟩ HI.out.1.size)
          exact ⟨by rw [HTT.out i x HI.out.2.2 HX.out (.inr ⟨x2, HX2.out, HCC.out⟩)]; rfl, hB3⟩
        · have HCC := hid hc
          have hcz : (0 : Int) ≤ cmp tb key x2.1 := by unfold cmp; rw [if_neg hc]; split <;> omega
          have hcz2 : ¬ cmp tb key x2.1 < 0 := by omega
          have hcz3 : decide (cmp tb key x2.1 < 0) = false := decide_eq_false hcz2
          clear hc
          generalize cmp tb key x2.1 = cv at hcz hcz2 hcz3 ⊢
          go_wp2_with fail
          have hg0 := HG.out
          obtain ⟨k1, rfl⟩ : ∃ k1, gk = k1 + 1 := ⟨gk - 1, by omega⟩
          go_roundg k1
          case measure => omega
          case rel => exact ⟨i + 1, rfl, hl2, by show k1 + (i + 1) = cs.length; omega, ⟨HI.out.1.os, HI.out.1.tape, HI.out.1.output, HI.out.1.size, HI.out.1.block⟩, HI.out.2.1, fun y d h1 h2 hd => by
            by_cases hyi : y = i + 1
            · subst hyi; rw [HX2.out] at hd; obtain rfl := Option.some.inj hd; exact HCC.out
            · exact HI.out.2.2 y d h1 (by omega) hd⟩
end Go.Proofs.Ytjlcebgfknfelaa.Bt
