/- What the law's row stands on, part 3: contracts of functions, for the arguments and worlds that each one names. -/
import Derived.Test.YtjlcebgfknfelaaCkFnTreesAgree2
import Derived.Deep.CutRange
import Derived.BigRegion
import Derived.Deep.QuietTactic
import Derived.BigQuiet
import Derived.Deep.DeepCutAuto
namespace Go.Proofs.Ytjlcebgfknfelaa.Bt
open Go Go.RowKit Go.IntWalk Go.Proofs.Ytjlcebgfknfelaa.Hk Go.Proofs.Ytjlcebgfknfelaa.BtPure Go.Proofs.Ytjlcebgfknfelaa.Less Go.Proofs.YtjlcebgfknfelaaW.PrintWords Go.Proofs.YtjlcebgfknfelaaW.PrintLast Go.Proofs.YtjlcebgfknfelaaW.PrintMore
open Go.Proofs.Ytjlcebgfknfelaa.Avl (LessS cmp_lt cmp_gt cmp_eq)
/-- A tree of so many levels, with the blocks in which its nodes lie. -/
def N : Nat → Type
  | 0 => Nat × List E
  | h + 1 => Nat × List (Int × N h)
def N.blk : (h : Nat) → N h → Nat
  | 0, (t : Nat × List E) => t.1
  | _ + 1, (t : Nat × List (Int × N _)) => t.1
def N.len : (h : Nat) → N h → Nat
  | 0, (t : Nat × List E) => t.2.length
  | _ + 1, (t : Nat × List (Int × N _)) => t.2.length
def N.raw : (h : Nat) → N h → T h
  | 0, (t : Nat × List E) => t.2
  | h + 1, (t : Nat × List (Int × N h)) => t.2.map (fun c => (c.1, N.raw h c.2))
def N.ids : (h : Nat) → N h → List Nat
  | 0, (t : Nat × List E) => [t.1]
  | h + 1, (t : Nat × List (Int × N h)) => t.1 :: t.2.flatMap (fun c => N.ids h c.2)
/-- What the places of a node hold, of a leaf's entries, or of an inner node's parts. -/
def Rep0 (q : Q) (x : E) : Prop := q.k = x.1 ∧ q.v = x.2.1 ∧ q.ok = x.2.2
def Rep1 {h : Nat} (q : Q) (c : Int × N h) : Prop := q.k = c.1 ∧ q.p = some ⟨N.blk h c.2, 0, none⟩
def Rep {α : Type} (R : Q → α → Prop) (g : Nat → Q) (l : List α) : Prop := ∀ i x, l[i]? = some x → R (g i) x
def N.In (w : World) : (h : Nat) → N h → Prop
  | 0, (t : Nat × List E) => ∃ g, Nd w t.1 t.2.length g ∧ Rep Rep0 g t.2
  | h + 1, (t : Nat × List (Int × N h)) => (∃ g, Nd w t.1 t.2.length g ∧ Rep Rep1 g t.2) ∧ ∀ c ∈ t.2, N.In w h c.2
/-- Each node has sixty-three entries at most, and each inner node one at least. -/
def N.Fit : (h : Nat) → N h → Prop
  | 0, (t : Nat × List E) => t.2.length ≤ 63
  | h + 1, (t : Nat × List (Int × N h)) => t.2.length ≤ 63 ∧ 1 ≤ t.2.length ∧ ∀ c ∈ t.2, N.Fit h c.2
theorem N.blk_in : ∀ {h : Nat} (t : N h), N.blk h t ∈ N.ids h t
  | 0, t => by show t.1 ∈ [t.1]; simp
  | h + 1, t => by show t.1 ∈ t.1 :: _; simp
theorem N.In.lt {w : World} : ∀ {h : Nat} {t : N h}, N.In w h t → ∀ b ∈ N.ids h t, b < w.heap.size
  | 0, t, ⟨g, hN, _⟩, b, hb => by
    have hb' : b ∈ [t.1] := hb
    rw [List.mem_singleton.1 hb']; exact hN.lt
  | h + 1, t, ⟨⟨g, hN, _⟩, hc⟩, b, hb => by
    have hb' : b ∈ t.1 :: t.2.flatMap (fun c => N.ids h c.2) := hb
    rcases List.mem_cons.1 hb' with rfl | hb'
    · exact hN.lt
    · obtain ⟨c, hm, hb'⟩ := List.mem_flatMap.1 hb'
      exact N.In.lt (hc c hm) b hb'
theorem N.In.kept {w w' : World} : ∀ {h : Nat} {t : N h}, N.In w h t → (∀ b ∈ N.ids h t, w'.heap[b]? = w.heap[b]?) → N.In w' h t
  | 0, t, ⟨g, hN, hR⟩, hk => ⟨g, (hk t.1 (by show t.1 ∈ [t.1]; simp)).trans hN, hR⟩
  | h + 1, t, ⟨⟨g, hN, hR⟩, hc⟩, hk => ⟨⟨g, (hk t.1 (by show t.1 ∈ t.1 :: _; simp)).trans hN, hR⟩, fun c hm => N.In.kept (hc c hm) (fun b hb => hk b (by
    show b ∈ t.1 :: t.2.flatMap (fun c => N.ids h c.2)
    exact List.mem_cons_of_mem _ (List.mem_flatMap.2 ⟨c, hm, hb⟩)))⟩
theorem N.In.fr {S : Nat → Prop} {w w' : World} {h : Nat} {t : N h} (hi : N.In w h t) (hf : Fr S w w') (hn : ∀ b ∈ N.ids h t, ¬ S b) : N.In w' h t :=
  hi.kept (fun b hb => hf.block b (hi.lt b hb) (hn b hb))
theorem N.In.below {w w' : World} {h : Nat} {t : N h} (hi : N.In w h t) (hb : Below w.heap.size w w') : N.In w' h t :=
  hi.kept (fun b hm => hb.block b (hi.lt b hm))
theorem arr_cells (g : Nat → Q) : ∀ j v, (arrC g).toList[j]? = some v → j < 256 ∧ (arrC g)[j]? = some v := fun j v hv => by
  rw [Array.getElem?_toList] at hv
  have := (Array.getElem?_eq_some_iff.1 hv).1
  rw [arr_size] at this
  exact ⟨this, hv⟩
theorem Nd.arr {w : World} {b : Nat} {m : Int} {g : Nat → Q} (h : Nd w b m g) : w.rangeAt b 1 (arrC g).toList := fun j v hv => by
  obtain ⟨hj, hv⟩ := arr_cells g j v hv
  rw [Blk.cell h, show 1 + j = j + 1 by omega, cells_arr m g j hj, hv]
theorem zero_arr : Try.zeroCells111 = arrC (fun _ => q0) := by kernel_rfl
/-- The copy of a node's array. -/
def Cp (w : World) (b : Nat) (g : Nat → Q) : Prop := Blk w b (arrC g) 111
theorem Cp.at {w : World} {b : Nat} {g : Nat → Q} (h : Cp w b g) (x f : Nat) (hx : x < 64) (hf : f < 4) : w.cell? ⟨b, x * 4 + f, none⟩ = some ((g x).cell f) := by
  rw [Blk.cell h, show x * 4 + f = 4 * x + f by omega, arr_at _ _ _ hx hf]
theorem one_arr (g : Nat → Q) : (arrC g).all (·.oneCell') = true := by
  refine Array.all_eq_true_iff_forall_mem.2 (fun v hv => ?_)
  obtain ⟨i, hi⟩ := Array.mem_iff_getElem?.1 hv
  have h256 := (Array.getElem?_eq_some_iff.1 hi).1
  rw [arr_size] at h256
  have h1 := arr_at g (i / 4) (i % 4) (by omega) (by omega)
  rw [show 4 * (i / 4) + i % 4 = i by omega, hi] at h1
  obtain rfl := Option.some.inj h1
  have : ∀ (q : Q) (f : Nat), (q.cell f).oneCell' = true := fun q f => by
    match f with
    | 0 => rfl
    | 1 => rfl
    | 2 => rfl
    | _ + 3 => rfl
  exact this _ _
theorem below_le {a base : Nat} {w w' : World} (h : Below a w w') (hb : base ≤ a) : Below base w w' := ⟨h.os, h.tape, h.output, h.size, fun k hk => h.block k (Nat.lt_of_lt_of_le hk hb)⟩
theorem below_dr {base : Nat} {a w : World} (h : Below base a w) : Below base a w.drew := ⟨h.os, h.tape, h.output, h.size, h.block⟩
theorem Nd.below {w w' : World} {b base : Nat} {m : Int} {g : Nat → Q} (h : Nd w b m g) (hb : Below base w w') (hn : b < base) : Nd w' b m g := Blk.below h hb hn
section
variable {P : Program} {ops : Array Oper} {Q : Exit → Act → World → Prop} {op : Oper} {rest : List Oper} {a a' : Act} {w w' : World} {v : Value} {M : Option Tmp}
theorem l_val (hg : op.guard = none) (hN : op.dst = M) (hrun : (execOp a.eval op).run P w = .ok (.value v) w') (ha : a.put M v = a') (h : wpList P ops Q rest a' w') : wpList P ops Q (op :: rest) a w :=
  wpList_plain hg fun K hK => by
    unfold Oper.wp
    rw [hrun]
    subst hN ha
    exact hK _ _ h
theorem l_skip (hg : op.guard = none) (hN : op.dst = none) (hrun : (execOp a.eval op).run P w = .ok .skip w') (h : wpList P ops Q rest a w') : wpList P ops Q (op :: rest) a w :=
  wpList_plain hg fun K hK => by
    unfold Oper.wp
    rw [hrun]
    show K (a.put op.dst undef) w'
    rw [hN]
    exact hK _ _ h
end
/-- The copy is laid into the block that was made last. -/
theorem copy_ {ops : Array Oper} {Qx : Exit → Act → World → Prop} {op : Oper} {rest : List Oper} {a : Act} {w : World} {g : Nat → Q} (hg : op.guard = none) (hd : op.dst = none) (ho : op.op = .store 111 (.tmp 10) (.tmp 17)) (hx : a.eval (.tmp 10) = .pointer (some ⟨w.heap.size, 0, none⟩)) (hy : a.eval (.tmp 17) = .agg (arrC g).toList.toArray)
    (hz : (Try.prog.info? 111).map (·.size) = some 256) (h : wpList Try.prog ops Qx rest a (w.alloc (.cells (arrC g) 111))) : wpList Try.prog ops Qx (op :: rest) a (w.alloc (.cells Try.zeroCells111 111)) := by
  rw [Array.toArray_toList] at hy
  refine l_skip hg hd ?_ h
  simp only [execOp, ho, hx, hy]
  have := run_storeAt_new (P := Try.prog) w 111 Try.zeroCells111 (arrC g) (by rw [arr_size]; exact hz) (by rw [zero_arr, arr_size, arr_size]) (one_arr g)
  simp [this, Result.andThen]
theorem find_at {tb : List Int} (key : Int) : ∀ {es : List E} {i : Nat} {x : E}, (∀ y e, y < i → es[y]? = some e → rankOf tb key ≠ rankOf tb e.1) → es[i]? = some x → rankOf tb key = rankOf tb x.1 → findL (rankOf tb) key es = some x
  | [], _, _, _, h, _ => by simp at h
  | e :: es, 0, x, _, h, hk => by
    obtain rfl : e = x := by simpa using h
    unfold findL
    rw [List.find?_cons_of_pos (by simpa using hk)]
  | e :: es, i + 1, x, hn, h, hk => by
    have h0 := hn 0 e (by omega) rfl
    have ih := find_at key (es := es) (i := i) (fun y e' hy he => hn (y + 1) e' (by omega) (by simpa using he)) (by simpa using h) hk
    unfold findL at ih ⊢
    rw [List.find?_cons_of_neg (by simpa using h0)]
    exact ih
theorem pick_at {α : Type} {r : Int → Int} (k : Int) : ∀ {cs : List (Int × α)} {j : Nat} {c : Int × α}, (∀ y d, 1 ≤ y → y ≤ j → cs[y]? = some d → ¬ r k < r d.1) → cs[j]? = some c → (j + 1 = cs.length ∨ ∃ d, cs[j + 1]? = some d ∧ r k < r d.1) → pick r k cs = some c.2
  | [], _, _, _, h, _ => by simp at h
  | [c'], 0, c, _, h, _ => by
    obtain rfl : c' = c := by simpa using h
    rfl
  | [c'], j + 1, c, _, h, _ => by simp at h
  | c' :: d :: cs, 0, c, _, h, hd => by
    obtain rfl : c' = c := by simpa using h
    rw [pick, if_pos]
    rcases hd with hd | ⟨d', h1, h2⟩
    · simp at hd
    · obtain rfl : d = d' := by simpa using h1
      exact h2
  | c' :: d :: cs, j + 1, c, hn, h, hd => by
    have h1 := hn 1 d (Nat.le_refl _) (by omega) rfl
    rw [pick, if_neg h1]
    refine pick_at k (cs := d :: cs) (j := j) (fun y e hy hle he => hn (y + 1) e (by omega) (by omega) (by simpa using he)) (by simpa using h) ?_
    rcases hd with hd | ⟨d', h2, h3⟩
    · left; simp only [List.length_cons] at hd ⊢; omega
    · exact .inr ⟨d', by simpa using h2, h3⟩
set_option maxHeartbeats 4000000 in
set_option maxRecDepth 100000 in
theorem search_leaf (base R : Nat) (tb : List Int) (key n H : Int) (rp lv : Value) (t : N 0) (w : World) (hI : N.In w 0 t) (hF : N.Fit 0 t) (hR : Blk w R #[rp, .int .i64 H, .int .i64 n, lv] 115) (hL : LessS base w lv tb) (hb : base ≤ w.heap.size) :
    Calls Try.prog 93 #[.pointer (some ⟨R, 0, none⟩), .pointer (some ⟨N.blk 0 t, 0, none⟩), .int .i64 key, .int .i64 0] w fun e w' =>
      e = .returned (.tuple #[.int .i64 (tell (T.find (rankOf tb) key 0 (N.raw 0 t))).1, .bool (tell (T.find (rankOf tb) key 0 (N.raw 0 t))).2]) ∧ Below w.heap.size w w' := by
  obtain ⟨b, es⟩ := t
  obtain ⟨g, hN, hP⟩ := hI
  have HN : Hid (Nd w b es.length g) := hN
  have HP : Hid (Rep Rep0 g es) := hP
  have HF : Hid (es.length ≤ 63) := hF
  have HR := hid hR
  have HL := hid hL
  have HB := hid hb
  clear hN hP hF hR hL hb
  show Calls Try.prog 93 #[.pointer (some ⟨R, 0, none⟩), .pointer (some ⟨b, 0, none⟩), .int .i64 key, .int .i64 0] w fun e w' => e = .returned (.tuple #[.int .i64 (tell (findL (rankOf tb) key es)).1, .bool (tell (findL (rankOf tb) key es)).2]) ∧ Below w.heap.size w w'
  have HZ : Hid ((Try.prog.info? 111).map (·.size) = some 256) := (by kernel_rfl : (Try.prog.info? 111).map (·.size) = some 256)
  go_enter Try.func93, Try.ntmps93
  go_upto_region 1 with fail
  refine wp_region_lit ?_
  refine l_val (v := .pointer (some ⟨b, 0, none⟩)) rfl rfl (by rfl) rfl ?_
  refine l_val rfl rfl (by rfl) rfl ?_
  refine l_val (v := .pointer (some ⟨b, 1, none⟩)) (w' := w) rfl rfl ?_ rfl ?_
  · go_simp
  refine wpList_load_mid rfl 111 (.tmp 16) rfl b 1 rfl (arrC g).toList (.array 64 110) HN.out.arr Try.underlying111 rfl (by rw [Array.length_toList, arr_size]; exact HZ.out) ?_
  refine l_val (v := .pointer (some ⟨w.heap.size, 0, none⟩)) (w' := w.alloc (.cells Try.zeroCells111 111)) rfl rfl ?_ rfl ?_
  · go_simp
  refine copy_ (g := g) rfl rfl rfl rfl rfl HZ.out ?_
  refine wpList_nil ?_
  simp only [Act.put, List.setIfInBounds_toArray, List.set_cons_zero, List.set_cons_succ]
  have HC : Hid (Cp (w.alloc (.cells (arrC g) 111)) w.heap.size g) := Blk.new w _ _
  have HW : Hid (Below w.heap.size w (w.alloc (.cells (arrC g) 111))) := (Below.refl _ _).alloc (Nat.le_refl _) _
  generalize (arrC g).toList.toArray = AG
  generalize w.alloc (.cells (arrC g) 111) = W at HC HW ⊢
  go_wp2_with fail
  go_loopg [11] es.length (fun n_ v11 wr => ∃ i : Nat, v11 = .int .i64 i ∧ i ≤ es.length ∧ Hid (n_ + i = es.length) ∧ Hid (Below w.heap.size w wr ∧ Cp wr w.heap.size g ∧ ∀ x e, x < i → es[x]? = some e → rankOf tb key ≠ rankOf tb e.1))
  case atStart => exact ⟨0, rfl, Nat.zero_le _, Nat.add_zero _, HW.out, HC.out, fun x e hx => absurd hx (Nat.not_lt_zero _)⟩
  case round =>
    obtain ⟨i, rfl, hi, HG, HI⟩ := hrel
    have c0 : wr.cell? ⟨b, 0, none⟩ = some (.int .i64 es.length) := (Nd.below HN.out HI.out.1 HN.out.lt).m0
    by_cases hlt : i < es.length
    · have hx : es[i]? = some es[i] := List.getElem?_eq_getElem hlt
      have h64 : i < 64 := by have := HF.out; omega
      generalize es[i] = x at hx
      have hk := (HP.out i x hx).1
      have hv := (HP.out i x hx).2.1
      have ho := (HP.out i x hx).2.2
      have a0 : wr.cell? ⟨w.heap.size, i * 4, none⟩ = some (.int .i64 x.1) := by rw [← hk]; exact HI.out.2.1.at i 0 h64 (by omega)
      have a1 : wr.cell? ⟨w.heap.size, i * 4 + 1, none⟩ = some (.int .i64 x.2.1) := by rw [← hv]; exact HI.out.2.1.at i 1 h64 (by omega)
      have a2 : wr.cell? ⟨w.heap.size, i * 4 + 2, none⟩ = some (.bool x.2.2) := by rw [← ho]; exact HI.out.2.1.at i 2 h64 (by omega)
      have c3 : wr.cell? ⟨R, 3, none⟩ = some lv := (HR.out.below HI.out.1 HR.out.lt).cell 3
      have HX := hid hx
      have HLV : Hid (LessV wr.drew lv tb) := (HL.out.to (below_le HI.out.1 HB.out)).drewN 1 |>.now
      clear hk hv ho hx
      have r1 : (i : Int) < 64 := by omega
      have hlti : (i : Int) < es.length := by omega
      go_upto_region 6 with fail
      refine still_tail_drew 9 (by kernel_rfl) (by kernel_rfl) ?_
      simp only [List.take_succ_cons, List.take_zero, List.drop_succ_cons, List.drop_zero]
      repeat still_step
      refine wpStill_nil ?_
      go_wp2_with fail
      refine (compare_any lv tb key x.1 _ HLV.out).mono ?_
      rintro e w1 ⟨rfl, q, rfl⟩
      have HS : Hid (Below w.heap.size w (wr.drew.drewN q)) := ⟨HI.out.1.os, HI.out.1.tape, HI.out.1.output, HI.out.1.size, HI.out.1.block⟩
      have HC2 : Hid (Cp (wr.drew.drewN q) w.heap.size g) := HI.out.2.1
      by_cases he : rankOf tb key = rankOf tb x.1
      · have hc : cmp tb key x.1 = 0 := cmp_eq (by omega) (by omega)
        rw [hc]
        have HE := hid he
        clear hc he
        have a1' : (wr.drew.drewN q).cell? ⟨w.heap.size, i * 4 + 1, none⟩ = some (.int .i64 x.2.1) := a1
        have a2' : (wr.drew.drewN q).cell? ⟨w.heap.size, i * 4 + 2, none⟩ = some (.bool x.2.2) := a2
        clear a0 a1 a2 c0 c3
        generalize wr.drew.drewN q = W2 at HS HC2 a1' a2' ⊢
        go_upto_region 7 with fail
        go_region
        go_wp2_with fail
        go_ret2
        rw [find_at key HI.out.2.2 HX.out HE.out]
        exact ⟨rfl, below_dr HS.out⟩
      · have hc : cmp tb key x.1 ≠ 0 := fun h => he (by unfold cmp at h; split at h <;> (try split at h) <;> omega)
        have hc2 : (cmp tb key x.1 == 0) = false := beq_eq_false_iff_ne.2 hc
        have HE := hid he
        clear he a0 a1 a2 c0 c3
        generalize cmp tb key x.1 = cv at hc hc2 ⊢
        generalize wr.drew.drewN q = W2 at HS HC2 ⊢
        go_wp2_with fail
        have hg0 := HG.out
        obtain ⟨k1, rfl⟩ : ∃ k1, gk = k1 + 1 := ⟨gk - 1, by omega⟩
        go_roundg k1
        case measure => omega
        case rel => exact ⟨i + 1, rfl, hlt, by show k1 + (i + 1) = es.length; omega, HS.out, HC2.out, fun y e hy hq => by
          by_cases hyi : y = i
          · subst hyi; rw [HX.out] at hq; obtain rfl := Option.some.inj hq; exact HE.out
          · exact HI.out.2.2 y e (by omega) hq⟩
    · have HNL := hid hlt
      have hlti : ¬ (i : Int) < es.length := by omega
      go_wp2_with fail
      go_ret2
      have hn : findL (rankOf tb) key es = none := List.find?_eq_none.2 (fun e he => by
        obtain ⟨y, hy, rfl⟩ := List.getElem_of_mem he
        simpa using HI.out.2.2 y _ (by omega) (List.getElem?_eq_getElem hy))
      exact ⟨by rw [hn]; rfl, HI.out.1⟩
set_option maxHeartbeats 4000000 in
set_option maxRecDepth 100000 in
theorem search_any (base R : Nat) (tb : List Int) (key n H : Int) (rp lv : Value) : ∀ (h : Nat) (t : N h) (w : World), N.In w h t → N.Fit h t → Blk w R #[rp, .int .i64 H, .int .i64 n, lv] 115 → LessS base w lv tb → base ≤ w.heap.size → h ≤ 1099511627776 →
    Calls Try.prog 93 #[.pointer (some ⟨R, 0, none⟩), .pointer (some ⟨N.blk h t, 0, none⟩), .int .i64 key, .int .i64 h] w fun e w' =>
      e = .returned (.tuple #[.int .i64 (tell (T.find (rankOf tb) key h (N.raw h t))).1, .bool (tell (T.find (rankOf tb) key h (N.raw h t))).2]) ∧ Below w.heap.size w w'
  | 0, t, w, hI, hF, hR, hL, hb, _ => search_leaf base R tb key n H rp lv t w hI hF hR hL hb
  | h + 1, (b, cs), w, hI, hF, hR, hL, hb, hh => by
    obtain ⟨⟨g, hN, hP⟩, hI'⟩ := hI
    have ih := search_any base R tb key n H rp lv h
    have HIH := hid ih
    have HN : Hid (Nd w b cs.length g) := hN
    have HP : Hid (Rep Rep1 g cs) := hP
    have HI1 : Hid (∀ c ∈ cs, N.In w h c.2) := hI'
    have HF : Hid (cs.length ≤ 63 ∧ 1 ≤ cs.length ∧ ∀ c ∈ cs, N.Fit h c.2) := hF
    have HR := hid hR
    have HL := hid hL
    have HB := hid hb
    have HH := hid hh
    clear hN hP hF hR hL hb hI' ih hh
    have HT : ∀ j c, (∀ y d, 1 ≤ y → y ≤ j → cs[y]? = some d → ¬ rankOf tb key < rankOf tb d.1) → cs[j]? = some c → (j + 1 = cs.length ∨ ∃ d, cs[j + 1]? = some d ∧ rankOf tb key < rankOf tb d.1) → T.find (rankOf tb) key (h + 1) (N.raw (h + 1) (b, cs)) = T.find (rankOf tb) key h (N.raw h c.2) := fun j c h1 h2 h3 => by
      show (pick (rankOf tb) key (cs.map (fun c => (c.1, N.raw h c.2)))).bind (fun t => T.find (rankOf tb) key h t) = _
      have p1 : ∀ y d, 1 ≤ y → y ≤ j → (cs.map (fun c => (c.1, N.raw h c.2)))[y]? = some d → ¬ rankOf tb key < rankOf tb d.1 := fun y d hy hle he => by
        rw [List.getElem?_map] at he
        obtain ⟨d', hd, rfl⟩ := Option.map_eq_some_iff.1 he
        exact h1 y d' hy hle hd
      have p2 : (cs.map (fun c => (c.1, N.raw h c.2)))[j]? = some (c.1, N.raw h c.2) := by rw [List.getElem?_map, h2]; rfl
      have p3 : j + 1 = (cs.map (fun c => (c.1, N.raw h c.2))).length ∨ ∃ d, (cs.map (fun c => (c.1, N.raw h c.2)))[j + 1]? = some d ∧ rankOf tb key < rankOf tb d.1 := by
        rcases h3 with h3 | ⟨d, h3, h4⟩
        · exact .inl (by rw [List.length_map]; exact h3)
        · exact .inr ⟨(d.1, N.raw h d.2), by rw [List.getElem?_map, h3]; rfl, h4⟩
      rw [pick_at key p1 p2 p3]
      rfl
    have HTT := hid HT
    clear HT
    show Calls Try.prog 93 #[.pointer (some ⟨R, 0, none⟩), .pointer (some ⟨b, 0, none⟩), .int .i64 key, .int .i64 ((h + 1 : Nat) : Int)] w _
    generalize T.find (rankOf tb) key (h + 1) (N.raw (h + 1) (b, cs)) = FF at HTT ⊢
    have hz : (((h + 1 : Nat) : Int) == 0) = false := beq_eq_false_iff_ne.2 (by omega)
    have hz2 : wrap64 (((h + 1 : Nat) : Int) - 1) = (h : Int) := by have := HH.out; rw [wrap64_in _ (by omega)]; omega
    have HZ : Hid ((Try.prog.info? 111).map (·.size) = some 256) := (by kernel_rfl : (Try.prog.info? 111).map (·.size) = some 256)
    obtain ⟨hv, hhv⟩ : ∃ hv : Int, hv = ((h + 1 : Nat) : Int) := ⟨_, rfl⟩
    rw [← hhv] at hz hz2 ⊢
    have HHV := hid hhv
    clear hhv
    go_enter Try.func93, Try.ntmps93
    go_upto_region 1 with fail
    refine wp_region_lit ?_
    refine l_val (v := .pointer (some ⟨b, 0, none⟩)) rfl rfl (by rfl) rfl ?_
    refine l_val rfl rfl (by rfl) rfl ?_
    refine l_val (v := .pointer (some ⟨b, 1, none⟩)) (w' := w) rfl rfl ?_ rfl ?_
    · go_simp
    refine wpList_load_mid rfl 111 (.tmp 16) rfl b 1 rfl (arrC g).toList (.array 64 110) HN.out.arr Try.underlying111 rfl (by rw [Array.length_toList, arr_size]; exact HZ.out) ?_
    refine l_val (v := .pointer (some ⟨w.heap.size, 0, none⟩)) (w' := w.alloc (.cells Try.zeroCells111 111)) rfl rfl ?_ rfl ?_
    · go_simp
    refine copy_ (g := g) rfl rfl rfl rfl rfl HZ.out ?_
    refine wpList_nil ?_
    simp only [Act.put, List.setIfInBounds_toArray, List.set_cons_zero, List.set_cons_succ]
    have HC : Hid (Cp (w.alloc (.cells (arrC g) 111)) w.heap.size g) := Blk.new w _ _
    have HW : Hid (Below w.heap.size w (w.alloc (.cells (arrC g) 111))) := (Below.refl _ _).alloc (Nat.le_refl _) _
    generalize (arrC g).toList.toArray = AG
    generalize w.alloc (.cells (arrC g) 111) = W at HC HW ⊢
    go_wp2_with fail
    go_loopg [12] cs.length (fun n_ v12 wr => ∃ i : Nat, v12 = .int .i64 i ∧ i < cs.length ∧ Hid (n_ + i = cs.length) ∧ Hid (Below w.heap.size w wr ∧ Cp wr w.heap.size g ∧ ∀ y d, 1 ≤ y → y ≤ i → cs[y]? = some d → ¬ rankOf tb key < rankOf tb d.1))
    case atStart => exact ⟨0, rfl, HF.out.2.1, Nat.add_zero _, HW.out, HC.out, fun y d h1 h2 => by omega⟩
    case round =>
      obtain ⟨i, rfl, hlt, HG, HI⟩ := hrel
      have c0 : wr.cell? ⟨b, 0, none⟩ = some (.int .i64 cs.length) := (Nd.below HN.out HI.out.1 HN.out.lt).m0
      have hx : cs[i]? = some cs[i] := List.getElem?_eq_getElem hlt
      have h63 := HF.out.1
      have hcm : cs[i] ∈ cs := List.getElem_mem hlt
      generalize cs[i] = x at hx hcm
      have hp := (HP.out i x hx).2
      have c3 : wr.cell? ⟨R, 3, none⟩ = some lv := (HR.out.below HI.out.1 HR.out.lt).cell 3
      have HX := hid hx
      have HXF : Hid (N.Fit h x.2 ∧ N.In w h x.2) := ⟨HF.out.2.2 x hcm, HI1.out x hcm⟩
      have HLV : Hid (LessV wr.drew lv tb) := (HL.out.to (below_le HI.out.1 HB.out)).drewN 1 |>.now
      have hlti : (i : Int) < cs.length := by omega
      have hw1 : IntKind.i64.wrap ((i : Int) + 1) = ((i + 1 : Nat) : Int) := by rw [i64_in _ (by omega)]; rfl
      have r1 : (i : Int) < 64 := by omega
      have hp3 : wr.cell? ⟨w.heap.size, i * 4 + 3, none⟩ = some (.pointer (some ⟨N.blk h x.2, 0, none⟩)) := by rw [← hp]; exact HI.out.2.1.at i 3 (by omega) (by omega)
      clear hp hx hcm
      by_cases hl : i + 1 = cs.length
      · have hm : ((cs.length : Int) == ((i + 1 : Nat) : Int)) = true := by rw [hl]; simp
        go_wp2_with fail
        go_quiet ((fail))
        go_wp2_with fail
        have HXD := hid (HXF.out.2.below HI.out.1)
        have HXR : Hid (Blk wr R #[rp, .int .i64 H, .int .i64 n, lv] 115 ∧ LessS base wr lv tb ∧ base ≤ wr.heap.size) := ⟨HR.out.below HI.out.1 HR.out.lt, HL.out.to (below_le HI.out.1 HB.out), Nat.le_trans HB.out HI.out.1.size⟩
        refine (HIH.out x.2 (wr.drewN nq) (N.In.kept HXD.out (fun _ _ => rfl)) HXF.out.1 HXR.out.1 (HXR.out.2.1.drewN nq) HXR.out.2.2 (by have := HH.out; omega)).mono ?_
        rintro e w2 ⟨rfl, hB2⟩
        have HB2 := hid hB2
        clear hB2
        go_wp2_with fail
        go_ret2
        have hB3 : Below w.heap.size w w2 := HI.out.1.trans (below_le ⟨HB2.out.os, HB2.out.tape, HB2.out.output, HB2.out.size, HB2.out.block⟩ HI.out.1.size)
        exact ⟨by rw [HTT.out i x HI.out.2.2 HX.out (.inl hl)]; rfl, hB3⟩
      · have hm : ((cs.length : Int) == ((i + 1 : Nat) : Int)) = false := beq_eq_false_iff_ne.2 (by omega)
        have hl2 : i + 1 < cs.length := by omega
        have hm2 : ((cs.length : Int) == (i : Int) + 1) = false := beq_eq_false_iff_ne.2 (by omega)
        have hm3 : ¬ (cs.length : Int) = (i : Int) + 1 := by omega
        have hm4 : (cs.length == i + 1) = false := beq_eq_false_iff_ne.2 (by omega)
        have hm5 : ¬ cs.length = i + 1 := by omega
        have hx2 : cs[i + 1]? = some cs[i + 1] := List.getElem?_eq_getElem hl2
        generalize cs[i + 1] = x2 at hx2
        have hk2 := (HP.out (i + 1) x2 hx2).1
        have a0 : wr.cell? ⟨w.heap.size, (i + 1) * 4, none⟩ = some (.int .i64 x2.1) := by rw [← hk2]; exact HI.out.2.1.at (i + 1) 0 (by omega) (by omega)
        have HX2 := hid hx2
        clear hk2 hx2
        have HLS : Hid (LessS base wr lv tb) := HL.out.to (below_le HI.out.1 HB.out)
        have r2 : 0 ≤ (i : Int) + 1 ∧ (i : Int) + 1 < 64 := by omega
        have t0 : ((i : Int) + 1).toNat = i + 1 := by omega
        go_wp2_with fail
        go_quiet ((exact Calls.quiet_of (compare_any lv tb key x2.1 _ (HLS.out.drewN _).now)))
        have HXD := hid (HXF.out.2.below HI.out.1)
        have HXR : Hid (Blk wr R #[rp, .int .i64 H, .int .i64 n, lv] 115 ∧ LessS base wr lv tb ∧ base ≤ wr.heap.size) := ⟨HR.out.below HI.out.1 HR.out.lt, HL.out.to (below_le HI.out.1 HB.out), Nat.le_trans HB.out HI.out.1.size⟩
        by_cases hc : rankOf tb key < rankOf tb x2.1
        · have HCC := hid hc
          rw [cmp_lt hc]
          clear hc
          go_wp2_with fail
          refine (HIH.out x.2 (wr.drewN nq) (N.In.kept HXD.out (fun _ _ => rfl)) HXF.out.1 HXR.out.1 (HXR.out.2.1.drewN nq) HXR.out.2.2 (by have := HH.out; omega)).mono ?_
          rintro e w2 ⟨rfl, hB2⟩
          have HB2 := hid hB2
          clear hB2
          go_wp2_with fail
          go_ret2
          have hB3 : Below w.heap.size w w2 := HI.out.1.trans (below_le ⟨HB2.out.os, HB2.out.tape, HB2.out.output, HB2.out.size, HB2.out.block⟩ HI.out.1.size)
          exact ⟨by rw [HTT.out i x HI.out.2.2 HX.out (.inr ⟨x2, HX2.out, HCC.out⟩)]; rfl, hB3⟩
        · have HCC := hid hc
          have hcz : (0 : Int) ≤ cmp tb key x2.1 := by unfold cmp; rw [if_neg hc]; split <;> omega
          have hcz2 : ¬ cmp tb key x2.1 < 0 := by omega
          have hcz3 : decide (cmp tb key x2.1 < 0) = false := decide_eq_false hcz2
          clear hc
          generalize cmp tb key x2.1 = cv at hcz hcz2 hcz3 ⊢
          go_wp2_with fail
          have hg0 := HG.out
          obtain ⟨k1, rfl⟩ : ∃ k1, gk = k1 + 1 := ⟨gk - 1, by omega⟩
          go_roundg k1
          case measure => omega
          case rel => exact ⟨i + 1, rfl, hl2, by show k1 + (i + 1) = cs.length; omega, ⟨HI.out.1.os, HI.out.1.tape, HI.out.1.output, HI.out.1.size, HI.out.1.block⟩, HI.out.2.1, fun y d h1 h2 hd => by
            by_cases hyi : y = i + 1
            · subst hyi; rw [HX2.out] at hd; obtain rfl := Option.some.inj hd; exact HCC.out
            · exact HI.out.2.2 y d h1 (by omega) hd⟩
end Go.Proofs.Ytjlcebgfknfelaa.Bt

namespace Go.Proofs.Ytjlcebgfknfelaa.Bt
open Go Go.RowKit Go.IntWalk Go.Proofs.Ytjlcebgfknfelaa.Hk Go.Proofs.Ytjlcebgfknfelaa.BtPure Go.Proofs.Ytjlcebgfknfelaa.Less Go.Proofs.YtjlcebgfknfelaaW.PrintWords Go.Proofs.YtjlcebgfknfelaaW.PrintLast Go.Proofs.YtjlcebgfknfelaaW.PrintMore
open Go.Proofs.Ytjlcebgfknfelaa.Avl (LessS cmp_lt cmp_gt cmp_eq)
/-- The places behind one at which another entry has been put. -/
def shift (g : Nat → Q) (j : Nat) (q : Q) : Nat → Q := fun x => if x < j then g x else if x = j then q else g (x - 1)
/-- .. while the places are moved, from the last one down to i. -/
def moved (g : Nat → Q) (m i : Nat) : Nat → Q := fun x => if i < x ∧ x ≤ m then g (x - 1) else g x
/-- What is told, and left, when an entry has been put at a place of a node. -/
def Tail (b m : Nat) (g : Nat → Q) (j : Nat) (q : Q) (W : World) (e : Ending) (w' : World) : Prop :=
  (m + 1 < 64 ∧ e = .returned (.pointer none) ∧ (∃ g', Nd w' b ((m + 1 : Nat) : Int) g' ∧ ∀ x, x ≤ m → g' x = shift g j q x) ∧ Fr (· = b) W w') ∨
  (m + 1 = 64 ∧ ∃ c, e = .returned (.pointer (some ⟨c, 0, none⟩)) ∧ W.heap.size ≤ c ∧ (∃ g', Nd w' b 32 g' ∧ ∀ x, x < 32 → g' x = shift g j q x) ∧ (∃ g', Nd w' c 32 g' ∧ ∀ x, x < 32 → g' x = shift g j q (32 + x)) ∧ Fr (· = b) W w')
def uptr {h : Nat} : Option (N h) → Value
  | none => .pointer none
  | some u => .pointer (some ⟨N.blk h u, 0, none⟩)
def uids {h : Nat} : Option (N h) → List Nat
  | none => []
  | some u => N.ids h u
/-- A tree that fits, all of whose nodes lie from 'base' on. -/
structure Good (base : Nat) (tb : List Int) (w : World) {h : Nat} (t : N h) : Prop where
  mem : N.In w h t
  nodup : (N.ids h t).Nodup
  above : ∀ b ∈ N.ids h t, base ≤ b
  row : Row (rankOf tb) h (N.raw h t)
  len : T.len h (N.raw h t) ≤ 63
  one : h ≠ 0 → 1 ≤ T.len h (N.raw h t)
/-- What an insertion leaves. -/
structure Out (tb : List Int) (key val : Int) (ok : Bool) {h : Nat} (t t' : N h) (u : Option (N h)) (w w' : World) : Prop where
  raw : (N.raw h t', u.map (N.raw h)) = T.ins (rankOf tb) key val ok h (N.raw h t)
  blk : N.blk h t' = N.blk h t
  mem : N.In w' h t'
  memu : ∀ x, u = some x → N.In w' h x
  nodup : (N.ids h t' ++ uids u).Nodup
  ids : ∀ x ∈ N.ids h t' ++ uids u, x ∈ N.ids h t ∨ w.heap.size ≤ x
  fr : Fr (· ∈ N.ids h t) w w'
def Done (tb : List Int) (key val : Int) (ok : Bool) {h : Nat} (t : N h) (w : World) (e : Ending) (w' : World) : Prop := ∃ t' u, e = .returned (uptr u) ∧ Out tb key val ok t t' u w w'
theorem ins_at {r : Int → Int} {k v : Int} {ok : Bool} : ∀ {es : List E} {j : Nat}, (∀ y e, y < j → es[y]? = some e → r e.1 < r k) → j ≤ es.length → (j = es.length ∨ ∃ x, es[j]? = some x ∧ r k < r x.1) → insL r k v ok es = es.take j ++ (k, v, ok) :: es.drop j
  | [], j, _, hj, _ => by
    obtain rfl : j = 0 := by simpa using hj
    rfl
  | e :: es, 0, _, _, h => by
    rcases h with h | ⟨x, hx, hk⟩
    · simp at h
    · obtain rfl : e = x := by simpa using hx
      rw [insL, if_neg (by omega), if_pos hk]
      rfl
  | e :: es, j + 1, hn, hj, h => by
    have h0 := hn 0 e (by omega) rfl
    have ih := ins_at (k := k) (v := v) (ok := ok) (es := es) (j := j) (fun y e' hy he => hn (y + 1) e' (by omega) (by simpa using he)) (by simpa using hj) (by
      rcases h with h | ⟨x, hx, hk⟩
      · left; simpa using h
      · exact .inr ⟨x, by simpa using hx, hk⟩)
    rw [insL, if_neg (by omega), if_neg (by omega), ih]
    rfl
theorem ins_same {r : Int → Int} {k v : Int} {ok : Bool} : ∀ {es : List E} {j : Nat} {x : E}, (∀ y e, y < j → es[y]? = some e → r e.1 < r k) → es[j]? = some x → r k = r x.1 → insL r k v ok es = es.set j (x.1, v, ok)
  | [], _, _, _, h, _ => by simp at h
  | e :: es, 0, x, _, h, hk => by
    obtain rfl : e = x := by simpa using h
    rw [insL, if_pos hk]
    rfl
  | e :: es, j + 1, x, hn, h, hk => by
    have h0 := hn 0 e (by omega) rfl
    have ih := ins_same (k := k) (v := v) (ok := ok) (es := es) (j := j) (x := x) (fun y e' hy he => hn (y + 1) e' (by omega) (by simpa using he)) (by simpa using h) hk
    rw [insL, if_neg (by omega), if_neg (by omega), ih]
    rfl
theorem insC_at {α : Type} {r : Int → Int} {f : α → α × Option α} {fst : α → Int} (k : Int) : ∀ {cs : List (Int × α)} {j : Nat} {c : Int × α}, (∀ y d, 1 ≤ y → y ≤ j → cs[y]? = some d → ¬ r k < r d.1) → cs[j]? = some c → (j + 1 = cs.length ∨ ∃ d, cs[j + 1]? = some d ∧ r k < r d.1) →
    insC r f fst k cs = cs.take j ++ (c.1, (f c.2).1) :: (((f c.2).2.map (fun u => (fst u, u))).toList ++ cs.drop (j + 1))
  | [], _, _, _, h, _ => by simp at h
  | [c'], 0, c, _, h, _ => by
    obtain rfl : c' = c := by simpa using h
    simp [insC]
  | [c'], j + 1, c, _, h, _ => by simp at h
  | c' :: d :: cs, 0, c, _, h, hd => by
    obtain rfl : c' = c := by simpa using h
    rw [insC, if_pos]
    · rfl
    rcases hd with hd | ⟨d', h1, h2⟩
    · simp at hd
    · obtain rfl : d = d' := by simpa using h1
      exact h2
  | c' :: d :: cs, j + 1, c, hn, h, hd => by
    have h1 := hn 1 d (Nat.le_refl _) (by omega) rfl
    rw [insC, if_neg h1]
    rw [insC_at k (cs := d :: cs) (j := j) (c := c) (fun y e hy hle he => hn (y + 1) e (by omega) (by omega) (by simpa using he)) (by simpa using h) (by
      rcases hd with hd | ⟨d', h2, h3⟩
      · left; simp only [List.length_cons] at hd ⊢; omega
      · exact .inr ⟨d', by simpa using h2, h3⟩)]
    rfl
section
variable {α : Type} {R : Q → α → Prop} {g g' : Nat → Q} {l : List α}
theorem Rep.same (h : Rep R g l) (hg : ∀ i, i < l.length → g' i = g i) : Rep R g' l := fun i x hx => by
  rw [hg i (List.getElem?_eq_some_iff.1 hx).1]; exact h i x hx
theorem Rep.shift {j : Nat} {q : Q} {x : α} (h : Rep R g l) (hq : R q x) (hj : j ≤ l.length) : Rep R (shift g j q) (l.take j ++ x :: l.drop j) := fun i y hy => by
  have hl : (l.take j).length = j := by rw [List.length_take]; omega
  unfold Bt.shift
  by_cases h1 : i < j
  · rw [if_pos h1]
    rw [List.getElem?_append_left (by omega), List.getElem?_take, if_pos h1] at hy
    exact h i y hy
  · rw [if_neg h1]
    rw [List.getElem?_append_right (by omega), hl] at hy
    by_cases h2 : i = j
    · rw [if_pos h2]
      rw [h2, Nat.sub_self] at hy
      obtain rfl : x = y := by simpa using hy
      exact hq
    · rw [if_neg h2]
      obtain ⟨d, rfl⟩ : ∃ d, i = j + d + 1 := ⟨i - j - 1, by omega⟩
      rw [show j + d + 1 - j = d + 1 by omega, List.getElem?_cons_succ, List.getElem?_drop] at hy
      exact h _ y hy
theorem Rep.take (h : Rep R g l) (n : Nat) : Rep R g (l.take n) := fun i x hx => by
  rw [List.getElem?_take] at hx
  split at hx
  · exact h i x hx
  · cases hx
theorem Rep.drop (h : Rep R g l) (n : Nat) (hg : ∀ i, i + n < l.length → g' i = g (n + i)) : Rep R g' (l.drop n) := fun i x hx => by
  rw [List.getElem?_drop] at hx
  rw [hg i (by have := (List.getElem?_eq_some_iff.1 hx).1; omega)]
  exact h _ x hx
theorem Rep.set {i : Nat} {x : α} (h : Rep R g l) (hx : i < l.length → R (g i) x) : Rep R g (l.set i x) := fun j y hy => by
  rw [List.getElem?_set] at hy
  split at hy
  · rename_i e
    subst e
    split at hy
    · obtain rfl := Option.some.inj hy
      exact hx (by assumption)
    · cases hy
  · exact h j y hy
/-- What stands in memory when an entry has been put. -/
theorem Tail.rep {b j : Nat} {q : Q} {x : α} {W w' : World} {e : Ending} (hT : Tail b l.length g j q W e w') (h : Rep R g l) (hq : R q x) (hj : j ≤ l.length) :
    (((l.take j ++ x :: l.drop j).length < 64) ∧ e = .returned (.pointer none) ∧ (∃ g', Nd w' b ((l.take j ++ x :: l.drop j).length : Nat) g' ∧ Rep R g' (l.take j ++ x :: l.drop j)) ∧ Fr (· = b) W w') ∨
    (((l.take j ++ x :: l.drop j).length = 64) ∧ ∃ c, e = .returned (.pointer (some ⟨c, 0, none⟩)) ∧ W.heap.size ≤ c ∧ (∃ g', Nd w' b (((l.take j ++ x :: l.drop j).take 32).length : Nat) g' ∧ Rep R g' ((l.take j ++ x :: l.drop j).take 32)) ∧
      (∃ g', Nd w' c (((l.take j ++ x :: l.drop j).drop 32).length : Nat) g' ∧ Rep R g' ((l.take j ++ x :: l.drop j).drop 32)) ∧ Fr (· = b) W w') := by
  have hs := h.shift hq hj
  have hlen : (l.take j ++ x :: l.drop j).length = l.length + 1 := by simp; omega
  generalize l.take j ++ x :: l.drop j = L at hs hlen ⊢
  rcases hT with ⟨h1, h2, ⟨g', h3, h4⟩, h5⟩ | ⟨h1, c, h2, h3, ⟨g', h4, h5⟩, ⟨g'', h6, h7⟩, h8⟩
  · exact .inl ⟨by omega, h2, ⟨g', by rw [hlen]; exact h3, hs.same (fun i hi => h4 i (by omega))⟩, h5⟩
  · refine .inr ⟨by omega, c, h2, h3, ⟨g', ?_, (hs.take 32).same (fun i hi => h5 i (by rw [List.length_take] at hi; omega))⟩, ⟨g'', ?_, hs.drop 32 (fun i hi => h7 i (by omega))⟩, h8⟩
    · rw [show (L.take 32).length = 32 by rw [List.length_take]; omega]; exact h4
    · rw [show (L.drop 32).length = 32 by rw [List.length_drop]; omega]; exact h6
end
/-- An entry's value, and whether it is there, are stored. -/
theorem two_set {w : World} {b : Nat} {m : Int} {g : Nat → Q} (h : Nd w b m g) (x : Nat) (v : Int) (ok : Bool) (hx : x < 64) : Nd ((w.setCell ⟨b, 1 + x * 4 + 1, none⟩ (.int .i64 v)).setCell ⟨b, 1 + x * 4 + 2, none⟩ (.bool ok)) b m (upd g x ⟨(g x).k, v, ok, (g x).p⟩) := by
  have h1 := h.set x 1 (.int .i64 v) ⟨(g x).k, v, (g x).ok, (g x).p⟩ hx (by omega) rfl (fun i hi hn => by match i, hi, hn with | 0, _, _ => rfl | 2, _, _ => rfl | 3, _, _ => rfl)
  have h2 := h1.set x 2 (.bool ok) ⟨(g x).k, v, ok, (g x).p⟩ hx (by omega) rfl (fun i hi hn => by rw [upd_same]; match i, hi, hn with | 0, _, _ => rfl | 1, _, _ => rfl | 3, _, _ => rfl)
  rw [upd_upd] at h2
  rw [show 4 * x + 1 + 1 = 1 + x * 4 + 1 by omega] at h2
  exact h2
theorem cut_small {α : Type} {l : List α} (h : l.length < 64) : cutL l = (l, none) := if_pos h
theorem cut_great {α : Type} {l : List α} (h : l.length = 64) : cutL l = (l.take 32, some (l.drop 32)) := if_neg (by omega)
/-- A leaf behind an insertion at a new place. -/
theorem leaf_done {tb : List Int} {key val : Int} {ok : Bool} {b : Nat} {es : List E} {g : Nat → Q} {j : Nat} {w W w' : World} {e : Ending} (hw : Below w.heap.size w W) (hb : b < w.heap.size) (hP : Rep Rep0 g es) (hj : j ≤ es.length)
    (hi : insL (rankOf tb) key val ok es = es.take j ++ (key, val, ok) :: es.drop j) (hT : Tail b es.length g j ⟨key, val, ok, none⟩ W e w') : Done tb key val ok (h := 0) ((b, es) : Nat × List E) w e w' := by
  have hfr : ∀ {W'}, Fr (· = b) W W' → Fr (· ∈ N.ids 0 ((b, es) : Nat × List E)) w W' := fun h => (Fr.new hw).trans h (fun n _ e => by show n ∈ [b]; rw [e]; simp)
  have hr : T.ins (rankOf tb) key val ok 0 (N.raw 0 ((b, es) : Nat × List E)) = cutL (es.take j ++ (key, val, ok) :: es.drop j) := congrArg cutL hi
  rcases hT.rep (x := (key, val, ok)) hP ⟨rfl, rfl, rfl⟩ hj with ⟨h1, h2, h3, h4⟩ | ⟨h1, c, h2, h3, h4, h5, h6⟩
  · refine ⟨(b, es.take j ++ (key, val, ok) :: es.drop j), none, h2, ⟨?_, rfl, h3, fun _ h => (by cases h), by show ([b] ++ []).Nodup; simp, fun x hx => .inl hx, hfr h4⟩⟩
    rw [hr, cut_small h1]; rfl
  · refine ⟨(b, (es.take j ++ (key, val, ok) :: es.drop j).take 32), some (c, (es.take j ++ (key, val, ok) :: es.drop j).drop 32), h2, ⟨?_, rfl, h4, fun x hx => ?_, ?_, fun x hx => ?_, hfr h6⟩⟩
    · rw [hr, cut_great h1]; rfl
    · obtain rfl := Option.some.inj hx; exact h5
    · have : b ≠ c := by have := hw.size; omega
      show ([b] ++ [c]).Nodup
      simpa using this
    · have hx' : x ∈ [b] ++ [c] := hx
      simp only [List.cons_append, List.nil_append, List.mem_cons, List.not_mem_nil, or_false] at hx'
      rcases hx' with rfl | rfl
      · left; show x ∈ [x]; simp
      · right; have := hw.size; omega
/-- .. at a place that is there. -/
theorem leaf_same {tb : List Int} {key val : Int} {ok : Bool} {b : Nat} {es : List E} {g : Nat → Q} {j : Nat} {x : E} {w w' : World} (hP : Rep Rep0 g es) (hl : es.length ≤ 63) (hx : es[j]? = some x)
    (hi : insL (rankOf tb) key val ok es = es.set j (x.1, val, ok)) (hN : Nd w' b es.length (upd g j ⟨(g j).k, val, ok, (g j).p⟩)) (hf : Fr (· = b) w w') : Done tb key val ok (h := 0) ((b, es) : Nat × List E) w (.returned (.pointer none)) w' := by
  refine ⟨(b, es.set j (x.1, val, ok)), none, rfl, ⟨?_, rfl, ⟨upd g j ⟨(g j).k, val, ok, (g j).p⟩, by rw [List.length_set]; exact hN, fun i y hy => ?_⟩, fun _ h => (by cases h), by show ([b] ++ []).Nodup; simp, fun x hx => .inl hx, hf.mono (fun n _ e => by show n ∈ [b]; rw [e]; simp)⟩⟩
  · show _ = cutL (insL _ _ _ _ es)
    rw [hi, cut_small (by rw [List.length_set]; omega)]; rfl
  · rw [List.getElem?_set] at hy
    by_cases e : j = i
    · subst e
      rw [if_pos rfl, if_pos (List.getElem?_eq_some_iff.1 hx).1] at hy
      obtain rfl := Option.some.inj hy
      rw [upd_same]
      exact ⟨(hP j x hx).1, rfl, rfl⟩
    · rw [if_neg e] at hy
      simp only [upd]
      rw [if_neg (fun h => e h.symm)]
      exact hP i y hy
def fids {h : Nat} (l : List (Int × N h)) : List Nat := l.flatMap (fun c => N.ids h c.2)
theorem fids_app {h : Nat} (a b : List (Int × N h)) : fids (a ++ b) = fids a ++ fids b := List.flatMap_append ..
theorem fids_cons {h : Nat} (c : Int × N h) (l : List (Int × N h)) : fids (c :: l) = N.ids h c.2 ++ fids l := List.flatMap_cons ..
theorem mem_fids {h : Nat} {l : List (Int × N h)} {c : Int × N h} (hc : c ∈ l) {x : Nat} (hx : x ∈ N.ids h c.2) : x ∈ fids l := List.mem_flatMap.2 ⟨c, hc, hx⟩
abbrev rawC {h : Nat} (c : Int × N h) : Int × T h := (c.1, N.raw h c.2)
theorem first_cell : ∀ {h : Nat} {w : World} {t : N h}, N.In w h t → 1 ≤ T.len h (N.raw h t) → w.cell? ⟨N.blk h t, 1, none⟩ = some (.int .i64 (T.first h (N.raw h t)))
  | 0, w, (b, es), ⟨g, hN, hP⟩, hl => by
    cases es with
    | nil => exact absurd hl (by simp [T.len, N.raw])
    | cons x es =>
      have h0 := Nd.at' hN 0 0 (by omega) (by omega)
      have hk := (hP 0 x rfl).1
      show w.cell? ⟨b, 1, none⟩ = some (.int .i64 x.1)
      rw [← hk]
      exact h0
  | h + 1, w, (b, cs), ⟨⟨g, hN, hP⟩, _⟩, hl => by
    cases cs with
    | nil => exact absurd hl (by simp [T.len, N.raw])
    | cons x cs =>
      have h0 := Nd.at' hN 0 0 (by omega) (by omega)
      have hk := (hP 0 x rfl).1
      show w.cell? ⟨b, 1, none⟩ = some (.int .i64 x.1)
      rw [← hk]
      exact h0
/-- An inner node behind an insertion. -/
theorem inner_done {tb : List Int} {key val : Int} {ok : Bool} {h b : Nat} {cs L : List (Int × N h)} {w wc w' : World} {e : Ending}
    (hr : T.ins (rankOf tb) key val ok (h + 1) (N.raw (h + 1) ((b, cs) : Nat × List (Int × N h))) = cutL (L.map rawC)) (hin : ∀ c ∈ L, N.In wc h c.2) (hnd : (b :: fids L).Nodup) (hid : ∀ x ∈ fids L, x ∈ N.ids (h + 1) ((b, cs) : Nat × List (Int × N h)) ∨ w.heap.size ≤ x)
    (hfr : Fr (· ∈ N.ids (h + 1) ((b, cs) : Nat × List (Int × N h))) w wc) (hbw : b < wc.heap.size)
    (hc : (L.length < 64 ∧ e = .returned (.pointer none) ∧ (∃ g', Nd w' b (L.length : Nat) g' ∧ Rep Rep1 g' L) ∧ Fr (· = b) wc w') ∨
      (L.length = 64 ∧ ∃ c, e = .returned (.pointer (some ⟨c, 0, none⟩)) ∧ wc.heap.size ≤ c ∧ (∃ g', Nd w' b ((L.take 32).length : Nat) g' ∧ Rep Rep1 g' (L.take 32)) ∧ (∃ g', Nd w' c ((L.drop 32).length : Nat) g' ∧ Rep Rep1 g' (L.drop 32)) ∧ Fr (· = b) wc w')) :
    Done tb key val ok (h := h + 1) ((b, cs) : Nat × List (Int × N h)) w e w' := by
  obtain ⟨hb0, hn0⟩ := List.nodup_cons.1 hnd
  have hin' : Fr (· = b) wc w' → ∀ c ∈ L, N.In w' h c.2 := fun hf c hc => (hin c hc).fr hf (fun x hx e => hb0 (e ▸ mem_fids hc hx))
  have hlt : ∀ x ∈ fids L, x < wc.heap.size := fun x hx => by
    obtain ⟨c, hc, hx⟩ := List.mem_flatMap.1 hx
    exact (hin c hc).lt x hx
  have hfr2 : Fr (· = b) wc w' → Fr (· ∈ N.ids (h + 1) ((b, cs) : Nat × List (Int × N h))) w w' := fun hf => hfr.trans hf (fun n _ e => by rw [e]; show b ∈ b :: fids cs; simp)
  rcases hc with ⟨h1, h2, h3, h4⟩ | ⟨h1, c, h2, h3, h4, h5, h6⟩
  · refine ⟨(b, L), none, h2, ⟨?_, rfl, ⟨h3, hin' h4⟩, fun _ h => (by cases h), ?_, fun x hx => ?_, hfr2 h4⟩⟩
    · rw [hr, cut_small (by rw [List.length_map]; exact h1)]; rfl
    · show (b :: fids L ++ []).Nodup
      rw [List.append_nil]; exact hnd
    · have hx' : x ∈ b :: fids L ++ [] := hx
      rw [List.append_nil] at hx'
      rcases List.mem_cons.1 hx' with rfl | hx'
      · left; show x ∈ x :: fids cs; simp
      · exact hid x hx'
  · have e0 : fids (L.take 32) ++ fids (L.drop 32) = fids L := by rw [← fids_app, List.take_append_drop]
    refine ⟨(b, L.take 32), some (c, L.drop 32), h2, ⟨?_, rfl, ⟨h4, fun d hd => hin' h6 d (List.mem_of_mem_take hd)⟩, fun x hx => ?_, ?_, fun x hx => ?_, hfr2 h6⟩⟩
    · rw [hr, cut_great (by rw [List.length_map]; exact h1), ← List.map_take, ← List.map_drop]; rfl
    · obtain rfl := Option.some.inj hx
      exact ⟨h5, fun d hd => hin' h6 d (List.mem_of_mem_drop hd)⟩
    · show (b :: fids (L.take 32) ++ (c :: fids (L.drop 32))).Nodup
      rw [← e0] at hn0 hb0 hlt
      obtain ⟨n1, n2, n3⟩ := List.nodup_append.1 hn0
      refine List.nodup_append.2 ⟨List.nodup_cons.2 ⟨fun h => hb0 (List.mem_append_left _ h), n1⟩, List.nodup_cons.2 ⟨fun h => by have := hlt c (List.mem_append_right _ h); omega, n2⟩, fun x hx y hy e => ?_⟩
      subst e
      rcases List.mem_cons.1 hx with rfl | hx
      · rcases List.mem_cons.1 hy with e | hy
        · omega
        · exact hb0 (List.mem_append_right _ hy)
      · rcases List.mem_cons.1 hy with rfl | hy
        · have := hlt x (List.mem_append_left _ hx); omega
        · exact n3 x hx x hy rfl
    · have hx' : x ∈ b :: fids (L.take 32) ++ (c :: fids (L.drop 32)) := hx
      rcases List.mem_append.1 hx' with hx' | hx'
      · rcases List.mem_cons.1 hx' with rfl | hx'
        · left; show x ∈ x :: fids cs; simp
        · exact hid x (by rw [← e0]; exact List.mem_append_left _ hx')
      · rcases List.mem_cons.1 hx' with rfl | hx'
        · right; have := hfr.size; omega
        · exact hid x (by rw [← e0]; exact List.mem_append_right _ hx')
/-- A part of a tree that fits, fits. -/
theorem Good.kid {base : Nat} {tb : List Int} {w : World} {h b : Nat} {A B : List (Int × N h)} {x : Int × N h} (G : Good base tb w (h := h + 1) ((b, A ++ x :: B) : Nat × List (Int × N h))) : Good base tb w x.2 := by
  have hnd : (b :: fids (A ++ x :: B)).Nodup := G.nodup
  have hrow : (∀ c ∈ (A ++ x :: B).map rawC, Part (rankOf tb) c) ∧ Ch (rankOf tb) ((A ++ x :: B).map rawC) := G.row
  have hp := hrow.1 (rawC x) (List.mem_map.2 ⟨x, by simp, rfl⟩)
  rw [fids_app, fids_cons] at hnd
  refine ⟨G.mem.2 x (by simp), (List.nodup_append.1 (List.nodup_append.1 (List.nodup_cons.1 hnd).2).2.1).1, fun y hy => G.above y ?_, hp.1, hp.2.1, fun _ => hp.2.2⟩
  show y ∈ b :: fids (A ++ x :: B)
  exact List.mem_cons_of_mem _ (mem_fids (by simp) hy)
/-- What stands behind an insertion into a part. -/
theorem Good.below {base : Nat} {tb : List Int} {w w' : World} {h : Nat} {t : N h} (G : Good base tb w t) (hb : Below w.heap.size w w') : Good base tb w' t := ⟨G.mem.below hb, G.nodup, G.above, G.row, G.len, G.one⟩
theorem fr_dn {S : Nat → Prop} {a w : World} {n : Nat} (h : Fr S (a.drewN n) w) : Fr S a w := ⟨h.os, h.tape, h.output, h.size, h.block⟩
theorem split_at {α : Type} {l : List α} {i : Nat} {x : α} (h : l[i]? = some x) : ∃ A B, l = A ++ x :: B ∧ A.length = i := by
  obtain ⟨hi, rfl⟩ := List.getElem?_eq_some_iff.1 h
  exact ⟨l.take i, l.drop (i + 1), by rw [← List.drop_eq_getElem_cons hi, List.take_append_drop], by rw [List.length_take]; omega⟩
/-- What an insertion makes of a node, out of what it makes of the part. -/
theorem ins_kid {tb : List Int} {key val : Int} {ok : Bool} {h b i : Nat} {A B : List (Int × N h)} {x : Int × N h} {x' : N h} {u : Option (N h)} (hA : A.length = i) (hx : (A ++ x :: B)[i]? = some x)
    (hn : ∀ y d, 1 ≤ y → y ≤ i → (A ++ x :: B)[y]? = some d → ¬ rankOf tb key < rankOf tb d.1) (hp : i + 1 = (A ++ x :: B).length ∨ ∃ d, (A ++ x :: B)[i + 1]? = some d ∧ rankOf tb key < rankOf tb d.1)
    (hr : (N.raw h x', u.map (N.raw h)) = T.ins (rankOf tb) key val ok h (N.raw h x.2)) :
    T.ins (rankOf tb) key val ok (h + 1) (N.raw (h + 1) ((b, A ++ x :: B) : Nat × List (Int × N h))) = cutL ((A ++ (x.1, x') :: ((u.map (fun u => (T.first h (N.raw h u), u))).toList ++ B)).map rawC) := by
  have e := insC_at (r := rankOf tb) (f := T.ins (rankOf tb) key val ok h) (fst := T.first h) key (cs := (A ++ x :: B).map rawC) (j := i) (c := rawC x) (fun y d h1 h2 hd => by
    rw [List.getElem?_map] at hd
    obtain ⟨d', hd', rfl⟩ := Option.map_eq_some_iff.1 hd
    exact hn y d' h1 h2 hd') (by rw [List.getElem?_map, hx]; rfl) (by
    rcases hp with hp | ⟨d, h1, h2⟩
    · left; rw [List.length_map]; exact hp
    · exact .inr ⟨rawC d, by rw [List.getElem?_map, h1]; rfl, h2⟩)
  show cutL (insC (rankOf tb) (T.ins (rankOf tb) key val ok h) (T.first h) key ((A ++ x :: B).map rawC)) = _
  rw [e]
  congr 1
  rw [show (rawC x).2 = N.raw h x.2 from rfl, ← hr]
  have t1 : ((A ++ x :: B).map rawC).take i = A.map rawC := by rw [← List.map_take, ← hA, List.take_left']; rfl
  have t2 : ((A ++ x :: B).map rawC).drop (i + 1) = B.map rawC := by
    rw [← List.map_drop, ← hA, show A ++ x :: B = (A ++ [x]) ++ B by simp, show A.length + 1 = (A ++ [x]).length by simp, List.drop_left]
  rw [t1, t2]
  cases u <;> simp [rawC]
theorem kid_in {w : World} {h : Nat} {A B : List (Int × N h)} {k : Int} {x' : N h} (h1 : ∀ c ∈ A ++ B, N.In w h c.2) (h2 : N.In w h x') : ∀ c ∈ A ++ (k, x') :: B, N.In w h c.2 := fun c hc => by
  rcases List.mem_append.1 hc with hc | hc
  · exact h1 c (List.mem_append_left _ hc)
  · rcases List.mem_cons.1 hc with rfl | hc
    · exact h2
    · exact h1 c (List.mem_append_right _ hc)
theorem kid_nd {h b : Nat} {A B : List (Int × N h)} {k : Int} {x' : N h} (h1 : (b :: (fids A ++ ((N.ids h x' ++ uids (none : Option (N h))) ++ fids B))).Nodup) : (b :: fids (A ++ (k, x') :: B)).Nodup := by
  rw [fids_app, fids_cons]
  simpa [uids] using h1
theorem kid_ids {w W : World} {h b : Nat} {cs A B : List (Int × N h)} {k : Int} {x' : N h} (hW : Below w.heap.size w W) (h1 : ∀ y ∈ fids A ++ ((N.ids h x' ++ uids (none : Option (N h))) ++ fids B), y ∈ b :: fids cs ∨ W.heap.size ≤ y) :
    ∀ y ∈ fids (A ++ (k, x') :: B), y ∈ N.ids (h + 1) ((b, cs) : Nat × List (Int × N h)) ∨ w.heap.size ≤ y := fun y hy => by
  rw [fids_app, fids_cons] at hy
  have := hW.size
  rcases h1 y (by simpa [uids] using hy) with h | h
  · exact .inl h
  · right; omega
theorem kid2_in {w : World} {h : Nat} {A B : List (Int × N h)} {k k2 : Int} {x' u : N h} (h1 : ∀ c ∈ A ++ B, N.In w h c.2) (h2 : N.In w h x') (h3 : N.In w h u) : ∀ c ∈ A ++ (k, x') :: (k2, u) :: B, N.In w h c.2 := fun c hc => by
  rcases List.mem_append.1 hc with hc | hc
  · exact h1 c (List.mem_append_left _ hc)
  · rcases List.mem_cons.1 hc with rfl | hc
    · exact h2
    · rcases List.mem_cons.1 hc with rfl | hc
      · exact h3
      · exact h1 c (List.mem_append_right _ hc)
theorem kid2_nd {h b : Nat} {A B : List (Int × N h)} {k k2 : Int} {x' u : N h} (h1 : (b :: (fids A ++ ((N.ids h x' ++ uids (some u)) ++ fids B))).Nodup) : (b :: fids (A ++ (k, x') :: (k2, u) :: B)).Nodup := by
  rw [fids_app, fids_cons, fids_cons]
  simpa [uids] using h1
theorem kid2_ids {W : World} {h b : Nat} {cs A B : List (Int × N h)} {k k2 : Int} {x' u : N h} (h1 : ∀ y ∈ fids A ++ ((N.ids h x' ++ uids (some u)) ++ fids B), y ∈ b :: fids cs ∨ W.heap.size ≤ y) :
    ∀ y ∈ fids (A ++ (k, x') :: (k2, u) :: B), y ∈ N.ids (h + 1) ((b, cs) : Nat × List (Int × N h)) ∨ W.heap.size ≤ y := fun y hy => by
  rw [fids_app, fids_cons, fids_cons] at hy
  exact h1 y (by simpa [uids] using hy)
theorem kid_rep {h : Nat} {g : Nat → Q} {A B : List (Int × N h)} {x : Int × N h} {x' : N h} (hP : Rep Rep1 g (A ++ x :: B)) (hb : N.blk h x' = N.blk h x.2) : Rep Rep1 g (A ++ (x.1, x') :: B) := fun i y hy => by
  by_cases e : i = A.length
  · subst e
    have h0 := hP A.length x (by simp)
    obtain rfl : (x.1, x') = y := by simpa using hy
    exact ⟨h0.1, by rw [h0.2]; exact congrArg (fun z => some (⟨z, 0, none⟩ : Addr)) hb.symm⟩
  · refine hP i y ?_
    by_cases h1 : i < A.length
    · rw [List.getElem?_append_left h1] at hy ⊢; exact hy
    · rw [List.getElem?_append_right (by omega)] at hy ⊢
      obtain ⟨d, hd⟩ : ∃ d, i - A.length = d + 1 := ⟨i - A.length - 1, by omega⟩
      rw [hd] at hy ⊢
      simpa using hy
theorem made_u {base : Nat} {tb : List Int} {key val : Int} {ok : Bool} {w : World} {h : Nat} {x x' u : N h} (G : Good base tb w x) (hr : (N.raw h x', (some u).map (N.raw h)) = T.ins (rankOf tb) key val ok h (N.raw h x)) : 1 ≤ T.len h (N.raw h u) :=
  ((ins_made (k := key) (v := val) (ok := ok) G.row G.len G.one).some_ _ (by rw [← hr]; rfl)).1.2.2
theorem Out.blk_ne {tb : List Int} {key val : Int} {ok : Bool} {h n e : Nat} {x x' u : N h} {w w1 : World} (O : Out tb key val ok x x' (some u) (w.drewN n) w1) (hs : w.heap.size = e + 1) (hn : e ∉ N.ids h x) : N.blk h u ≠ e := fun hh => by
  rcases O.ids (N.blk h u) (List.mem_append_right _ (N.blk_in u)) with h1 | h1
  · exact hn (hh ▸ h1)
  · have : w.heap.size ≤ N.blk h u := h1
    omega
theorem kid_left {base : Nat} {tb : List Int} {key val : Int} {ok : Bool} {w W w1 : World} {h b : Nat} {A B : List (Int × N h)} {x : Int × N h} {x' : N h} {u : Option (N h)} (G : Good base tb w (h := h + 1) ((b, A ++ x :: B) : Nat × List (Int × N h))) (hW : Below w.heap.size w W)
    (O : Out tb key val ok x.2 x' u W w1) :
    (b ∉ N.ids h x.2) ∧ (∀ c ∈ A ++ B, N.In w1 h c.2) ∧ (b :: (fids A ++ ((N.ids h x' ++ uids u) ++ fids B))).Nodup ∧ (∀ y ∈ fids A ++ ((N.ids h x' ++ uids u) ++ fids B), y ∈ b :: fids (A ++ x :: B) ∨ W.heap.size ≤ y) ∧ Fr (· ∈ b :: fids (A ++ x :: B)) w w1 := by
  have hnd : (b :: fids (A ++ x :: B)).Nodup := G.nodup
  rw [fids_app, fids_cons] at hnd
  obtain ⟨b1, n1⟩ := List.nodup_cons.1 hnd
  obtain ⟨nA, n2, n3⟩ := List.nodup_append.1 n1
  obtain ⟨nx, nB, n4⟩ := List.nodup_append.1 n2
  have lt : ∀ y ∈ b :: fids (A ++ x :: B), y < w.heap.size := fun y hy => N.In.lt (h := h + 1) (t := (b, A ++ x :: B)) G.mem y hy
  have ltA : ∀ y ∈ fids A, y < w.heap.size := fun y hy => lt y (by rw [fids_app]; simp [hy])
  have ltB : ∀ y ∈ fids B, y < w.heap.size := fun y hy => lt y (by rw [fids_app, fids_cons]; simp [hy])
  have ltb : b < w.heap.size := lt b (by simp)
  have hs := hW.size
  have nw : ∀ y ∈ N.ids h x' ++ uids u, y ∈ N.ids h x.2 ∨ W.heap.size ≤ y := O.ids
  refine ⟨fun hm => b1 (by simp [hm]), fun c hc => ?_, ?_, fun y hy => ?_, ?_⟩
  · refine ((G.mem.2 c (by simp at hc ⊢; rcases hc with hc | hc <;> simp [hc])).below hW).fr O.fr (fun y hy hx => ?_)
    rcases List.mem_append.1 hc with hc | hc
    · exact n3 y (mem_fids hc hy) y (List.mem_append_left _ hx) rfl
    · exact n4 y hx y (mem_fids hc hy) rfl
  · refine List.nodup_cons.2 ⟨fun hm => ?_, List.nodup_append.2 ⟨nA, List.nodup_append.2 ⟨O.nodup, nB, fun y hy z hz e => ?_⟩, fun y hy z hz e => ?_⟩⟩
    · rcases List.mem_append.1 hm with hm | hm
      · exact b1 (by simp [hm])
      · rcases List.mem_append.1 hm with hm | hm
        · rcases nw b hm with h1 | h1
          · exact b1 (by simp [h1])
          · omega
        · exact b1 (by simp [hm])
    · subst e
      rcases nw y hy with h1 | h1
      · exact n4 y h1 y hz rfl
      · have := ltB y hz; omega
    · subst e
      rcases List.mem_append.1 hz with hz | hz
      · rcases nw y hz with h1 | h1
        · exact n3 y hy y (List.mem_append_left _ h1) rfl
        · have := ltA y hy; omega
      · exact n3 y hy y (List.mem_append_right _ hz) rfl
  · rw [fids_app, fids_cons]
    rcases List.mem_append.1 hy with hy | hy
    · left; simp [hy]
    · rcases List.mem_append.1 hy with hy | hy
      · rcases nw y hy with h1 | h1
        · left; simp [h1]
        · exact .inr h1
      · left; simp [hy]
  · refine (Fr.new hW).trans O.fr (fun n _ hn => ?_)
    rw [fids_app, fids_cons]
    simp [hn]
set_option maxHeartbeats 16000000 in
set_option maxRecDepth 100000 in
theorem insert_step (base R : Nat) (tb : List Int) (key val n H : Int) (ok : Bool) (rp lv : Value) (h : Nat) (t : N h) (w : World)
    (ih : ∀ h', h = h' + 1 → ∀ (t : N h') (w : World), Good base tb w t → Blk w R #[rp, .int .i64 H, .int .i64 n, lv] 115 → R ∉ N.ids h' t → LessS base w lv tb → base ≤ w.heap.size → h' ≤ 1099511627776 →
      Calls Try.prog 92 #[.pointer (some ⟨R, 0, none⟩), .pointer (some ⟨N.blk h' t, 0, none⟩), .int .i64 key, .int .i64 val, .int .i64 h', .bool ok] w (Done tb key val ok t w))
    (hG : Good base tb w t) (hR : Blk w R #[rp, .int .i64 H, .int .i64 n, lv] 115) (hRn : R ∉ N.ids h t) (hL : LessS base w lv tb) (hb : base ≤ w.heap.size) (hh : h ≤ 1099511627776) :
    Calls Try.prog 92 #[.pointer (some ⟨R, 0, none⟩), .pointer (some ⟨N.blk h t, 0, none⟩), .int .i64 key, .int .i64 val, .int .i64 h, .bool ok] w (Done tb key val ok t w) := by
    have HIH := hid ih
    clear ih
    have HG := hid hG
    have HR := hid hR
    have HRN := hid hRn
    have HL := hid hL
    have HB := hid hb
    have HH := hid hh
    clear hG hR hRn hL hb hh
    obtain ⟨b, hbk⟩ : ∃ b, N.blk h t = b := ⟨_, rfl⟩
    rw [hbk]
    have HBK := hid hbk
    clear hbk
    obtain ⟨hv, hhv⟩ : ∃ hv : Int, (h : Int) = hv := ⟨_, rfl⟩
    rw [hhv]
    have HHV := hid hhv
    clear hhv
    have HE : Hid (Blk (w.alloc (.cells #[.int .i64 key, .int .i64 val, .bool ok, .pointer none] 110)) w.heap.size #[.int .i64 key, .int .i64 val, .bool ok, .pointer none] 110) := Blk.new w _ _
    have HW : Hid (Below w.heap.size w (w.alloc (.cells #[.int .i64 key, .int .i64 val, .bool ok, .pointer none] 110))) := (Below.refl _ _).alloc (Nat.le_refl _) _
    have HSZ : Hid ((w.alloc (.cells #[.int .i64 key, .int .i64 val, .bool ok, .pointer none] 110)).heap.size = w.heap.size + 1) := alloc_size _ _
    go_enter Try.func92, Try.ntmps92
    go_upto_region 2 with fail
    generalize w.alloc (.cells #[.int .i64 key, .int .i64 val, .bool ok, .pointer none] 110) = W at HE HW HSZ ⊢
    go_upto_if 22 with fail
    go_cut [14, 15] from 22 to 132 (fun v14 v15 wc => ∃ (j m : Nat) (g : Nat → Q) (q : Q), v14 = .int .i64 j ∧ j ≤ m ∧ m ≤ 63 ∧ Hid (Nd wc b m g ∧ Blk wc w.heap.size #[.int .i64 q.k, .int .i64 q.v, .bool q.ok, .pointer q.p] 110 ∧ b ≠ w.heap.size ∧ Blk wc R #[rp, .int .i64 H, .int .i64 n, lv] 115 ∧ ∀ e w', Tail b m g j q wc e w' → Done tb key val ok t w e w'))
    case first =>
      cases h with
      | zero =>
        obtain rfl : hv = 0 := by have := HHV.out; omega
        obtain ⟨b', es⟩ := t
        obtain rfl : b' = b := HBK.out
        obtain ⟨g, hN0, hP0⟩ := HG.out.mem
        have HN : Hid (Nd w b' es.length g) := hN0
        have HP : Hid (Rep Rep0 g es) := hP0
        have HF : Hid (es.length ≤ 63) := HG.out.len
        clear hN0 hP0
        go_wp2_with fail
        go_loopg [14] es.length (fun n_ v14 wr => ∃ i : Nat, v14 = .int .i64 i ∧ i ≤ es.length ∧ Hid (n_ + i = es.length) ∧ Hid ((∃ q, wr = W.drewN q) ∧ ∀ y e, y < i → es[y]? = some e → rankOf tb e.1 < rankOf tb key))
        case atStart => exact ⟨0, rfl, Nat.zero_le _, Nat.add_zero _, ⟨0, rfl⟩, fun y e hy => absurd hy (Nat.not_lt_zero _)⟩
        case round =>
          obtain ⟨i, rfl, hi, HGK, HI⟩ := hrel
          have HNW : Hid (Nd wr b' es.length g) := by obtain ⟨q, hq⟩ := HI.out.1; rw [hq]; exact Nd.below HN.out (below_dN HW.out q) HN.out.lt
          have HRW : Hid (Blk wr R #[rp, .int .i64 H, .int .i64 n, lv] 115) := by obtain ⟨q, hq⟩ := HI.out.1; rw [hq]; exact HR.out.below (below_dN HW.out q) HR.out.lt
          have HEW : Hid (Blk wr w.heap.size #[.int .i64 key, .int .i64 val, .bool ok, .pointer none] 110) := by obtain ⟨q, hq⟩ := HI.out.1; rw [hq]; exact HE.out
          have HBW : Hid (Below w.heap.size w wr) := by obtain ⟨q, hq⟩ := HI.out.1; rw [hq]; exact below_dN HW.out q
          have HNE : Hid (b' ≠ w.heap.size) := hid (Nat.ne_of_lt HN.out.lt)
          have c0 : wr.cell? ⟨b', 0, none⟩ = some (.int .i64 es.length) := HNW.out.m0
          by_cases hlt : i < es.length
          · have hx : es[i]? = some es[i] := List.getElem?_eq_getElem hlt
            have h64 : i < 64 := by have := HF.out; omega
            generalize es[i] = x at hx
            have hk := (HP.out i x hx).1
            have a0 : wr.cell? ⟨b', 1 + i * 4, none⟩ = some (.int .i64 x.1) := by rw [← hk]; exact HNW.out.at' i 0 h64 (by omega)
            have c3 : wr.cell? ⟨R, 3, none⟩ = some lv := HRW.out.cell 3
            have HX := hid hx
            have HLS : Hid (LessS base wr lv tb) := hid (HL.out.to (below_le HBW.out HB.out))
            clear hk hx
            have r1 : (i : Int) < 64 := by omega
            have hlti : (i : Int) < es.length := by omega
            go_upto_region 7 with fail
            refine still_tail_drew 12 (by kernel_rfl) (by kernel_rfl) ?_
            simp only [List.take_succ_cons, List.take_zero, List.drop_succ_cons, List.drop_zero]
            repeat still_step
            refine wpStill_nil ?_
            go_wp2_with fail
            refine (compare_any lv tb key x.1 _ (HLS.out.drewN 1).now).mono ?_
            rintro e w1 ⟨rfl, q1, hq1⟩
            have HQ1 : Hid (∃ q, w1 = wr.drewN q) := ⟨1 + q1, by rw [hq1]; simp⟩
            clear hq1
            by_cases he : rankOf tb key = rankOf tb x.1
            · rw [cmp_eq (by omega) (by omega)]
              have HEQ := hid he
              clear he a0 c3 c0
              have HN1 : Hid (Nd w1 b' es.length g ∧ Below w.heap.size w w1) := by obtain ⟨q, hq⟩ := HQ1.out; rw [hq]; exact ⟨HNW.out, below_dN HBW.out q⟩
              have a1 : w1.cell? ⟨b', 1 + i * 4 + 1, none⟩ = some (.int .i64 (g i).v) := HN1.out.1.at' i 1 h64 (by omega)
              have a2 : w1.cell? ⟨b', 1 + i * 4 + 2, none⟩ = some (.bool (g i).ok) := HN1.out.1.at' i 2 h64 (by omega)
              have f1 : w1.frozen? ⟨b', 1 + i * 4 + 1, none⟩ = false := HN1.out.1.free _
              have f2 : w1.frozen? ⟨b', 1 + i * 4 + 2, none⟩ = false := HN1.out.1.free _
              have HS : Hid (Nd ((w1.setCell ⟨b', 1 + i * 4 + 1, none⟩ (.int .i64 val)).setCell ⟨b', 1 + i * 4 + 2, none⟩ (.bool ok)) b' es.length (upd g i ⟨(g i).k, val, ok, (g i).p⟩)) := two_set HN1.out.1 i val ok h64
              have HS2 : Hid (Fr (· = b') w ((w1.setCell ⟨b', 1 + i * 4 + 1, none⟩ (.int .i64 val)).setCell ⟨b', 1 + i * 4 + 2, none⟩ (.bool ok))) := Fr.setCell (S := (· = b')) (Fr.setCell (S := (· = b')) (Fr.new HN1.out.2) (p := ⟨b', 1 + i * 4 + 1, none⟩) (fun _ => rfl) _) (p := ⟨b', 1 + i * 4 + 2, none⟩) (fun _ => rfl) _
              go_wp2_with fail
              go_ret
              exact leaf_same HP.out HF.out HX.out (ins_same HI.out.2 HX.out HEQ.out) HS.out HS2.out
            · have hc : cmp tb key x.1 ≠ 0 := fun h => he (by unfold cmp at h; split at h <;> (try split at h) <;> omega)
              have hc2 : (cmp tb key x.1 == 0) = false := beq_eq_false_iff_ne.2 hc
              have HNQ := hid he
              clear he
              have HN1 : Hid (Nd w1 b' es.length g ∧ Below w.heap.size w w1 ∧ Blk w1 w.heap.size #[.int .i64 key, .int .i64 val, .bool ok, .pointer none] 110 ∧ Blk w1 R #[rp, .int .i64 H, .int .i64 n, lv] 115 ∧ LessS base w1 lv tb) := by obtain ⟨q, hq⟩ := HQ1.out; rw [hq]; exact ⟨HNW.out, below_dN HBW.out q, HEW.out, HRW.out, HLS.out.drewN q⟩
              clear a0 c3 c0
              have a0 : w1.cell? ⟨b', 1 + i * 4, none⟩ = some (.int .i64 x.1) := by rw [← (HP.out i x HX.out).1]; exact HN1.out.1.at' i 0 h64 (by omega)
              have c3 : w1.cell? ⟨R, 3, none⟩ = some lv := HN1.out.2.2.2.1.cell 3
              obtain ⟨cv, hcv⟩ : ∃ cv, cmp tb key x.1 = cv := ⟨_, rfl⟩
              have HCV := hid hcv
              rw [hcv] at hc hc2 ⊢
              clear hcv
              go_upto_region 11 with fail
              refine still_tail_drew 12 (by kernel_rfl) (by kernel_rfl) ?_
              simp only [List.take_succ_cons, List.take_zero, List.drop_succ_cons, List.drop_zero]
              repeat still_step
              refine wpStill_nil ?_
              go_wp2_with fail
              refine (compare_any lv tb key x.1 _ (HN1.out.2.2.2.2.drewN 1).now).mono ?_
              rintro e w2 ⟨rfl, q2, hq2⟩
              have HN2 : Hid (Nd w2 b' es.length g ∧ Below w.heap.size w w2 ∧ Blk w2 w.heap.size #[.int .i64 key, .int .i64 val, .bool ok, .pointer none] 110 ∧ Blk w2 R #[rp, .int .i64 H, .int .i64 n, lv] 115) := by rw [hq2]; exact ⟨HN1.out.1, below_dN (below_dr HN1.out.2.1) q2, HN1.out.2.2.1, HN1.out.2.2.2.1⟩
              have HQ2 : Hid (∃ q, w2 = W.drewN q) := by
                obtain ⟨qa, ha⟩ := HI.out.1
                obtain ⟨qb, hb⟩ := HQ1.out
                exact ⟨qa + qb + 1 + q2, by rw [hq2, hb, ha]; simp [Nat.add_assoc]⟩
              clear hq2 a0 c3
              by_cases hc3 : rankOf tb key < rankOf tb x.1
              · rw [cmp_lt hc3]
                have HC3 := hid hc3
                clear hc3 hc hc2
                go_wp2_with fail
                go_meet
                case rel => exact ⟨i, es.length, g, ⟨key, val, ok, none⟩, rfl, hi, HF.out, HN2.out.1, HN2.out.2.2.1, HNE.out, HN2.out.2.2.2, fun e w' hT => leaf_done HN2.out.2.1 HN.out.lt HP.out hi (ins_at HI.out.2 hi (.inr ⟨x, HX.out, HC3.out⟩)) hT⟩
              · have HC3 : Hid (rankOf tb x.1 < rankOf tb key) := hid (by have := HNQ.out; omega)
                rw [cmp_gt HC3.out]
                clear hc3 hc hc2
                go_wp2_with fail
                have hg0 := HGK.out
                obtain ⟨k1, rfl⟩ : ∃ k1, gk = k1 + 1 := ⟨gk - 1, by omega⟩
                go_roundg k1
                case measure => omega
                case rel => exact ⟨i + 1, rfl, hlt, by show k1 + (i + 1) = es.length; omega, HQ2.out, fun y e hy hq => by
                  by_cases hyi : y = i
                  · subst hyi; rw [HX.out] at hq; obtain rfl := Option.some.inj hq; exact HC3.out
                  · exact HI.out.2 y e (by omega) hq⟩
          · obtain rfl : i = es.length := by omega
            have hlti : ¬ (es.length : Int) < es.length := by omega
            go_wp2_with fail
            go_meet
            case rel => exact ⟨es.length, es.length, g, ⟨key, val, ok, none⟩, rfl, Nat.le_refl _, HF.out, HNW.out, HEW.out, HNE.out, HRW.out, fun e w' hT => leaf_done HBW.out HN.out.lt HP.out (Nat.le_refl _) (ins_at HI.out.2 (Nat.le_refl _) (.inl rfl)) hT⟩
      | succ h =>
        obtain ⟨b', cs⟩ := t
        obtain rfl : b' = b := HBK.out
        obtain ⟨⟨g, hN0, hP0⟩, hI0⟩ := HG.out.mem
        have HN : Hid (Nd w b' cs.length g) := hN0
        have HP : Hid (Rep Rep1 g cs) := hP0
        have hlen0 : (cs.map rawC).length ≤ 63 := HG.out.len
        have hone0 : 1 ≤ (cs.map rawC).length := HG.out.one (by omega)
        rw [List.length_map] at hlen0 hone0
        have HF : Hid (cs.length ≤ 63 ∧ 1 ≤ cs.length) := ⟨hlen0, hone0⟩
        clear hN0 hP0 hI0 hlen0 hone0
        have hz : (hv == 0) = false := beq_eq_false_iff_ne.2 (by have := HHV.out; omega)
        have hz2 : IntKind.i64.wrap (hv - 1) = (h : Int) := by have := HHV.out; have := HH.out; rw [i64_in _ (by omega)]; omega
        rw [hz]
        clear hz
        go_wp2_with fail
        go_loopg [14, 15] cs.length (fun n_ v14 v15 wr => ∃ i : Nat, v14 = .int .i64 i ∧ i < cs.length ∧ Hid (n_ + i = cs.length) ∧ Hid ((∃ q, wr = W.drewN q) ∧ ∀ y d, 1 ≤ y → y ≤ i → cs[y]? = some d → ¬ rankOf tb key < rankOf tb d.1))
        case atStart => exact ⟨0, rfl, HF.out.2, Nat.add_zero _, ⟨0, rfl⟩, fun y d h1 h2 => by omega⟩
        case round =>
          obtain ⟨i, rfl, hlt, HGK, HI⟩ := hrel
          have HNW : Hid (Nd wr b' cs.length g) := by obtain ⟨q, hq⟩ := HI.out.1; rw [hq]; exact Nd.below HN.out (below_dN HW.out q) HN.out.lt
          have HRW : Hid (Blk wr R #[rp, .int .i64 H, .int .i64 n, lv] 115) := by obtain ⟨q, hq⟩ := HI.out.1; rw [hq]; exact HR.out.below (below_dN HW.out q) HR.out.lt
          have HEW : Hid (Blk wr w.heap.size #[.int .i64 key, .int .i64 val, .bool ok, .pointer none] 110) := by obtain ⟨q, hq⟩ := HI.out.1; rw [hq]; exact HE.out
          have HBW : Hid (Below w.heap.size w wr ∧ wr.heap.size = w.heap.size + 1) := by obtain ⟨q, hq⟩ := HI.out.1; rw [hq]; exact ⟨below_dN HW.out q, HSZ.out⟩
          have HNE : Hid (b' ≠ w.heap.size) := hid (Nat.ne_of_lt HN.out.lt)
          have c0 : wr.cell? ⟨b', 0, none⟩ = some (.int .i64 cs.length) := HNW.out.m0
          have hx : cs[i]? = some cs[i] := List.getElem?_eq_getElem hlt
          have h63 := HF.out.1
          generalize cs[i] = x at hx
          have hp := (HP.out i x hx).2
          have c3 : wr.cell? ⟨R, 3, none⟩ = some lv := HRW.out.cell 3
          have HX := hid hx
          have HLS : Hid (LessS base wr lv tb) := hid (HL.out.to (below_le HBW.out.1 HB.out))
          have hlti : (i : Int) < cs.length := by omega
          have hw1 : IntKind.i64.wrap ((i : Int) + 1) = ((i + 1 : Nat) : Int) := by rw [i64_in _ (by omega)]; rfl
          have r1 : (i : Int) < 64 := by omega
          have hp3 : wr.cell? ⟨b', 1 + i * 4 + 3, none⟩ = some (.pointer (some ⟨N.blk h x.2, 0, none⟩)) := by rw [← hp]; exact HNW.out.at' i 3 (by omega) (by omega)
          clear hp hx
          by_cases hl : i + 1 = cs.length
          · have hm : ((cs.length : Int) == ((i + 1 : Nat) : Int)) = true := by rw [hl]; simp
            have hm' : (((i + 1 : Nat) : Int) == (cs.length : Int)) = true := by rw [hl]; simp
            have HPK : Hid (i + 1 = cs.length ∨ ∃ d, cs[i + 1]? = some d ∧ rankOf tb key < rankOf tb d.1) := .inl hl
            go_wp2_with fail
            go_quiet ((fail))
            go_wp2_with fail
            clear hl hm hm'
            clear c0 c3 hp3
            obtain ⟨A, B, hcs, hA⟩ : ∃ A B, cs = A ++ x :: B ∧ A.length = i := split_at HX.out
            have HHA := hid hA
            subst hcs
            have HW2 : Hid (Below w.heap.size w (wr.drewN nq)) := hid (below_dN HBW.out.1 nq)
            have HKD : Hid (Good base tb (wr.drewN nq) x.2) := hid (HG.out.kid.below HW2.out)
            have HNR : Hid (R ∉ N.ids h x.2) := hid (fun hm => HRN.out (by show R ∈ b' :: fids (A ++ x :: B); exact List.mem_cons_of_mem _ (mem_fids (by simp) hm)))
            have HNEB : Hid (w.heap.size ∉ N.ids h x.2) := hid (fun hm => by have := HG.out.kid.mem.lt _ hm; omega)
            clear hA
            refine (HIH.out h rfl x.2 (wr.drewN nq) HKD.out HRW.out HNR.out (HLS.out.drewN nq) (by have := HB.out; have := HW2.out.size; omega) (by have := HH.out; omega)).mono ?_
            rintro e w1 ⟨x', u, rfl, O⟩
            have HO := hid O
            have HKL := hid (kid_left HG.out HW2.out O)
            have HIK := hid (ins_kid (b := b') HHA.out HX.out (fun y d h1 h2 hd => by have := HI.out.2 y d h1 h2 hd; omega) HPK.out O.raw)
            have HN1 : Hid (Nd w1 b' (A ++ x :: B).length g) := hid (Blk.fr (S := (· ∈ N.ids h x.2)) HNW.out (Fr.into (Z := (· ∈ N.ids h x.2)) (fr_dn O.fr) (fun _ h => h)) HKL.out.1)
            have HE1 : Hid (Blk w1 w.heap.size #[.int .i64 key, .int .i64 val, .bool ok, .pointer none] 110) := hid (Blk.fr (S := (· ∈ N.ids h x.2)) HEW.out (fr_dn O.fr) HNEB.out)
            have HR1 : Hid (Blk w1 R #[rp, .int .i64 H, .int .i64 n, lv] 115) := hid (Blk.fr (S := (· ∈ N.ids h x.2)) HRW.out (fr_dn O.fr) HNR.out)
            clear O
            cases u with
            | none =>
              rw [show uptr (none : Option (N h)) = .pointer none from rfl]
              go_wp2_with fail
              go_ret
              exact inner_done (L := A ++ (x.1, x') :: B) HIK.out (kid_in HKL.out.2.1 HO.out.mem) (kid_nd HKL.out.2.2.1) (fun y hy => kid_ids (hW := HW2.out) HKL.out.2.2.2.1 y hy) HKL.out.2.2.2.2 HN1.out.lt
                (.inl ⟨by have := HF.out.1; simp at this ⊢; omega, rfl, ⟨g, by rw [show (A ++ (x.1, x') :: B).length = (A ++ x :: B).length by simp]; exact HN1.out, kid_rep HP.out HO.out.blk⟩, Fr.refl _ _⟩)
            | some u =>
              rw [show uptr (some u) = .pointer (some ⟨N.blk h u, 0, none⟩) from rfl]
              have HMU := hid (made_u HKD.out HO.out.raw)
              have c1 : w1.cell? ⟨N.blk h u, 1, none⟩ = some (.int .i64 (T.first h (N.raw h u))) := first_cell (HO.out.memu u rfl) HMU.out
              have hub : N.blk h u ≠ w.heap.size := HO.out.blk_ne HBW.out.2 HNEB.out
              have e0 : w1.cell? ⟨w.heap.size, 0, none⟩ = some (.int .i64 key) := HE1.out.cell 0
              have e2 : w1.cell? ⟨w.heap.size, 2, none⟩ = some (.bool ok) := HE1.out.cell 2
              have e3 : w1.cell? ⟨w.heap.size, 3, none⟩ = some (.pointer none) := HE1.out.cell 3
              have f0 : w1.frozen? ⟨w.heap.size, 0, none⟩ = false := HE1.out.free 0
              have f2 : w1.frozen? ⟨w.heap.size, 2, none⟩ = false := HE1.out.free 2
              have f3 : w1.frozen? ⟨w.heap.size, 3, none⟩ = false := HE1.out.free 3
              obtain ⟨fu, hfu⟩ : ∃ fu, T.first h (N.raw h u) = fu := ⟨_, rfl⟩
              obtain ⟨bu, hbu⟩ : ∃ bu, N.blk h u = bu := ⟨_, rfl⟩
              rw [hfu, hbu] at c1
              rw [hbu] at hub ⊢
              have HFU := hid (And.intro hfu hbu)
              clear hfu hbu
              go_wp2_with fail
              have HZ0 : Hid (Fr (· = w.heap.size) w1 (((w1.setCell ⟨w.heap.size, 0, none⟩ (.int .i64 fu)).setCell ⟨w.heap.size, 2, none⟩ (.bool false)).setCell ⟨w.heap.size, 3, none⟩ (.pointer (some ⟨bu, 0, none⟩)))) :=
                hid (Fr.setCell (S := (· = w.heap.size)) (Fr.setCell (S := (· = w.heap.size)) (Fr.setCell (S := (· = w.heap.size)) (Fr.refl _ _) (p := ⟨w.heap.size, 0, none⟩) (fun _ => rfl) _) (p := ⟨w.heap.size, 2, none⟩) (fun _ => rfl) _) (p := ⟨w.heap.size, 3, none⟩) (fun _ => rfl) _)
              have HZ1 : Hid (Blk (((w1.setCell ⟨w.heap.size, 0, none⟩ (.int .i64 fu)).setCell ⟨w.heap.size, 2, none⟩ (.bool false)).setCell ⟨w.heap.size, 3, none⟩ (.pointer (some ⟨bu, 0, none⟩))) w.heap.size #[.int .i64 fu, .int .i64 val, .bool false, .pointer (some ⟨bu, 0, none⟩)] 110) := hid (((HE1.out.set 0 _).set 2 _).set 3 _)
              generalize ((w1.setCell ⟨w.heap.size, 0, none⟩ (.int .i64 fu)).setCell ⟨w.heap.size, 2, none⟩ (.bool false)).setCell ⟨w.heap.size, 3, none⟩ (.pointer (some ⟨bu, 0, none⟩)) = wz at HZ0 HZ1 ⊢
              go_meet
              case rel => exact ⟨i + 1, (A ++ x :: B).length, g, ⟨fu, val, false, some ⟨bu, 0, none⟩⟩, rfl, hlt, HF.out.1, Blk.fr HN1.out HZ0.out HNE.out, HZ1.out, HNE.out, Blk.fr HR1.out HZ0.out (Nat.ne_of_lt HR.out.lt), fun e w' hT => by
                obtain ⟨rfl, rfl⟩ := HFU.out
                have hl1 : (A ++ x :: B).length = (A ++ (x.1, x') :: B).length := by simp
                rw [hl1] at hT
                have hT2 := hT.rep (x := (T.first h (N.raw h u), u)) (kid_rep HP.out HO.out.blk) ⟨rfl, rfl⟩ (by rw [← hl1]; exact hlt)
                have hL : (A ++ (x.1, x') :: B).take (i + 1) ++ (T.first h (N.raw h u), u) :: (A ++ (x.1, x') :: B).drop (i + 1) = A ++ (x.1, x') :: (T.first h (N.raw h u), u) :: B := by
                  rw [← HHA.out, show A ++ (x.1, x') :: B = (A ++ [(x.1, x')]) ++ B by simp, show A.length + 1 = (A ++ [(x.1, x')]).length by simp, List.take_left, List.drop_left]
                  simp
                rw [hL] at hT2
                have hk := kid2_ids (k := x.1) (k2 := T.first h (N.raw h u)) HKL.out.2.2.2.1
                refine inner_done (L := A ++ (x.1, x') :: (T.first h (N.raw h u), u) :: B) HIK.out (fun c hc => (kid2_in HKL.out.2.1 HO.out.mem (HO.out.memu u rfl) c hc).fr HZ0.out (fun y hy e => ?_)) (kid2_nd HKL.out.2.2.1) (fun y hy => ?_) (HKL.out.2.2.2.2.trans HZ0.out (fun n hn e => absurd hn (by omega))) (Nat.lt_of_lt_of_le HN1.out.lt HZ0.out.size) hT2
                · have h2 : wr.heap.size = w.heap.size + 1 := HBW.out.2
                  rcases hk y (mem_fids hc hy) with h1 | h1
                  · have := N.In.lt (h := h + 1) HG.out.mem y h1; omega
                  · have : wr.heap.size ≤ y := h1; omega
                · have h2 : wr.heap.size = w.heap.size + 1 := HBW.out.2
                  rcases hk y hy with h1 | h1
                  · exact .inl h1
                  · right; have : wr.heap.size ≤ y := h1; omega⟩
          · have hm2 : ((cs.length : Int) == (i : Int) + 1) = false := beq_eq_false_iff_ne.2 (by omega)
            have hm2' : ((i : Int) + 1 == (cs.length : Int)) = false := beq_eq_false_iff_ne.2 (by omega)
            have hm3 : ¬ (cs.length : Int) = (i : Int) + 1 := by omega
            have hm3' : ¬ (i : Int) + 1 = (cs.length : Int) := by omega
            have hm4 : (cs.length == i + 1) = false := beq_eq_false_iff_ne.2 (by omega)
            have hm4' : (i + 1 == cs.length) = false := beq_eq_false_iff_ne.2 (by omega)
            have hm5 : ¬ cs.length = i + 1 := by omega
            have hl2 : i + 1 < cs.length := by omega
            have hx2 : cs[i + 1]? = some cs[i + 1] := List.getElem?_eq_getElem hl2
            generalize cs[i + 1] = x2 at hx2
            have hk2 := (HP.out (i + 1) x2 hx2).1
            have a0 : wr.cell? ⟨b', 1 + (i + 1) * 4, none⟩ = some (.int .i64 x2.1) := by rw [← hk2]; exact HNW.out.at' (i + 1) 0 (by omega) (by omega)
            have HX2 := hid hx2
            clear hk2 hx2
            have r2 : 0 ≤ (i : Int) + 1 ∧ (i : Int) + 1 < 64 := by omega
            have t0 : ((i : Int) + 1).toNat = i + 1 := by omega
            go_wp2_with fail
            go_quiet ((exact Calls.quiet_of (compare_any lv tb key x2.1 _ (HLS.out.drewN _).now)))
            by_cases hc : rankOf tb key < rankOf tb x2.1
            · have HPK : Hid (i + 1 = cs.length ∨ ∃ d, cs[i + 1]? = some d ∧ rankOf tb key < rankOf tb d.1) := .inr ⟨x2, HX2.out, hc⟩
              rw [cmp_lt hc]
              clear hc a0 hm2 hm2' hm3 hm3' hm4 hm4' hm5 hl2 r2 t0
              go_wp2_with fail
              clear c0 c3 hp3
              obtain ⟨A, B, hcs, hA⟩ : ∃ A B, cs = A ++ x :: B ∧ A.length = i := split_at HX.out
              have HHA := hid hA
              subst hcs
              have HW2 : Hid (Below w.heap.size w (wr.drewN nq)) := hid (below_dN HBW.out.1 nq)
              have HKD : Hid (Good base tb (wr.drewN nq) x.2) := hid (HG.out.kid.below HW2.out)
              have HNR : Hid (R ∉ N.ids h x.2) := hid (fun hm => HRN.out (by show R ∈ b' :: fids (A ++ x :: B); exact List.mem_cons_of_mem _ (mem_fids (by simp) hm)))
              have HNEB : Hid (w.heap.size ∉ N.ids h x.2) := hid (fun hm => by have := HG.out.kid.mem.lt _ hm; omega)
              clear hA
              refine (HIH.out h rfl x.2 (wr.drewN nq) HKD.out HRW.out HNR.out (HLS.out.drewN nq) (by have := HB.out; have := HW2.out.size; omega) (by have := HH.out; omega)).mono ?_
              rintro e w1 ⟨x', u, rfl, O⟩
              have HO := hid O
              have HKL := hid (kid_left HG.out HW2.out O)
              have HIK := hid (ins_kid (b := b') HHA.out HX.out (fun y d h1 h2 hd => by have := HI.out.2 y d h1 h2 hd; omega) HPK.out O.raw)
              have HN1 : Hid (Nd w1 b' (A ++ x :: B).length g) := hid (Blk.fr (S := (· ∈ N.ids h x.2)) HNW.out (Fr.into (Z := (· ∈ N.ids h x.2)) (fr_dn O.fr) (fun _ h => h)) HKL.out.1)
              have HE1 : Hid (Blk w1 w.heap.size #[.int .i64 key, .int .i64 val, .bool ok, .pointer none] 110) := hid (Blk.fr (S := (· ∈ N.ids h x.2)) HEW.out (fr_dn O.fr) HNEB.out)
              have HR1 : Hid (Blk w1 R #[rp, .int .i64 H, .int .i64 n, lv] 115) := hid (Blk.fr (S := (· ∈ N.ids h x.2)) HRW.out (fr_dn O.fr) HNR.out)
              clear O
              cases u with
              | none =>
                rw [show uptr (none : Option (N h)) = .pointer none from rfl]
                go_wp2_with fail
                go_ret
                exact inner_done (L := A ++ (x.1, x') :: B) HIK.out (kid_in HKL.out.2.1 HO.out.mem) (kid_nd HKL.out.2.2.1) (fun y hy => kid_ids (hW := HW2.out) HKL.out.2.2.2.1 y hy) HKL.out.2.2.2.2 HN1.out.lt
                  (.inl ⟨by have := HF.out.1; simp at this ⊢; omega, rfl, ⟨g, by rw [show (A ++ (x.1, x') :: B).length = (A ++ x :: B).length by simp]; exact HN1.out, kid_rep HP.out HO.out.blk⟩, Fr.refl _ _⟩)
              | some u =>
                rw [show uptr (some u) = .pointer (some ⟨N.blk h u, 0, none⟩) from rfl]
                have HMU := hid (made_u HKD.out HO.out.raw)
                have c1 : w1.cell? ⟨N.blk h u, 1, none⟩ = some (.int .i64 (T.first h (N.raw h u))) := first_cell (HO.out.memu u rfl) HMU.out
                have hub : N.blk h u ≠ w.heap.size := HO.out.blk_ne HBW.out.2 HNEB.out
                have e0 : w1.cell? ⟨w.heap.size, 0, none⟩ = some (.int .i64 key) := HE1.out.cell 0
                have e2 : w1.cell? ⟨w.heap.size, 2, none⟩ = some (.bool ok) := HE1.out.cell 2
                have e3 : w1.cell? ⟨w.heap.size, 3, none⟩ = some (.pointer none) := HE1.out.cell 3
                have f0 : w1.frozen? ⟨w.heap.size, 0, none⟩ = false := HE1.out.free 0
                have f2 : w1.frozen? ⟨w.heap.size, 2, none⟩ = false := HE1.out.free 2
                have f3 : w1.frozen? ⟨w.heap.size, 3, none⟩ = false := HE1.out.free 3
                obtain ⟨fu, hfu⟩ : ∃ fu, T.first h (N.raw h u) = fu := ⟨_, rfl⟩
                obtain ⟨bu, hbu⟩ : ∃ bu, N.blk h u = bu := ⟨_, rfl⟩
                rw [hfu, hbu] at c1
                rw [hbu] at hub ⊢
                have HFU := hid (And.intro hfu hbu)
                clear hfu hbu
                go_wp2_with fail
                have HZ0 : Hid (Fr (· = w.heap.size) w1 (((w1.setCell ⟨w.heap.size, 0, none⟩ (.int .i64 fu)).setCell ⟨w.heap.size, 2, none⟩ (.bool false)).setCell ⟨w.heap.size, 3, none⟩ (.pointer (some ⟨bu, 0, none⟩)))) :=
                  hid (Fr.setCell (S := (· = w.heap.size)) (Fr.setCell (S := (· = w.heap.size)) (Fr.setCell (S := (· = w.heap.size)) (Fr.refl _ _) (p := ⟨w.heap.size, 0, none⟩) (fun _ => rfl) _) (p := ⟨w.heap.size, 2, none⟩) (fun _ => rfl) _) (p := ⟨w.heap.size, 3, none⟩) (fun _ => rfl) _)
                have HZ1 : Hid (Blk (((w1.setCell ⟨w.heap.size, 0, none⟩ (.int .i64 fu)).setCell ⟨w.heap.size, 2, none⟩ (.bool false)).setCell ⟨w.heap.size, 3, none⟩ (.pointer (some ⟨bu, 0, none⟩))) w.heap.size #[.int .i64 fu, .int .i64 val, .bool false, .pointer (some ⟨bu, 0, none⟩)] 110) := hid (((HE1.out.set 0 _).set 2 _).set 3 _)
                generalize ((w1.setCell ⟨w.heap.size, 0, none⟩ (.int .i64 fu)).setCell ⟨w.heap.size, 2, none⟩ (.bool false)).setCell ⟨w.heap.size, 3, none⟩ (.pointer (some ⟨bu, 0, none⟩)) = wz at HZ0 HZ1 ⊢
                go_meet
                case rel => exact ⟨i + 1, (A ++ x :: B).length, g, ⟨fu, val, false, some ⟨bu, 0, none⟩⟩, rfl, hlt, HF.out.1, Blk.fr HN1.out HZ0.out HNE.out, HZ1.out, HNE.out, Blk.fr HR1.out HZ0.out (Nat.ne_of_lt HR.out.lt), fun e w' hT => by
                  obtain ⟨rfl, rfl⟩ := HFU.out
                  have hl1 : (A ++ x :: B).length = (A ++ (x.1, x') :: B).length := by simp
                  rw [hl1] at hT
                  have hT2 := hT.rep (x := (T.first h (N.raw h u), u)) (kid_rep HP.out HO.out.blk) ⟨rfl, rfl⟩ (by rw [← hl1]; exact hlt)
                  have hL : (A ++ (x.1, x') :: B).take (i + 1) ++ (T.first h (N.raw h u), u) :: (A ++ (x.1, x') :: B).drop (i + 1) = A ++ (x.1, x') :: (T.first h (N.raw h u), u) :: B := by
                    rw [← HHA.out, show A ++ (x.1, x') :: B = (A ++ [(x.1, x')]) ++ B by simp, show A.length + 1 = (A ++ [(x.1, x')]).length by simp, List.take_left, List.drop_left]
                    simp
                  rw [hL] at hT2
                  have hk := kid2_ids (k := x.1) (k2 := T.first h (N.raw h u)) HKL.out.2.2.2.1
                  refine inner_done (L := A ++ (x.1, x') :: (T.first h (N.raw h u), u) :: B) HIK.out (fun c hc => (kid2_in HKL.out.2.1 HO.out.mem (HO.out.memu u rfl) c hc).fr HZ0.out (fun y hy e => ?_)) (kid2_nd HKL.out.2.2.1) (fun y hy => ?_) (HKL.out.2.2.2.2.trans HZ0.out (fun n hn e => absurd hn (by omega))) (Nat.lt_of_lt_of_le HN1.out.lt HZ0.out.size) hT2
                  · have h2 : wr.heap.size = w.heap.size + 1 := HBW.out.2
                    rcases hk y (mem_fids hc hy) with h1 | h1
                    · have := N.In.lt (h := h + 1) HG.out.mem y h1; omega
                    · have : wr.heap.size ≤ y := h1; omega
                  · have h2 : wr.heap.size = w.heap.size + 1 := HBW.out.2
                    rcases hk y hy with h1 | h1
                    · exact .inl h1
                    · right; have : wr.heap.size ≤ y := h1; omega⟩
            · have HCC := hid hc
              have hcz : (0 : Int) ≤ cmp tb key x2.1 := by unfold cmp; rw [if_neg hc]; split <;> omega
              have hcz2 : ¬ cmp tb key x2.1 < 0 := by omega
              have hcz3 : decide (cmp tb key x2.1 < 0) = false := decide_eq_false hcz2
              clear hc
              generalize cmp tb key x2.1 = cv at hcz hcz2 hcz3 ⊢
              go_wp2_with fail
              have hg0 := HGK.out
              obtain ⟨k1, rfl⟩ : ∃ k1, gk = k1 + 1 := ⟨gk - 1, by omega⟩
              go_roundg k1
              case measure => omega
              case rel => exact ⟨i + 1, rfl, hl2, by show k1 + (i + 1) = cs.length; omega, by obtain ⟨q, hq⟩ := HI.out.1; exact ⟨q + nq, by rw [hq]; simp⟩, fun y d h1 h2 hd => by
                by_cases hyi : y = i + 1
                · subst hyi; rw [HX2.out] at hd; obtain rfl := Option.some.inj hd; exact HCC.out
                · exact HI.out.2 y d h1 (by omega) hd⟩
    case rest =>
      obtain ⟨j, m, g, q, rfl, hj, hm, HT⟩ := hcut
      have c0 := HT.out.1.m0
      clear HE HW HSZ
      go_wp2_with fail
      clear c0
      go_loopg [16] (m - j) (fun n_ v16 wr => ∃ (i : Nat) (gi : Nat → Q), v16 = .int .i64 i ∧ j ≤ i ∧ i ≤ m ∧ Hid (n_ + j = i) ∧ Hid (Nd wr b m gi ∧ (∀ x, x ≤ 63 → gi x = moved g m i x) ∧ Blk wr w.heap.size #[.int .i64 q.k, .int .i64 q.v, .bool q.ok, .pointer q.p] 110 ∧ Fr (· = b) wc wr))
      case atStart => exact ⟨m, g, rfl, hj, Nat.le_refl _, Nat.sub_add_cancel hj, HT.out.1, fun x _ => by unfold moved; rw [if_neg (by omega)], HT.out.2.1, Fr.refl _ _⟩
      case round =>
        obtain ⟨i, gi, rfl, hji, him, HGK, HI⟩ := hrel
        by_cases hlt : j < i
        · obtain ⟨i, rfl⟩ : ∃ i', i = i' + 1 := ⟨i - 1, by omega⟩
          have HJI := hid hji
          have a0 : wr.cell? ⟨b, 1 + i * 4, none⟩ = some (.int .i64 (gi i).k) := HI.out.1.at' i 0 (by omega) (by omega)
          have a1 : wr.cell? ⟨b, 1 + i * 4 + 1, none⟩ = some (.int .i64 (gi i).v) := HI.out.1.at' i 1 (by omega) (by omega)
          have a2 : wr.cell? ⟨b, 1 + i * 4 + 2, none⟩ = some (.bool (gi i).ok) := HI.out.1.at' i 2 (by omega) (by omega)
          have a3 : wr.cell? ⟨b, 1 + i * 4 + 3, none⟩ = some (.pointer (gi i).p) := HI.out.1.at' i 3 (by omega) (by omega)
          have r0 : (i : Int) < 64 ∧ (i : Int) + 1 < 64 ∧ 0 ≤ (i : Int) + 1 := by omega
          have w0 : IntKind.i64.wrap (i : Int) = (i : Int) := i64_in _ (by omega)
          have t0 : ((i : Int) + 1).toNat = i + 1 := by omega
          have l0 : (j : Int) < (i : Int) + 1 := by omega
          go_upto_region 26 with fail
          refine still_tail_drew 12 (by kernel_rfl) (by kernel_rfl) ?_
          simp only [List.take_succ_cons, List.take_zero, List.drop_succ_cons, List.drop_zero]
          repeat still_step
          refine wpStill_nil ?_
          change wpList _ _ _ _ _ wr.drew
          refine wpList_store_mid rfl 110 (.tmp 153) (.tmp 150) rfl b (1 + (i + 1) * 4) _ rfl rfl (Nd.there (w := wr.drew) HI.out.1 (i + 1) (by omega)) (by kernel_rfl) (by simp [Value.oneCell']) ?_
          change wpList _ _ _ _ _ (wr.drew.setCells b (1 + (i + 1) * 4) (cellsQ (gi i)))
          have HI2 := hid (Nd.puts (w := wr.drew) HI.out.1 (i + 1) (gi i) (by omega))
          have HI3 : Hid (Blk (wr.drew.setCells b (1 + (i + 1) * 4) (cellsQ (gi i))) w.heap.size #[.int .i64 q.k, .int .i64 q.v, .bool q.ok, .pointer q.p] 110) := Blk.sets (w := wr.drew) HI.out.2.2.1 b (1 + (i + 1) * 4) (cellsQ (gi i)) (fun e => HT.out.2.2.1 e.symm)
          have HI4 := hid (fr_sets (S := (· = b)) (b := b) (fun _ => rfl) HI.out.2.2.2.drew (1 + (i + 1) * 4) (cellsQ (gi i)))
          clear a0 a1 a2 a3
          generalize wr.drew.setCells b (1 + (i + 1) * 4) (cellsQ (gi i)) = W4 at HI2 HI3 HI4 ⊢
          go_wp2_with fail
          have hg0 := HGK.out
          obtain ⟨k1, rfl⟩ : ∃ k1, gk = k1 + 1 := ⟨gk - 1, by omega⟩
          go_roundg k1
          case measure => omega
          case rel => exact ⟨i, _, rfl, by omega, by omega, by show k1 + j = i; omega, HI2.out, fun x hx => by
            have h1 := HI.out.2.1 i (by omega)
            have h2 := HI.out.2.1 x hx
            unfold moved at h1 h2 ⊢
            simp only [upd]
            by_cases e : x = i + 1
            · subst e
              rw [if_pos rfl, h1, if_neg (by omega), if_pos (by omega)]
              rfl
            · rw [if_neg e, h2]
              by_cases e2 : i + 1 < x ∧ x ≤ m
              · rw [if_pos e2, if_pos (by omega)]
              · rw [if_neg e2, if_neg (by omega)], HI3.out, HI4.out⟩
        · obtain rfl : i = j := by omega
          have l0 : ¬ (i : Int) < (i : Int) := by omega
          have e0 : wr.cell? ⟨w.heap.size, 0, none⟩ = some (.int .i64 q.k) := HI.out.2.2.1.cell 0
          have e1 : wr.cell? ⟨w.heap.size, 1, none⟩ = some (.int .i64 q.v) := HI.out.2.2.1.cell 1
          have e2 : wr.cell? ⟨w.heap.size, 2, none⟩ = some (.bool q.ok) := HI.out.2.2.1.cell 2
          have e3 : wr.cell? ⟨w.heap.size, 3, none⟩ = some (.pointer q.p) := HI.out.2.2.1.cell 3
          have r0 : (i : Int) < 64 := by omega
          go_upto_region 27 with fail
          refine still_tail_drew 6 (by kernel_rfl) (by kernel_rfl) ?_
          simp only [List.take_succ_cons, List.take_zero, List.drop_succ_cons, List.drop_zero]
          repeat still_step
          refine wpStill_nil ?_
          change wpList _ _ _ _ _ wr.drew
          refine wpList_store_mid rfl 110 (.tmp 159) (.tmp 156) rfl b (1 + i * 4) _ rfl rfl (Nd.there (w := wr.drew) HI.out.1 i (by omega)) (by kernel_rfl) (by simp [Value.oneCell']) ?_
          change wpList _ _ _ _ _ (wr.drew.setCells b (1 + i * 4) (cellsQ q))
          have HI2 := hid (Nd.puts (w := wr.drew) HI.out.1 i q (by omega))
          have HI4 := hid (fr_sets (S := (· = b)) (b := b) (fun _ => rfl) HI.out.2.2.2.drew (1 + i * 4) (cellsQ q))
          clear e0 e1 e2 e3
          generalize wr.drew.setCells b (1 + i * 4) (cellsQ q) = W4 at HI2 HI4 ⊢
          have c0 := HI2.out.m0
          have f0 := HI2.out.free 0
          have w0 : IntKind.i64.wrap ((m : Int) + 1) = ((m + 1 : Nat) : Int) := by rw [i64_in _ (by omega)]; rfl
          have HI5 := hid (HI2.out.setm ((m : Int) + 1))
          have HI6 := hid (HI4.out.setCell (p := ⟨b, 0, none⟩) (fun _ => rfl) (.int .i64 ((m : Int) + 1)))
          go_upto_region 29 with fail
          have HPL : Hid (∀ x, x ≤ m → upd gi i q x = shift g i q x) := hid (fun x hx => by
            have h2 := HI.out.2.1 x (by omega)
            unfold moved at h2
            unfold shift
            simp only [upd]
            by_cases e : x = i
            · rw [if_pos e, if_neg (by omega), if_pos e]
            · rw [if_neg e, h2]
              by_cases e2 : x < i
              · rw [if_pos e2, if_neg (by omega)]
              · rw [if_neg e2, if_neg e, if_pos (by omega)])
          clear c0 f0
          generalize W4.setCell ⟨b, 0, none⟩ (.int .i64 ((m : Int) + 1)) = W5 at HI5 HI6 ⊢
          have c0 := HI5.out.m0
          by_cases hm2 : m + 1 < 64
          · have hm3 : (m : Int) + 1 < 64 := by omega
            go_wp2_with fail
            go_ret
            exact HT.out.2.2.2.2 _ _ (.inl ⟨hm2, rfl, ⟨_, HI5.out, HPL.out⟩, HI6.out⟩)
          · obtain rfl : m = 63 := by omega
            have HN5 : Hid (Nd W5 b 64 (upd gi i q)) := HI5.out
            clear HI5 c0
            have c0 : W5.cell? ⟨b, 0, none⟩ = some (.int .i64 64) := HN5.out.m0
            go_wp2_with fail
            refine (split_any R b (upd gi i q) W5 HN5.out).mono ?_
            rintro e w2 ⟨c, rfl, hc1, hc2, ⟨gc, hc3, hc4⟩, hc5⟩
            have HC := hid (And.intro hc1 (And.intro hc2 (And.intro hc3 (And.intro hc4 hc5))))
            clear hc1 hc2 hc3 hc4 hc5
            go_wp2_with fail
            go_ret
            refine HT.out.2.2.2.2 _ _ (.inr ⟨rfl, c, rfl, Nat.le_trans HI6.out.size HC.out.1, ⟨_, HC.out.2.1, fun x hx => HPL.out x (by omega)⟩, ⟨gc, HC.out.2.2.1, fun x hx => ?_⟩, HI6.out.trans HC.out.2.2.2.2 (fun _ _ h => h)⟩)
            rw [HC.out.2.2.2.1 x hx, HPL.out (32 + x) (by omega)]
theorem insert_any (base R : Nat) (tb : List Int) (key val n H : Int) (ok : Bool) (rp lv : Value) : ∀ (h : Nat) (t : N h) (w : World), Good base tb w t → Blk w R #[rp, .int .i64 H, .int .i64 n, lv] 115 → R ∉ N.ids h t → LessS base w lv tb → base ≤ w.heap.size → h ≤ 1099511627776 →
    Calls Try.prog 92 #[.pointer (some ⟨R, 0, none⟩), .pointer (some ⟨N.blk h t, 0, none⟩), .int .i64 key, .int .i64 val, .int .i64 h, .bool ok] w (Done tb key val ok t w)
  | 0, t, w, h1, h2, h3, h4, h5, h6 => insert_step base R tb key val n H ok rp lv 0 t w (fun h' e => by omega) h1 h2 h3 h4 h5 h6
  | h + 1, t, w, h1, h2, h3, h4, h5, h6 => insert_step base R tb key val n H ok rp lv (h + 1) t w (fun h' e => by
    obtain rfl : h = h' := by omega
    exact insert_any base R tb key val n H ok rp lv h) h1 h2 h3 h4 h5 h6
end Go.Proofs.Ytjlcebgfknfelaa.Bt

namespace Go.Proofs.Ytjlcebgfknfelaa.Bt
open Go Go.RowKit Go.IntWalk Go.Proofs.Ytjlcebgfknfelaa.Hk Go.Proofs.Ytjlcebgfknfelaa.BtPure Go.Proofs.Ytjlcebgfknfelaa.Less Go.Proofs.YtjlcebgfknfelaaW.PrintWords Go.Proofs.YtjlcebgfknfelaaW.PrintLast Go.Proofs.YtjlcebgfknfelaaW.PrintMore
open Go.Proofs.Ytjlcebgfknfelaa.Row hiding hid alloc_size
open Go.Proofs.Ytjlcebgfknfelaa.Avl (LessS Acc Acc.drew Acc.drewN Pre Mid end_of part_of own_ge box_cell box_cell' infoInt)
def clo.T : Bool × List (List Nat × List Nat) := (true, [([], []), ([0], [0]), ([], []), ([2], [2]), ([1, 3], [1, 3]), ([], []), ([5], [5]), ([], []), ([7], [7]), ([6, 8, 4], [6, 8]), ([0, 1, 2, 3, 4, 5, 6], []), ([10, 4, 9, 0, 1, 2, 3, 4, 5, 6], [4, 10]), ([0, 1, 2, 3, 4, 5, 6, 7, 8, 9, 10, 11], []), ([12, 9, 11, 0, 1, 2, 3, 4, 5, 6, 7, 8, 9, 10, 11], [9, 12])])
def clo.B : List Nat := [0, 1, 0, 4, 15, 0, 32, 0, 128, 511, 127, 2047, 4095, 8191]
theorem clo.tab : rtab .any (opsOf Try.f76 0) = clo.T := by kernel_rfl
theorem clo.bits : waitsOk clo.T.2 clo.B = true := by kernel_rfl
set_option maxHeartbeats 4000000 in
set_option maxRecDepth 100000 in
theorem btDo1_any (N0 X : Nat) (val : Int) (okv : Bool) (ks vs : List Int) (k v : Int) (w : World) (hA : Acc N0 X val okv ks vs w) (hl : ks.length ≤ 1099511627776) (hl2 : vs.length ≤ 1099511627776) :
    Calls Try.prog 76 #[.int .i64 k, .int .i64 v, .pointer (some ⟨X, 0, none⟩)] w fun e w' => e = .returned (.tuple #[]) ∧ Acc N0 X val okv (ks ++ [k]) (vs ++ [v]) w' ∧ Fr (fun b => b = X ∨ N0 ≤ b) w w' := by
  obtain ⟨K, V, hB, hX, hN, hK, hV⟩ := hA
  obtain ⟨AK, cK, rfl⟩ := Kd.R_slice hK
  obtain ⟨AV, cV, rfl⟩ := Kd.R_slice hV
  have c2 : w.cell? ⟨X, 2, none⟩ = some (.slice AK ks.length cK) := hB.cell 2
  have c3 : w.cell? ⟨X, 3, none⟩ = some (.slice AV vs.length cV) := hB.cell 3
  have H : Hid (Pre N0 X val okv ks vs (.slice AK ks.length cK) (.slice AV vs.length cV) w w.drew) := ⟨hB, hN, Kd.R_drew hK, Kd.R_drew hV, (Fr.refl _ _).drew⟩
  have HN : Hid (X < N0) := hX
  clear hB hK hV hN hX
  go_enter Try.func76, Try.ntmps76
  refine start_ (n := 14) (S := fun w' => w'.cell? ⟨X, 2, none⟩ = some (.slice AK ks.length cK) ∧ w'.cell? ⟨X, 3, none⟩ = some (.slice AV vs.length cV)) (ds := [11, 13]) #[false, false, false, false, false, false, false, false, false, false, false, false, false, false] (by kernel_rfl) rfl rfl ⟨c2, c3⟩ (fun hHeld => ?_)
  refine with_tabW clo.tab clo.bits (fun HT_ HW_ => ?_)
  clear c2 c3
  generalize w.drew = W0 at H hHeld ⊢
  refine pure_ (i := 0) (N := some 5) (v := ?_) (a' := ?_) #[true, false, false, false, false, false, false, false, false, false, false, false, false, false] rfl rfl (any_of HT_.out (by kernel_rfl)) (fun _ _ _ h => h) (Or.inl ⟨by rfl, ?_⟩) ?_ ?_
  rotate_left
  · intro w'
    go_simp
    with_reducible rfl
  rotate_left
  · simp only [Act.put, List.setIfInBounds_toArray, List.set_cons_zero, List.set_cons_succ]
    rfl
  refine pure_ (i := 2) (N := some 7) (v := ?_) (a' := ?_) #[true, false, true, false, false, false, false, false, false, false, false, false, false, false] rfl rfl (any_of HT_.out (by kernel_rfl)) (fun _ _ _ h => h) (Or.inl ⟨by rfl, ?_⟩) ?_ ?_
  rotate_left
  · intro w'
    go_simp
    with_reducible rfl
  rotate_left
  · simp only [Act.put, List.setIfInBounds_toArray, List.set_cons_zero, List.set_cons_succ]
    rfl
  refine pure_ (i := 5) (N := some 10) (v := ?_) (a' := ?_) #[true, false, true, false, false, true, false, false, false, false, false, false, false, false] rfl rfl (any_of HT_.out (by kernel_rfl)) (fun _ _ _ h => h) (Or.inl ⟨by rfl, ?_⟩) ?_ ?_
  rotate_left
  · intro w'
    go_simp
    with_reducible rfl
  rotate_left
  · simp only [Act.put, List.setIfInBounds_toArray, List.set_cons_zero, List.set_cons_succ]
    rfl
  refine pure_ (i := 7) (N := some 12) (v := ?_) (a' := ?_) #[true, false, true, false, false, true, false, true, false, false, false, false, false, false] rfl rfl (any_of HT_.out (by kernel_rfl)) (fun _ _ _ h => h) (Or.inl ⟨by rfl, ?_⟩) ?_ ?_
  rotate_left
  · intro w'
    go_simp
    with_reducible rfl
  rotate_left
  · simp only [Act.put, List.setIfInBounds_toArray, List.set_cons_zero, List.set_cons_succ]
    rfl
  refine take_ (i := 1) (N := some 6) (v := ?_) (a' := ?_) #[true, true, true, false, false, true, false, true, false, false, false, false, false, false] rfl rfl (take_ofW HT_.out HW_.out (by kernel_rfl)) (fun _ _ _ h => h) (Or.inl ⟨by rfl, ?_⟩) hHeld ?_ ?_
  rotate_left
  · intro w' s0
    have s1 := s0.1
    have s2 := s0.2
    go_simp
    with_reducible rfl
  rotate_left
  · simp only [Act.put, List.setIfInBounds_toArray, List.set_cons_zero, List.set_cons_succ]
    rfl
  refine take_ (i := 6) (N := some 11) (v := ?_) (a' := ?_) #[true, true, true, false, false, true, true, true, false, false, false, false, false, false] rfl rfl (take_ofW HT_.out HW_.out (by kernel_rfl)) (fun _ _ _ h => h) (Or.inl ⟨by rfl, ?_⟩) hHeld ?_ ?_
  rotate_left
  · intro w' s0
    have s1 := s0.1
    have s2 := s0.2
    go_simp
    with_reducible rfl
  rotate_left
  · simp only [Act.put, List.setIfInBounds_toArray, List.set_cons_zero, List.set_cons_succ]
    rfl
  refine join_ (σ := Value × Nat × Nat) 4 #[true, true, true, true, true, true, true, true, true, false, true, false, false, false] (fun s => [(8, .slice (some ⟨s.2.1, 0, none⟩) 1 1), (9, s.1), (13, .slice (some ⟨s.2.2, 0, none⟩) 1 1), (15, .pointer (some ⟨X, 2, none⟩))]) (fun s W => Mid N0 X val okv ks vs (.slice AK ks.length cK) (.slice AV vs.length cV) s.1 k v s.2.2 w W) ?hcont ?hord
  case hcont =>
    rintro ⟨K1, g8, g13⟩ W hM
    have HM := hid hM
    obtain ⟨AK1, cK1, hq⟩ := Kd.R_slice hM.2.2.2.1
    rw [List.length_append, List.length_singleton] at hq
    replace hq : K1 = _ := hq
    subst hq
    clear hM H hHeld
    refine norm_ (a' := ?_) ?_ ?_
    rotate_left
    · simp only [putAll, Act.put, List.setIfInBounds_toArray, List.set_cons_zero, List.set_cons_succ]
      rfl
    refine one_ (i := 9) (N := some 14) #[true, true, true, true, true, true, true, true, true, true, true, false, false, false] rfl rfl (one_of HT_.out (by kernel_rfl)) (by decide) (fun K_ hK => ?_)
    refine append_int rfl (.tmp 11) (.tmp 13) 24 3 rfl Try.underlying24 infoInt N0 (.slice AV vs.length cV) vs v _ W rfl HM.out.2.2.2.2.1 ⟨g13, 0, none⟩ 1 rfl HM.out.1 (by omega) HM.out.2.2.1 ?_
    intro V1 W1 hR hg hat
    have HE := hid (end_of HN.out HM.out hR hg hat)
    obtain ⟨AV1, cV1, hq⟩ := Kd.R_slice hR
    rw [List.length_append, List.length_singleton] at hq
    subst hq
    refine hK.out _ _ ⟨HE.out.1.cell 2, HE.out.1.cell 3⟩ (fun hHeld => ?_)
    clear hK K_
    have e2 := hHeld.1
    have e3 := hHeld.2
    have f2 : W1.frozen? ⟨X, 2, none⟩ = false := HE.out.1.free 2
    have f3 : W1.frozen? ⟨X, 3, none⟩ = false := HE.out.1.free 3
    clear hR hg hat hHeld
    refine norm_ (a' := ?_) ?_ ?_
    rotate_left
    · show Act.put _ (some 14) _ = _
      simp only [Act.put, List.setIfInBounds_toArray, List.set_cons_zero, List.set_cons_succ]
      rfl
    refine last_ (i := 11) (N := none) #[true, true, true, true, true, true, true, true, true, true, true, true, false, false] rfl rfl (one_of HT_.out (by kernel_rfl)) (by decide) (fun K_ hK => ?_)
    refine skip_ (w1 := ?_) (by rfl) rfl ?_ ?_
    rotate_left
    · go_simp
      rfl
    refine hK.out _ _ ?_
    clear hK K_
    refine pure_ (i := 12) (N := some 16) (v := ?_) (a' := ?_) #[true, true, true, true, true, true, true, true, true, true, true, true, true, false] rfl rfl (any_of HT_.out (by kernel_rfl)) (fun _ _ _ h => h) (Or.inl ⟨by rfl, ?_⟩) ?_ ?_
    rotate_left
    · intro w'
      go_simp
      with_reducible rfl
    rotate_left
    · simp only [Act.put, List.setIfInBounds_toArray, List.set_cons_zero, List.set_cons_succ]
      rfl
    refine last_ (i := 13) (N := none) #[true, true, true, true, true, true, true, true, true, true, true, true, true, true] rfl rfl (one_of HT_.out (by kernel_rfl)) (by decide) (fun K_ hK => ?_)
    refine skip_ (w1 := ?_) (by rfl) rfl ?_ ?_
    rotate_left
    · go_simp
      rfl
    refine hK.out _ _ ?_
    clear hK K_
    refine done_ (done_of HT_.out (by kernel_rfl)) ?_
    try go_wp2
    go_end0
    exact ⟨rfl, HE.out.2.1, HE.out.2.2⟩
  case hord =>
    intro hcont
    clear hHeld
    refine two_ (i := 3) (j := 8) (Ni := some 8) (Nj := some 13) #[true, true, true, true, false, true, true, true, false, false, false, false, false, false] #[true, true, true, false, false, true, true, true, true, false, false, false, false, false] rfl rfl rfl rfl (two_of HT_.out (by kernel_rfl)) (by decide) (by decide) (fun K_ hK => ?_) (fun K_ hK => ?_)
    · refine value_ (w1 := ?_) (v := ?_) (by rfl) rfl ?_ ?_
      rotate_left 2
      · go_simp
        constructor
        · rfl
        · rfl
      refine hK.out _ _ ⟨(H.out.alloc _).cell2, (H.out.alloc _).cell3⟩ (fun hHeld => ?_)
      clear hK K_
      refine norm_ (a' := ?_) ?_ ?_
      rotate_left
      · show Act.put _ (some 8) _ = _
        simp only [Act.put, List.setIfInBounds_toArray, List.set_cons_zero, List.set_cons_succ]
        rfl
      have H1 := hid (H.out.alloc (.cells #[.int .i64 k] 3))
      have C1 := hid (box_cell W0 (.int .i64 k) 3)
      clear hHeld
      refine two_ (i := 4) (j := 8) (Ni := some 9) (Nj := some 13) #[true, true, true, true, true, true, true, true, false, false, false, false, false, false] #[true, true, true, true, false, true, true, true, true, false, false, false, false, false] rfl rfl rfl rfl (two_of HT_.out (by kernel_rfl)) (by decide) (by decide) (fun K_ hK => ?_) (fun K_ hK => ?_)
      · refine append_int rfl (.tmp 6) (.tmp 8) 24 3 rfl Try.underlying24 infoInt N0 (.slice AK ks.length cK) ks k _ _ rfl H1.out.2.2.1 ⟨W0.heap.size, 0, none⟩ 1 rfl C1.out (by omega) H1.out.2.1 ?_
        intro K1 W1 hR hg hat
        have HP := hid (part_of HN.out H1.out hR hg hat)
        refine hK.out _ _ ⟨HP.out.1.cell 2, HP.out.1.cell 3⟩ (fun hHeld => ?_)
        clear hK K_ hR hg hat hHeld
        refine norm_ (a' := ?_) ?_ ?_
        rotate_left
        · show Act.put _ (some 9) _ = _
          simp only [Act.put, List.setIfInBounds_toArray, List.set_cons_zero, List.set_cons_succ]
          rfl
        refine pure_ (i := 10) (N := some 15) (v := ?_) (a' := ?_) #[true, true, true, true, true, true, true, true, false, false, true, false, false, false] rfl rfl (any_of HT_.out (by kernel_rfl)) (fun _ _ _ h => h) (Or.inl ⟨by rfl, ?_⟩) ?_ ?_
        rotate_left
        · intro w'
          go_simp
          with_reducible rfl
        rotate_left
        · simp only [Act.put, List.setIfInBounds_toArray, List.set_cons_zero, List.set_cons_succ]
          rfl
        refine one_ (i := 8) (N := some 13) #[true, true, true, true, true, true, true, true, true, false, true, false, false, false] rfl rfl (one_of HT_.out (by kernel_rfl)) (by decide) (fun K_ hK => ?_)
        refine value_ (w1 := ?_) (v := ?_) (by rfl) rfl ?_ ?_
        rotate_left 2
        · go_simp
          constructor
          · rfl
          · rfl
        refine hK.out _ _ ⟨(HP.out.1.alloc _).cell 2, (HP.out.1.alloc _).cell 3⟩ (fun hHeld => ?_)
        clear hK K_
        exact norm_ rfl (hcont ⟨K1, W0.heap.size, W1.heap.size⟩ _ ⟨box_cell W1 _ _, HP.out.1.alloc _, by rw [alloc_size]; exact Nat.le_succ_of_le HP.out.2.1, Kd.R_alloc HP.out.2.2.1 _, Kd.R_alloc HP.out.2.2.2.1 _, HP.out.2.2.2.2.alloc _⟩)
      · refine value_ (w1 := ?_) (v := ?_) (by rfl) rfl ?_ ?_
        rotate_left 2
        · go_simp
          constructor
          · rfl
          · rfl
        refine hK.out _ _ ⟨(H1.out.alloc _).cell2, (H1.out.alloc _).cell3⟩ (fun hHeld => ?_)
        clear hK K_
        refine norm_ (a' := ?_) ?_ ?_
        rotate_left
        · show Act.put _ (some 13) _ = _
          simp only [Act.put, List.setIfInBounds_toArray, List.set_cons_zero, List.set_cons_succ]
          rfl
        have C2 := hid (((Below.refl _ _).alloc (Nat.le_refl _) (.cells #[.int .i64 v] 3) : Below _ (W0.alloc (.cells #[.int .i64 k] 3)) _))
        have H3 := hid (H1.out.alloc (.cells #[.int .i64 v] 3))
        have C3 := hid (box_cell' (W0.alloc (.cells #[.int .i64 k] 3)) (.int .i64 v) 3 (alloc_size _ _))
        clear H1 hHeld
        have H1 := H3
        clear H3
        refine one_ (i := 4) (N := some 9) #[true, true, true, true, true, true, true, true, true, false, false, false, false, false] rfl rfl (one_of HT_.out (by kernel_rfl)) (by decide) (fun K_ hK => ?_)
        refine append_int rfl (.tmp 6) (.tmp 8) 24 3 rfl Try.underlying24 infoInt N0 (.slice AK ks.length cK) ks k _ _ rfl H1.out.2.2.1 ⟨W0.heap.size, 0, none⟩ 1 rfl ((C2.out.cell (by rw [alloc_size]; exact Nat.lt_succ_self _)).trans C1.out) (by omega) H1.out.2.1 ?_
        intro K1 W1 hR hg hat
        have HP := hid (part_of HN.out H1.out hR hg hat)
        refine hK.out _ _ ⟨HP.out.1.cell 2, HP.out.1.cell 3⟩ (fun hHeld => ?_)
        have C4 := hid (hg.cell C3.out (fun e => by have := own_ge H.out.2.2.1 _ e.symm; simp only at this; omega))
        clear hK K_ hR hg hat hHeld
        refine norm_ (a' := ?_) ?_ ?_
        rotate_left
        · show Act.put _ (some 9) _ = _
          simp only [Act.put, List.setIfInBounds_toArray, List.set_cons_zero, List.set_cons_succ]
          rfl
        refine pure_ (i := 10) (N := some 15) (v := ?_) (a' := ?_) #[true, true, true, true, true, true, true, true, true, false, true, false, false, false] rfl rfl (any_of HT_.out (by kernel_rfl)) (fun _ _ _ h => h) (Or.inl ⟨by rfl, ?_⟩) ?_ ?_
        rotate_left
        · intro w'
          go_simp
          with_reducible rfl
        rotate_left
        · simp only [Act.put, List.setIfInBounds_toArray, List.set_cons_zero, List.set_cons_succ]
          rfl
        exact norm_ rfl (hcont ⟨K1, W0.heap.size, W0.heap.size + 1⟩ _ ⟨C4.out, HP.out⟩)
    · refine value_ (w1 := ?_) (v := ?_) (by rfl) rfl ?_ ?_
      rotate_left 2
      · go_simp
        constructor
        · rfl
        · rfl
      refine hK.out _ _ ⟨(H.out.alloc _).cell2, (H.out.alloc _).cell3⟩ (fun hHeld => ?_)
      clear hK K_
      refine norm_ (a' := ?_) ?_ ?_
      rotate_left
      · show Act.put _ (some 13) _ = _
        simp only [Act.put, List.setIfInBounds_toArray, List.set_cons_zero, List.set_cons_succ]
        rfl
      have H0 := hid (H.out.alloc (.cells #[.int .i64 v] 3))
      have C1 := hid (box_cell W0 (.int .i64 v) 3)
      clear hHeld
      refine one_ (i := 3) (N := some 8) #[true, true, true, true, false, true, true, true, true, false, false, false, false, false] rfl rfl (one_of HT_.out (by kernel_rfl)) (by decide) (fun K_ hK => ?_)
      refine value_ (w1 := ?_) (v := ?_) (by rfl) rfl ?_ ?_
      rotate_left 2
      · go_simp
        constructor
        · rfl
        · rfl
      refine hK.out _ _ ⟨(H0.out.alloc _).cell2, (H0.out.alloc _).cell3⟩ (fun hHeld => ?_)
      clear hK K_
      refine norm_ (a' := ?_) ?_ ?_
      rotate_left
      · show Act.put _ (some 8) _ = _
        simp only [Act.put, List.setIfInBounds_toArray, List.set_cons_zero, List.set_cons_succ]
        rfl
      have H1 := hid (H0.out.alloc (.cells #[.int .i64 k] 3))
      have C3 := hid (box_cell' (W0.alloc (.cells #[.int .i64 v] 3)) (.int .i64 k) 3 (alloc_size _ _))
      have C2 := hid (((Below.refl _ _).alloc (Nat.le_refl _) (.cells #[.int .i64 k] 3) : Below _ (W0.alloc (.cells #[.int .i64 v] 3)) _))
      clear hHeld
      refine one_ (i := 4) (N := some 9) #[true, true, true, true, true, true, true, true, true, false, false, false, false, false] rfl rfl (one_of HT_.out (by kernel_rfl)) (by decide) (fun K_ hK => ?_)
      refine append_int rfl (.tmp 6) (.tmp 8) 24 3 rfl Try.underlying24 infoInt N0 (.slice AK ks.length cK) ks k _ _ rfl H1.out.2.2.1 ⟨_, 0, none⟩ 1 rfl C3.out (by omega) H1.out.2.1 ?_
      intro K1 W1 hR hg hat
      have HP := hid (part_of HN.out H1.out hR hg hat)
      refine hK.out _ _ ⟨HP.out.1.cell 2, HP.out.1.cell 3⟩ (fun hHeld => ?_)
      have C4 := hid (hg.cell ((C2.out.cell (by rw [alloc_size]; exact Nat.lt_succ_self _)).trans C1.out) (fun e => by have := own_ge H.out.2.2.1 _ e.symm; simp only at this; omega))
      clear hK K_ hR hg hat hHeld
      refine norm_ (a' := ?_) ?_ ?_
      rotate_left
      · show Act.put _ (some 9) _ = _
        simp only [Act.put, List.setIfInBounds_toArray, List.set_cons_zero, List.set_cons_succ]
        rfl
      refine pure_ (i := 10) (N := some 15) (v := ?_) (a' := ?_) #[true, true, true, true, true, true, true, true, true, false, true, false, false, false] rfl rfl (any_of HT_.out (by kernel_rfl)) (fun _ _ _ h => h) (Or.inl ⟨by rfl, ?_⟩) ?_ ?_
      rotate_left
      · intro w'
        go_simp
        with_reducible rfl
      rotate_left
      · simp only [Act.put, List.setIfInBounds_toArray, List.set_cons_zero, List.set_cons_succ]
        rfl
      exact norm_ rfl (hcont ⟨K1, W0.heap.size + 1, W0.heap.size⟩ _ ⟨C4.out, HP.out⟩)
/-- The function value that gathers into X. -/
def cloV (X : Nat) : Value := .func (.func 76) #[] #[.pointer (some ⟨X, 0, none⟩)]
/-- The keys and the values that are there. -/
def keysV (l : List E) : List Int := (l.filter (·.2.2)).map (·.1)
def valsV (l : List E) : List Int := (l.filter (·.2.2)).map (·.2.1)
theorem keysV_app (a b : List E) : keysV (a ++ b) = keysV a ++ keysV b := by simp [keysV]
theorem valsV_app (a b : List E) : valsV (a ++ b) = valsV a ++ valsV b := by simp [valsV]
theorem valsV_len (l : List E) : (valsV l).length = (keysV l).length := by simp [valsV, keysV]
theorem keysV_le (l : List E) : (keysV l).length ≤ l.length := by simp [keysV, List.length_filter_le]
set_option maxHeartbeats 8000000 in
set_option maxRecDepth 100000 in
theorem each_leaf (N0 X R : Nat) (val : Int) (okv : Bool) (t : N 0) (ks vs : List Int) (w : World) (hI : N.In w 0 t) (hF : N.Fit 0 t) (hid' : ∀ b ∈ N.ids 0 t, b < N0 ∧ b ≠ X) (hA : Acc N0 X val okv ks vs w) (hlen : vs.length = ks.length)
    (hsz : ks.length + (T.flat 0 (N.raw 0 t)).length ≤ 1099511627776) :
    Calls Try.prog 94 #[.pointer (some ⟨R, 0, none⟩), .pointer (some ⟨N.blk 0 t, 0, none⟩), .int .i64 0, cloV X] w fun e w' => e = .returned (.tuple #[]) ∧ Acc N0 X val okv (ks ++ keysV (T.flat 0 (N.raw 0 t))) (vs ++ valsV (T.flat 0 (N.raw 0 t))) w' ∧ Fr (fun b => b = X ∨ N0 ≤ b) w w' := by
  obtain ⟨b, es⟩ := t
  obtain ⟨g, hN, hP⟩ := hI
  have HN : Hid (Nd w b es.length g) := hN
  have HP : Hid (Rep Rep0 g es) := hP
  have HF : Hid (es.length ≤ 63) := hF
  have HD : Hid (b < N0 ∧ b ≠ X) := hid' b (by show b ∈ [b]; simp)
  have HA := hid hA
  have HL := hid hlen
  have HS : Hid (ks.length + es.length ≤ 1099511627776) := hsz
  clear hN hP hF hid' hA hlen hsz
  show Calls Try.prog 94 #[.pointer (some ⟨R, 0, none⟩), .pointer (some ⟨b, 0, none⟩), .int .i64 0, .func (.func 76) #[] #[.pointer (some ⟨X, 0, none⟩)]] w fun e w' => e = .returned (.tuple #[]) ∧ Acc N0 X val okv (ks ++ keysV es) (vs ++ valsV es) w' ∧ Fr (fun b => b = X ∨ N0 ≤ b) w w'
  go_enter Try.func94, Try.ntmps94
  go_wp2_with fail
  go_loopg [8] es.length (fun n_ v8 wr => ∃ i : Nat, v8 = .int .i64 i ∧ i ≤ es.length ∧ Hid (n_ + i = es.length) ∧ Hid (Acc N0 X val okv (ks ++ keysV (es.take i)) (vs ++ valsV (es.take i)) wr ∧ Fr (fun b => b = X ∨ N0 ≤ b) w wr))
  case atStart => exact ⟨0, rfl, Nat.zero_le _, Nat.add_zero _, by show Acc N0 X val okv (ks ++ []) (vs ++ []) w; rw [List.append_nil, List.append_nil]; exact HA.out, Fr.refl _ _⟩
  case round =>
    obtain ⟨i, rfl, hi, HG, HI⟩ := hrel
    have HNW : Hid (Nd wr b es.length g) := Blk.fr HN.out HI.out.2 (fun h => by have := HD.out; omega)
    have c0 : wr.cell? ⟨b, 0, none⟩ = some (.int .i64 es.length) := HNW.out.m0
    by_cases hlt : i < es.length
    · have hx : es[i]? = some es[i] := List.getElem?_eq_getElem hlt
      have ht : es.take (i + 1) = es.take i ++ [es[i]] := List.take_succ_eq_append_getElem hlt
      have h64 : i < 64 := by have := HF.out; omega
      generalize es[i] = x at hx ht
      have hr := HP.out i x hx
      have a0 : wr.cell? ⟨b, 1 + i * 4, none⟩ = some (.int .i64 x.1) := by rw [← hr.1]; exact HNW.out.at' i 0 h64 (by omega)
      have a1 : wr.cell? ⟨b, 1 + i * 4 + 1, none⟩ = some (.int .i64 x.2.1) := by rw [← hr.2.1]; exact HNW.out.at' i 1 h64 (by omega)
      have a2 : wr.cell? ⟨b, 1 + i * 4 + 2, none⟩ = some (.bool x.2.2) := by rw [← hr.2.2]; exact HNW.out.at' i 2 h64 (by omega)
      have HT := hid ht
      clear hr hx ht
      have r1 : (i : Int) < 64 := by omega
      have hlti : (i : Int) < es.length := by omega
      cases hv : x.2.2 with
      | false =>
        rw [hv] at a2
        have HV := hid hv
        clear hv
        go_wp2_with fail
        have hg0 := HG.out
        obtain ⟨k1, rfl⟩ : ∃ k1, gk = k1 + 1 := ⟨gk - 1, by omega⟩
        go_roundg k1
        case measure => omega
        case rel => exact ⟨i + 1, rfl, hlt, by show k1 + (i + 1) = es.length; omega, by
          rw [HT.out, keysV_app, valsV_app, show keysV [x] = [] by simp [keysV, HV.out], show valsV [x] = [] by simp [valsV, HV.out], List.append_nil, List.append_nil]
          exact HI.out.1, HI.out.2⟩
      | true =>
        rw [hv] at a2
        have HV := hid hv
        clear hv
        go_upto_region 5 with fail
        refine still_tail_drew 15 (by kernel_rfl) (by kernel_rfl) ?_
        simp only [List.take_succ_cons, List.take_zero, List.drop_succ_cons, List.drop_zero]
        repeat still_step
        refine wpStill_nil ?_
        go_wp2_with fail
        refine (btDo1_any N0 X val okv (ks ++ keysV (es.take i)) (vs ++ valsV (es.take i)) x.1 x.2.1 wr.drew HI.out.1.drew ?l1 ?l2).mono ?_
        case l1 => have h1 := keysV_le (es.take i); have h2 := HS.out; rw [List.length_take] at h1; rw [List.length_append]; omega
        case l2 => have h1 := keysV_le (es.take i); have h2 := HS.out; have h3 := valsV_len (es.take i); have h4 := HL.out; rw [List.length_take] at h1; rw [List.length_append]; omega
        rintro e w2 ⟨rfl, hA2, hF2⟩
        have HA2 := hid hA2
        have HF2 : Hid (Fr (fun b => b = X ∨ N0 ≤ b) w w2) := HI.out.2.trans (⟨hF2.os, hF2.tape, hF2.output, hF2.size, hF2.block⟩ : Fr (fun b => b = X ∨ N0 ≤ b) wr w2) (fun _ _ h => h)
        clear hA2 hF2
        go_wp2_with fail
        have hg0 := HG.out
        obtain ⟨k1, rfl⟩ : ∃ k1, gk = k1 + 1 := ⟨gk - 1, by omega⟩
        go_roundg k1
        case measure => omega
        case rel => exact ⟨i + 1, rfl, hlt, by show k1 + (i + 1) = es.length; omega, by
          rw [HT.out, keysV_app, valsV_app, show keysV [x] = [x.1] by simp [keysV, HV.out], show valsV [x] = [x.2.1] by simp [valsV, HV.out], ← List.append_assoc, ← List.append_assoc]
          exact HA2.out, HF2.out⟩
    · obtain rfl : i = es.length := by omega
      have hlti : ¬ (es.length : Int) < es.length := by omega
      go_wp2_with fail
      go_end0
      have h1 := HI.out.1
      rw [List.take_length] at h1
      exact ⟨rfl, h1, HI.out.2⟩
set_option maxHeartbeats 8000000 in
set_option maxRecDepth 100000 in
theorem each_any (N0 X R : Nat) (val : Int) (okv : Bool) : ∀ (h : Nat) (t : N h) (ks vs : List Int) (w : World), N.In w h t → N.Fit h t → (∀ b ∈ N.ids h t, b < N0 ∧ b ≠ X) → Acc N0 X val okv ks vs w → vs.length = ks.length →
    ks.length + (T.flat h (N.raw h t)).length ≤ 1099511627776 → h ≤ 1099511627776 →
    Calls Try.prog 94 #[.pointer (some ⟨R, 0, none⟩), .pointer (some ⟨N.blk h t, 0, none⟩), .int .i64 h, cloV X] w fun e w' => e = .returned (.tuple #[]) ∧ Acc N0 X val okv (ks ++ keysV (T.flat h (N.raw h t))) (vs ++ valsV (T.flat h (N.raw h t))) w' ∧ Fr (fun b => b = X ∨ N0 ≤ b) w w'
  | 0, t, ks, vs, w, h1, h2, h3, h4, h5, h6, _ => each_leaf N0 X R val okv t ks vs w h1 h2 h3 h4 h5 h6
  | h + 1, (b, cs), ks, vs, w, hI, hF, hid', hA, hlen, hsz, hh => by
    obtain ⟨⟨g, hN, hP⟩, hI'⟩ := hI
    have HIH := hid (each_any N0 X R val okv h)
    have HN : Hid (Nd w b cs.length g) := hN
    have HP : Hid (Rep Rep1 g cs) := hP
    have HI1 : Hid (∀ c ∈ cs, N.In w h c.2) := hI'
    have HF : Hid (cs.length ≤ 63 ∧ 1 ≤ cs.length ∧ ∀ c ∈ cs, N.Fit h c.2) := hF
    have HD : Hid ((b < N0 ∧ b ≠ X) ∧ ∀ y ∈ fids cs, y < N0 ∧ y ≠ X) := ⟨hid' b (by show b ∈ b :: fids cs; simp), fun y hy => hid' y (by show y ∈ b :: fids cs; simp [hy])⟩
    have HA := hid hA
    have HL := hid hlen
    have HS : Hid (ks.length + (flatC (cs.map rawC)).length ≤ 1099511627776) := hsz
    have HH := hid hh
    clear hN hP hI' hF hid' hA hlen hsz hh
    have hz : (((h + 1 : Nat) : Int) == 0) = false := beq_eq_false_iff_ne.2 (by omega)
    have hz2 : wrap64 (((h + 1 : Nat) : Int) - 1) = (h : Int) := by have := HH.out; rw [wrap64_in _ (by omega)]; omega
    show Calls Try.prog 94 #[.pointer (some ⟨R, 0, none⟩), .pointer (some ⟨b, 0, none⟩), .int .i64 ((h + 1 : Nat) : Int), .func (.func 76) #[] #[.pointer (some ⟨X, 0, none⟩)]] w fun e w' => e = .returned (.tuple #[]) ∧ Acc N0 X val okv (ks ++ keysV (flatC (cs.map rawC))) (vs ++ valsV (flatC (cs.map rawC))) w' ∧ Fr (fun b => b = X ∨ N0 ≤ b) w w'
    obtain ⟨hv, hhv⟩ : ∃ hv : Int, hv = ((h + 1 : Nat) : Int) := ⟨_, rfl⟩
    rw [← hhv] at hz hz2 ⊢
    have hz3 : IntKind.i64.wrap (hv - 1) = (h : Int) := by rw [i64_w]; exact hz2
    clear hhv
    go_enter Try.func94, Try.ntmps94
    go_wp2_with fail
    go_loopg [9] cs.length (fun n_ v9 wr => ∃ i : Nat, v9 = .int .i64 i ∧ i ≤ cs.length ∧ Hid (n_ + i = cs.length) ∧ Hid (Acc N0 X val okv (ks ++ keysV (flatC ((cs.take i).map rawC))) (vs ++ valsV (flatC ((cs.take i).map rawC))) wr ∧ Fr (fun b => b = X ∨ N0 ≤ b) w wr))
    case atStart => exact ⟨0, rfl, Nat.zero_le _, Nat.add_zero _, by show Acc N0 X val okv (ks ++ []) (vs ++ []) w; rw [List.append_nil, List.append_nil]; exact HA.out, Fr.refl _ _⟩
    case round =>
      obtain ⟨i, rfl, hi, HG, HI⟩ := hrel
      have HNW : Hid (Nd wr b cs.length g) := Blk.fr HN.out HI.out.2 (fun h => by have := HD.out.1; omega)
      have c0 : wr.cell? ⟨b, 0, none⟩ = some (.int .i64 cs.length) := HNW.out.m0
      by_cases hlt : i < cs.length
      · have hx : cs[i]? = some cs[i] := List.getElem?_eq_getElem hlt
        have ht : cs.take (i + 1) = cs.take i ++ [cs[i]] := List.take_succ_eq_append_getElem hlt
        have h64 : i < 64 := by have := HF.out.1; omega
        have hm : cs[i] ∈ cs := List.getElem_mem hlt
        have hsp : flatC (cs.map rawC) = flatC ((cs.take i).map rawC) ++ (T.flat h (N.raw h cs[i].2) ++ flatC ((cs.drop (i + 1)).map rawC)) := by
          rw [← flatC_cons (rawC cs[i]), ← flatC_app]
          congr 1
          rw [← List.map_cons, ← List.map_append, ← List.drop_eq_getElem_cons hlt, List.take_append_drop]
        generalize cs[i] = x at hx ht hm hsp
        have hr := (HP.out i x hx).2
        have a3 : wr.cell? ⟨b, 1 + i * 4 + 3, none⟩ = some (.pointer (some ⟨N.blk h x.2, 0, none⟩)) := by rw [← hr]; exact HNW.out.at' i 3 h64 (by omega)
        have HT := hid ht
        have HXI : Hid (N.In wr h x.2) := (HI1.out x hm).fr HI.out.2 (fun y hy e => by have := HD.out.2 y (mem_fids hm hy); omega)
        have HXF : Hid (N.Fit h x.2 ∧ ∀ y ∈ N.ids h x.2, y < N0 ∧ y ≠ X) := ⟨HF.out.2.2 x hm, fun y hy => HD.out.2 y (mem_fids hm hy)⟩
        have HSX : Hid (vs.length + (valsV (flatC ((cs.take i).map rawC))).length = ks.length + (keysV (flatC ((cs.take i).map rawC))).length ∧ ks.length + (keysV (flatC ((cs.take i).map rawC))).length + (T.flat h (N.raw h x.2)).length ≤ 1099511627776) := by
          have h1 := HS.out
          rw [hsp, List.length_append, List.length_append] at h1
          have h2 := keysV_le (flatC ((cs.take i).map rawC))
          have h3 := valsV_len (flatC ((cs.take i).map rawC))
          have h4 := HL.out
          exact ⟨by omega, by omega⟩
        clear hr hx ht hm hsp
        have r1 : (i : Int) < 64 := by omega
        have hlti : (i : Int) < cs.length := by omega
        go_wp2_with fail
        refine (HIH.out x.2 (ks ++ keysV (flatC ((cs.take i).map rawC))) (vs ++ valsV (flatC ((cs.take i).map rawC))) wr HXI.out HXF.out.1 HXF.out.2 HI.out.1 (by rw [List.length_append, List.length_append]; exact HSX.out.1) (by rw [List.length_append]; exact HSX.out.2) (by have := HH.out; omega)).mono ?_
        rintro e w2 ⟨rfl, hA2, hF2⟩
        have HA2 := hid hA2
        have HF2 : Hid (Fr (fun b => b = X ∨ N0 ≤ b) w w2) := HI.out.2.trans hF2 (fun _ _ h => h)
        clear hA2 hF2
        go_wp2_with fail
        have hg0 := HG.out
        obtain ⟨k1, rfl⟩ : ∃ k1, gk = k1 + 1 := ⟨gk - 1, by omega⟩
        go_roundg k1
        case measure => omega
        case rel => exact ⟨i + 1, rfl, hlt, by show k1 + (i + 1) = cs.length; omega, by
          rw [HT.out, List.map_append, flatC_app, keysV_app, valsV_app, show flatC ([x].map rawC) = T.flat h (N.raw h x.2) by simp [flatC], ← List.append_assoc, ← List.append_assoc]
          exact HA2.out, HF2.out⟩
      · obtain rfl : i = cs.length := by omega
        have hlti : ¬ (cs.length : Int) < cs.length := by omega
        go_wp2_with fail
        go_end0
        have h1 := HI.out.1
        rw [List.take_length] at h1
        exact ⟨rfl, h1, HI.out.2⟩
end Go.Proofs.Ytjlcebgfknfelaa.Bt

namespace Go.Proofs.Ytjlcebgfknfelaa.Bt
open Go Go.RowKit Go.IntWalk Go.Proofs.Ytjlcebgfknfelaa.Hk Go.Proofs.Ytjlcebgfknfelaa.BtPure Go.Proofs.Ytjlcebgfknfelaa.Less Go.Proofs.YtjlcebgfknfelaaW.PrintWords Go.Proofs.YtjlcebgfknfelaaW.PrintLast Go.Proofs.YtjlcebgfknfelaaW.PrintMore
open Go.Proofs.Ytjlcebgfknfelaa.Avl (LessS Acc)
theorem insL_there {r : Int → Int} {k v : Int} {ok : Bool} : ∀ {es : List E}, Up r es → findL r k es ≠ none → (insL r k v ok es).length = es.length
  | [], _, h => absurd rfl h
  | e :: es, hu, h => by
    obtain ⟨h1, h2⟩ := List.pairwise_cons.1 hu
    unfold findL at h
    rw [insL]
    by_cases q : r k = r e.1
    · rw [if_pos q]; rfl
    · rw [List.find?_cons_of_neg (by simpa using q)] at h
      rw [if_neg q]
      by_cases q2 : r k < r e.1
      · refine absurd (List.find?_eq_none.2 (fun x hx => ?_)) h
        have := h1 x hx
        simp; omega
      · rw [if_neg q2, List.length_cons, List.length_cons, insL_there h2 h]
theorem insC_len {α : Type} {r : Int → Int} {f : α → α × Option α} {fst : α → Int} (k : Int) : ∀ {cs : List (Int × α)} {t : α}, pick r k cs = some t → (f t).2 = none → (insC r f fst k cs).length = cs.length
  | [], _, h, _ => by simp [pick] at h
  | [c], t, h, hn => by
    obtain rfl : c.2 = t := by simpa [pick] using h
    simp [insC, hn]
  | c :: c' :: l, t, h, hn => by
    rw [pick] at h
    rw [insC]
    split at h
    · rename_i q
      obtain rfl := Option.some.inj h
      rw [if_pos q, hn]
      simp
    · rename_i q
      rw [if_neg q, List.length_cons, List.length_cons, insC_len k h hn]
theorem ins_none {r : Int → Int} {k v : Int} {ok : Bool} : ∀ {h : Nat} {t : T h}, Row r h t → T.len h t ≤ 63 → T.find r k h t ≠ none → (T.ins r k v ok h t).2 = none
  | 0, es, hR, hl, hf => by
    have h1 := insL_there (v := v) (ok := ok) hR hf
    show (cutL (insL r k v ok es)).2 = none
    have hl' : es.length ≤ 63 := hl
    rw [cut_small (by omega)]
  | h + 1, (cs : List (Int × T h)), hR, hl, hf => by
    have hf' : (pick r k cs).bind (fun t => T.find r k h t) ≠ none := hf
    have hl' : List.length cs ≤ 63 := hl
    cases hp : pick r k cs with
    | none => rw [hp] at hf'; exact absurd rfl hf'
    | some t =>
      rw [hp] at hf'
      have hm : ∃ c ∈ (cs : List (Int × T h)), c.2 = t := by
        have hne : (cs : List (Int × T h)) ≠ [] := fun e => by rw [e] at hp; simp [pick] at hp
        obtain ⟨c, hc, e⟩ := pick_some (r := r) (k := k) hne
        rw [e] at hp
        exact ⟨c, hc, Option.some.inj hp⟩
      obtain ⟨c, hc, rfl⟩ := hm
      have hP := hR.1 c hc
      have ih := ins_none (v := v) (ok := ok) hP.1 hP.2.1 hf'
      show (cutL (insC r (T.ins r k v ok h) (T.first h) k cs)).2 = none
      rw [cut_small (by rw [insC_len k hp ih]; omega)]
structure M where
  h : Nat
  t : N h
def M.ids (m : M) : List Nat := N.ids m.h m.t
def M.raw (m : M) : List E := T.flat m.h (N.raw m.h m.t)
def M.blk (m : M) : Nat := N.blk m.h m.t
structure Tree (base R : Nat) (tb : List Int) (m : M) (w : World) : Prop where
  blk : ∃ n lv, Blk w R #[.pointer (some ⟨m.blk, 0, none⟩), .int .i64 m.h, .int .i64 n, lv] 115 ∧ LessS base w lv tb
  ge : base ≤ R
  notin : R ∉ m.ids
  good : Good base tb w m.t
theorem fit_row {r : Int → Int} : ∀ {h : Nat} {t : N h}, Row r h (N.raw h t) → T.len h (N.raw h t) ≤ 63 → (h ≠ 0 → 1 ≤ T.len h (N.raw h t)) → N.Fit h t
  | 0, _, _, hl, _ => hl
  | h + 1, (b, cs), hR, hl, h1 => by
    have hl' : (cs.map rawC).length ≤ 63 := hl
    have h1' : 1 ≤ (cs.map rawC).length := h1 (by omega)
    rw [List.length_map] at hl' h1'
    refine ⟨hl', h1', fun c hc => ?_⟩
    have hp : Part r (rawC c) := hR.1 (rawC c) (List.mem_map.2 ⟨c, hc, rfl⟩)
    exact fit_row hp.1 hp.2.1 (fun _ => hp.2.2)
theorem Good.fit {base : Nat} {tb : List Int} {w : World} {h : Nat} {t : N h} (G : Good base tb w t) : N.Fit h t := fit_row G.row G.len G.one
theorem Good.kept {base : Nat} {tb : List Int} {w w' : World} {h : Nat} {t : N h} (G : Good base tb w t) (hk : ∀ b ∈ N.ids h t, w'.heap[b]? = w.heap[b]?) : Good base tb w' t := ⟨G.mem.kept hk, G.nodup, G.above, G.row, G.len, G.one⟩
theorem Tree.kept {base R : Nat} {tb : List Int} {m : M} {w w' : World} (h : Tree base R tb m w) (hb : Below base w w') (hR : w'.heap[R]? = w.heap[R]?) (hk : ∀ b ∈ m.ids, w'.heap[b]? = w.heap[b]?) : Tree base R tb m w' := by
  obtain ⟨⟨n, lv, B, L⟩, g, ni, G⟩ := h
  exact ⟨⟨n, lv, hR.trans B, L.to hb⟩, g, ni, G.kept hk⟩
theorem Tree.lt {base R : Nat} {tb : List Int} {m : M} {w : World} (h : Tree base R tb m w) : R < w.heap.size ∧ ∀ b ∈ m.ids, b < w.heap.size := by
  obtain ⟨⟨n, lv, B, L⟩, g, ni, G⟩ := h
  exact ⟨B.lt, fun b hb => G.mem.lt b hb⟩
theorem Tree.below {base R : Nat} {tb : List Int} {m : M} {w w' : World} (h : Tree base R tb m w) (hb : Below w.heap.size w w') : Tree base R tb m w' :=
  h.kept (have hg := h.ge; have hl := h.lt.1; ⟨hb.os, hb.tape, hb.output, hb.size, fun k hk => hb.block k (by omega)⟩) (hb.block R h.lt.1) (fun b hx => hb.block b (h.lt.2 b hx))
/-- What is behind a call that turns the tree. -/
def Turned (base R : Nat) (tb : List Int) (m : M) (raw' : List E) (w w' : World) : Prop :=
  ∃ m', Tree base R tb m' w' ∧ m'.raw = raw' ∧ m'.h ≤ m.h + 1 ∧ Fr (fun b => b = R ∨ b ∈ m.ids) w w' ∧ ∀ b ∈ m'.ids, b ∈ m.ids ∨ w.heap.size ≤ b
section
variable {base R : Nat} {tb : List Int} {key val : Int} {ok : Bool} {w w1 w' : World} {h : Nat} {t t' u : N h}
theorem Out.good (G : Good base tb w t) (hb : base ≤ w.heap.size) (O : Out tb key val ok t t' none w w') : Good base tb w' t' ∧ T.flat h (N.raw h t') = insL (rankOf tb) key val ok (T.flat h (N.raw h t)) := by
  have hm := ins_made (k := key) (v := val) (ok := ok) G.row G.len G.one
  have hr := O.raw
  rw [← hr] at hm
  have hn := O.nodup
  simp only [uids, List.append_nil] at hn
  exact ⟨⟨O.mem, hn, fun b hb' => by
    rcases O.ids b (List.mem_append_left _ hb') with h1 | h1
    · exact G.above b h1
    · omega, hm.one.1, hm.one.2.1, fun _ => hm.one.2.2⟩, hm.none_ rfl⟩
/-- Two parts under a new root. -/
theorem Out.two (G : Good base tb w t) (hb : base ≤ w.heap.size) (O : Out tb key val ok t t' (some u) w w') {W : World} {c : Nat} {g : Nat → Q} (hf : Fr (· = R) w' W) (hRn : R ∉ N.ids h t' ++ N.ids h u) (hc : w'.heap.size ≤ c) (hN : Nd W c 2 g)
    (h0 : Rep1 (g 0) (T.first h (N.raw h t'), t')) (h1 : Rep1 (g 1) (T.first h (N.raw h u), u)) :
    Good base tb W (h := h + 1) ((c, [(T.first h (N.raw h t'), t'), (T.first h (N.raw h u), u)]) : Nat × List (Int × N h)) ∧
      T.flat (h + 1) (N.raw (h + 1) ((c, [(T.first h (N.raw h t'), t'), (T.first h (N.raw h u), u)]) : Nat × List (Int × N h))) = insL (rankOf tb) key val ok (T.flat h (N.raw h t)) := by
  have hm := ins_made (k := key) (v := val) (ok := ok) G.row G.len G.one
  have hr := O.raw
  rw [← hr] at hm
  obtain ⟨s1, s2, s3, s4⟩ := hm.some_ (N.raw h u) rfl
  have hn : (N.ids h t' ++ N.ids h u).Nodup := O.nodup
  have i1 : N.In W h t' := O.mem.fr hf (fun b hb' e => hRn (by rw [← e]; exact List.mem_append_left _ hb'))
  have i2 : N.In W h u := (O.memu u rfl).fr hf (fun b hb' e => hRn (by rw [← e]; exact List.mem_append_right _ hb'))
  have lt : ∀ b ∈ N.ids h t' ++ N.ids h u, b < w'.heap.size := fun b hb' => by
    rcases List.mem_append.1 hb' with hb' | hb'
    · exact O.mem.lt b hb'
    · exact (O.memu u rfl).lt b hb'
  have eids : N.ids (h + 1) ((c, [(T.first h (N.raw h t'), t'), (T.first h (N.raw h u), u)]) : Nat × List (Int × N h)) = c :: (N.ids h t' ++ N.ids h u) := by
    show c :: fids _ = _
    rw [fids_cons, fids_cons]
    simp [fids]
  refine ⟨⟨⟨⟨g, hN, fun i x hx => ?_⟩, fun d hd => ?_⟩, ?_, fun b hb' => ?_, ⟨fun d hd => ?_, ⟨s3, s4, trivial⟩⟩, by show 2 ≤ 63; omega, fun _ => by show 1 ≤ 2; omega⟩, ?_⟩
  · match i, hx with
    | 0, hx => obtain rfl := Option.some.inj hx; exact h0
    | 1, hx => obtain rfl := Option.some.inj hx; exact h1
    | _ + 2, hx => simp at hx
  · simp only [List.mem_cons, List.not_mem_nil, or_false] at hd
    rcases hd with rfl | rfl
    · exact i1
    · exact i2
  · rw [eids]
    exact List.nodup_cons.2 ⟨fun h => by have := lt c h; omega, hn⟩
  · rw [eids] at hb'
    have hs := O.fr.size
    rcases List.mem_cons.1 hb' with rfl | hb'
    · omega
    · rcases O.ids b hb' with h1 | h1
      · exact G.above b h1
      · omega
  · simp only [N.raw, List.map_cons, List.map_nil, List.mem_cons, List.not_mem_nil, or_false] at hd
    rcases hd with rfl | rfl
    · exact hm.one
    · exact s1
  · rw [← s2]
    show flatC [(T.first h (N.raw h t'), N.raw h t'), (T.first h (N.raw h u), N.raw h u)] = _
    rw [flatC_cons, flatC_cons]
    simp [flatC]
end
def get1.T : Bool × List (List Nat × List Nat) := (true, [([], []), ([], []), ([1], [1]), ([2], [2]), ([3], [3]), ([], []), ([], []), ([6], [6]), ([7], [7]), ([8], [8]), ([0, 4, 5, 9], [0, 4, 5, 9]), ([10], [10]), ([10], [10]), ([11, 10, 0, 1, 2, 3, 4, 5, 6, 7, 8, 9, 10, 11, 12], [11]), ([12, 13, 0, 1, 2, 3, 4, 5, 6, 7, 8, 9, 10, 11, 12, 13], [12])])
def get1.B : List Nat := [0, 0, 2, 6, 14, 0, 0, 64, 192, 448, 1023, 2047, 2047, 8191, 16383]
theorem get1.tab : rtab .any (opsOf Try.f74 1) = get1.T := by kernel_rfl
theorem get1.bits : waitsOk get1.T.2 get1.B = true := by kernel_rfl
set_option maxHeartbeats 4000000 in
set_option maxRecDepth 100000 in
theorem tGet_any (base R : Nat) (tb : List Int) (m : M) (key : Int) (w : World) (hT : Tree base R tb m w) (hh : m.h ≤ 1099511627776) :
    Calls Try.prog 74 #[.pointer (some ⟨R, 0, none⟩), .int .i64 key] w fun e w' => e = .returned (.tuple #[.int .i64 (tell (findL (rankOf tb) key m.raw)).1, .bool (tell (findL (rankOf tb) key m.raw)).2]) ∧ Below w.heap.size w w' := by
  obtain ⟨⟨n, lv, hB, hL⟩, g, ni, G⟩ := hT
  obtain ⟨h, t⟩ := m
  have hFF := find_flat (k := key) G.row
  have HF : Hid (findL (rankOf tb) key (T.flat h (N.raw h t)) = T.find (rankOf tb) key h (N.raw h t)) := hFF.symm
  have c0 : w.cell? ⟨R, 0, none⟩ = some (.pointer (some ⟨N.blk h t, 0, none⟩)) := hB.cell 0
  have c1 : w.cell? ⟨R, 1, none⟩ = some (.int .i64 h) := hB.cell 1
  have HB := hid (And.intro hB hL)
  have HG := hid G
  have HZ : Hid (base ≤ w.heap.size ∧ h ≤ 1099511627776) := ⟨by have := hB.lt; omega, hh⟩
  clear hB hL g ni G hFF hh
  show Calls Try.prog 74 #[.pointer (some ⟨R, 0, none⟩), .int .i64 key] w fun e w' => e = .returned (.tuple #[.int .i64 (tell (findL (rankOf tb) key (T.flat h (N.raw h t)))).1, .bool (tell (findL (rankOf tb) key (T.flat h (N.raw h t)))).2]) ∧ Below w.heap.size w w'
  rw [HF.out]
  go_enter Try.func74, Try.ntmps74
  go_upto_region 1 with fail
  refine start_ (n := 15) (S := fun w' => w'.cell? ⟨R, 0, none⟩ = some (.pointer (some ⟨N.blk h t, 0, none⟩)) ∧ w'.cell? ⟨R, 1, none⟩ = some (.int .i64 h)) (ds := [10]) #[false, false, false, false, false, false, false, false, false, false, false, false, false, false, false] (by kernel_rfl) rfl rfl ⟨c0, c1⟩ (fun hHeld => ?_)
  refine with_tabW get1.tab get1.bits (fun HT_ HW_ => ?_)
  refine pure_ (i := 0) (N := some 6) (v := ?_) (a' := ?_) #[true, false, false, false, false, false, false, false, false, false, false, false, false, false, false] rfl rfl (any_of HT_.out (by kernel_rfl)) (fun _ _ _ h => h) (Or.inl ⟨by rfl, ?_⟩) ?_ ?_
  rotate_left
  · intro w'
    go_simp
    with_reducible rfl
  rotate_left
  · simp only [Act.put, List.setIfInBounds_toArray, List.set_cons_zero, List.set_cons_succ]
    rfl
  refine pure_ (i := 1) (N := some 7) (v := ?_) (a' := ?_) #[true, true, false, false, false, false, false, false, false, false, false, false, false, false, false] rfl rfl (any_of HT_.out (by kernel_rfl)) (fun _ _ _ h => h) (Or.inl ⟨by rfl, ?_⟩) ?_ ?_
  rotate_left
  · intro w'
    go_simp
    with_reducible rfl
  rotate_left
  · simp only [Act.put, List.setIfInBounds_toArray, List.set_cons_zero, List.set_cons_succ]
    rfl
  refine pure_ (i := 2) (N := some 8) (v := ?_) (a' := ?_) #[true, true, true, false, false, false, false, false, false, false, false, false, false, false, false] rfl rfl (any_of HT_.out (by kernel_rfl)) (fun _ _ _ h => h) (Or.inl ⟨by rfl, ?_⟩) ?_ ?_
  rotate_left
  · intro w'
    go_simp
    with_reducible rfl
  rotate_left
  · simp only [Act.put, List.setIfInBounds_toArray, List.set_cons_zero, List.set_cons_succ]
    rfl
  refine pure_ (i := 3) (N := some 9) (v := ?_) (a' := ?_) #[true, true, true, true, false, false, false, false, false, false, false, false, false, false, false] rfl rfl (any_of HT_.out (by kernel_rfl)) (fun _ _ _ h => h) (Or.inl ⟨by rfl, ?_⟩) ?_ ?_
  rotate_left
  · intro w'
    go_simp
    with_reducible rfl
  rotate_left
  · simp only [Act.put, List.setIfInBounds_toArray, List.set_cons_zero, List.set_cons_succ]
    rfl
  refine take_ (i := 4) (N := some 10) (v := ?_) (a' := ?_) #[true, true, true, true, true, false, false, false, false, false, false, false, false, false, false] rfl rfl (take_ofW HT_.out HW_.out (by kernel_rfl)) (fun _ _ _ h => h) (Or.inl ⟨by rfl, ?_⟩) hHeld ?_ ?_
  rotate_left
  · intro w' s0
    obtain ⟨s1, s2⟩ := s0
    go_simp
    with_reducible rfl
  rotate_left
  · simp only [Act.put, List.setIfInBounds_toArray, List.set_cons_zero, List.set_cons_succ]
    rfl
  refine pure_ (i := 5) (N := some 11) (v := ?_) (a' := ?_) #[true, true, true, true, true, true, false, false, false, false, false, false, false, false, false] rfl rfl (any_of HT_.out (by kernel_rfl)) (fun _ _ _ h => h) (Or.inl ⟨by rfl, ?_⟩) ?_ ?_
  rotate_left
  · intro w'
    go_simp
    with_reducible rfl
  rotate_left
  · simp only [Act.put, List.setIfInBounds_toArray, List.set_cons_zero, List.set_cons_succ]
    rfl
  refine pure_ (i := 6) (N := some 12) (v := ?_) (a' := ?_) #[true, true, true, true, true, true, true, false, false, false, false, false, false, false, false] rfl rfl (any_of HT_.out (by kernel_rfl)) (fun _ _ _ h => h) (Or.inl ⟨by rfl, ?_⟩) ?_ ?_
  rotate_left
  · intro w'
    go_simp
    with_reducible rfl
  rotate_left
  · simp only [Act.put, List.setIfInBounds_toArray, List.set_cons_zero, List.set_cons_succ]
    rfl
  refine pure_ (i := 7) (N := some 13) (v := ?_) (a' := ?_) #[true, true, true, true, true, true, true, true, false, false, false, false, false, false, false] rfl rfl (any_of HT_.out (by kernel_rfl)) (fun _ _ _ h => h) (Or.inl ⟨by rfl, ?_⟩) ?_ ?_
  rotate_left
  · intro w'
    go_simp
    with_reducible rfl
  rotate_left
  · simp only [Act.put, List.setIfInBounds_toArray, List.set_cons_zero, List.set_cons_succ]
    rfl
  refine pure_ (i := 8) (N := some 14) (v := ?_) (a' := ?_) #[true, true, true, true, true, true, true, true, true, false, false, false, false, false, false] rfl rfl (any_of HT_.out (by kernel_rfl)) (fun _ _ _ h => h) (Or.inl ⟨by rfl, ?_⟩) ?_ ?_
  rotate_left
  · intro w'
    go_simp
    with_reducible rfl
  rotate_left
  · simp only [Act.put, List.setIfInBounds_toArray, List.set_cons_zero, List.set_cons_succ]
    rfl
  refine take_ (i := 9) (N := some 15) (v := ?_) (a' := ?_) #[true, true, true, true, true, true, true, true, true, true, false, false, false, false, false] rfl rfl (take_ofW HT_.out HW_.out (by kernel_rfl)) (fun _ _ _ h => h) (Or.inl ⟨by rfl, ?_⟩) hHeld ?_ ?_
  rotate_left
  · intro w' s0
    obtain ⟨s1, s2⟩ := s0
    go_simp
    with_reducible rfl
  rotate_left
  · simp only [Act.put, List.setIfInBounds_toArray, List.set_cons_zero, List.set_cons_succ]
    rfl
  refine last_ (i := 10) (N := some 16) #[true, true, true, true, true, true, true, true, true, true, true, false, false, false, false] rfl rfl (one_of HT_.out (by kernel_rfl)) (by decide) (fun K_ hK => ?_)
  refine call_ (N := some 16) 93 #[.pointer (some ⟨R, 0, none⟩), .pointer (some ⟨N.blk h t, 0, none⟩), .int .i64 key, .int .i64 h] (by rfl) rfl (by go_simp) ?_
  have HCall_ := search_any base R tb key n h _ lv h t w.drew (HG.out.mem.kept (fun _ _ => rfl)) HG.out.fit HB.out.1 (HB.out.2.drewN 1) HZ.out.1 HZ.out.2
  refine HCall_.mono ?_
  clear HCall_
  rintro e w1 ⟨rfl, hb⟩
  have HB1 := hid hb
  clear hb hHeld
  refine ⟨_, rfl, ?_⟩
  refine hK.out _ _ ?_
  clear hK K_
  refine norm_ (a' := ?_) ?_ ?_
  rotate_left
  · show Act.put _ (some 16) _ = _
    simp only [Act.put, List.setIfInBounds_toArray, List.set_cons_zero, List.set_cons_succ]
    rfl
  refine pure_ (i := 11) (N := some 17) (v := ?_) (a' := ?_) #[true, true, true, true, true, true, true, true, true, true, true, true, false, false, false] rfl rfl (any_of HT_.out (by kernel_rfl)) (fun _ _ _ h => h) (Or.inl ⟨by rfl, ?_⟩) ?_ ?_
  rotate_left
  · intro w'
    go_simp
    with_reducible rfl
  rotate_left
  · simp only [Act.put, List.setIfInBounds_toArray, List.set_cons_zero, List.set_cons_succ]
    rfl
  refine pure_ (i := 12) (N := some 18) (v := ?_) (a' := ?_) #[true, true, true, true, true, true, true, true, true, true, true, true, true, false, false] rfl rfl (any_of HT_.out (by kernel_rfl)) (fun _ _ _ h => h) (Or.inl ⟨by rfl, ?_⟩) ?_ ?_
  rotate_left
  · intro w'
    go_simp
    with_reducible rfl
  rotate_left
  · simp only [Act.put, List.setIfInBounds_toArray, List.set_cons_zero, List.set_cons_succ]
    rfl
  refine pure_ (i := 13) (N := some 4) (v := ?_) (a' := ?_) #[true, true, true, true, true, true, true, true, true, true, true, true, true, true, false] rfl rfl (any_of HT_.out (by kernel_rfl)) (fun _ _ _ h => h) (Or.inl ⟨by rfl, ?_⟩) ?_ ?_
  rotate_left
  · intro w'
    go_simp
    with_reducible rfl
  rotate_left
  · simp only [Act.put, List.setIfInBounds_toArray, List.set_cons_zero, List.set_cons_succ]
    rfl
  refine pure_ (i := 14) (N := some 5) (v := ?_) (a' := ?_) #[true, true, true, true, true, true, true, true, true, true, true, true, true, true, true] rfl rfl (any_of HT_.out (by kernel_rfl)) (fun _ _ _ h => h) (Or.inl ⟨by rfl, ?_⟩) ?_ ?_
  rotate_left
  · intro w'
    go_simp
    with_reducible rfl
  rotate_left
  · simp only [Act.put, List.setIfInBounds_toArray, List.set_cons_zero, List.set_cons_succ]
    rfl
  refine done_ (done_of HT_.out (by kernel_rfl)) ?_
  clear HT_ HW_
  go_wp2_with fail
  go_ret2
  exact ⟨rfl, ⟨HB1.out.os, HB1.out.tape, HB1.out.output, HB1.out.size, HB1.out.block⟩⟩
set_option maxHeartbeats 4000000 in
set_option maxRecDepth 100000 in
theorem tEach_any (base R : Nat) (tb : List Int) (m : M) (N0 X : Nat) (val : Int) (okv : Bool) (w : World) (hT : Tree base R tb m w) (hid' : ∀ b ∈ m.ids, b < N0 ∧ b ≠ X) (hA : Acc N0 X val okv [] [] w) (hs : m.raw.length ≤ 1099511627776) (hh : m.h ≤ 1099511627776) :
    Calls Try.prog 75 #[.pointer (some ⟨R, 0, none⟩), cloV X] w fun e w' => e = .returned (.tuple #[]) ∧ Acc N0 X val okv (keysV m.raw) (valsV m.raw) w' ∧ Fr (fun b => b = X ∨ N0 ≤ b) w w' := by
  obtain ⟨⟨n, lv, hB, hL⟩, g, ni, G⟩ := hT
  obtain ⟨h, t⟩ := m
  have c0 : w.cell? ⟨R, 0, none⟩ = some (.pointer (some ⟨N.blk h t, 0, none⟩)) := hB.cell 0
  have c1 : w.cell? ⟨R, 1, none⟩ = some (.int .i64 h) := hB.cell 1
  have HG := hid G
  have HB : Hid ((∀ b ∈ N.ids h t, b < N0 ∧ b ≠ X) ∧ Acc N0 X val okv [] [] w ∧ ([] : List Int).length + (T.flat h (N.raw h t)).length ≤ 1099511627776 ∧ h ≤ 1099511627776) := ⟨hid', hA, by rw [List.length_nil, Nat.zero_add]; exact hs, hh⟩
  clear hB hL g ni G hid' hA hs hh
  show Calls Try.prog 75 #[.pointer (some ⟨R, 0, none⟩), .func (.func 76) #[] #[.pointer (some ⟨X, 0, none⟩)]] w fun e w' => e = .returned (.tuple #[]) ∧ Acc N0 X val okv (keysV (T.flat h (N.raw h t))) (valsV (T.flat h (N.raw h t))) w' ∧ Fr (fun b => b = X ∨ N0 ≤ b) w w'
  go_enter Try.func75, Try.ntmps75
  go_wp2_with fail
  refine wp_first_tail (.tmp 0) (some 4) 10 (by kernel_rfl) ⟨rfl, rfl, rfl⟩ (by kernel_rfl) (by kernel_rfl) (by kernel_rfl) (fun _ _ _ h => h) (by kernel_rfl) ?_
  simp only [tied, List.modify_succ_cons, List.modify_zero_cons, List.take_succ_cons, List.take_zero, List.drop_succ_cons, List.drop_zero]
  repeat still_step
  refine wpStill_nil ?_
  go_wp2_with fail
  refine (each_any N0 X R val okv h t [] [] w.drew (HG.out.mem.kept (fun _ _ => rfl)) HG.out.fit HB.out.1 HB.out.2.1.drew rfl HB.out.2.2.1 HB.out.2.2.2).mono ?_
  rintro e w1 ⟨rfl, hA, hF⟩
  have H := hid hA
  have H2 : Hid (Fr (fun b => b = X ∨ N0 ≤ b) w w1) := hid ⟨hF.os, hF.tape, hF.output, hF.size, hF.block⟩
  clear hA hF
  go_wp2_with fail
  go_end0
  exact ⟨rfl, H.out, H2.out⟩
end Go.Proofs.Ytjlcebgfknfelaa.Bt

namespace Go.Proofs.Ytjlcebgfknfelaa.Bt
open Go Go.RowKit Go.IntWalk Go.Proofs.Ytjlcebgfknfelaa.Hk Go.Proofs.Ytjlcebgfknfelaa.BtPure Go.Proofs.Ytjlcebgfknfelaa.Less Go.Proofs.YtjlcebgfknfelaaW.PrintWords Go.Proofs.YtjlcebgfknfelaaW.PrintLast Go.Proofs.YtjlcebgfknfelaaW.PrintMore
open Go.Proofs.Ytjlcebgfknfelaa.Avl (LessS Acc)
theorem Nd.newm (w : World) (m : Int) : Nd (w.alloc (.cells (Try.zeroCells113.setIfInBounds 0 (.int .i64 m)) 113)) w.heap.size m (fun _ => q0) := by
  rw [zero_cells, cells_setm]
  exact Blk.new w _ _
theorem dr_fr {S : Nat → Prop} {a w : World} (h : Fr S a.drew w) : Fr S a w := ⟨h.os, h.tape, h.output, h.size, h.block⟩
section
variable {base R : Nat} {tb : List Int} {key val : Int} {ok : Bool} {w w1 W : World} {h : Nat} {t t' u : N h}
/-- The tree behind an insertion that has told nothing, and whatever has been stored into its own variable's cells. -/
theorem put_none {n n' : Int} {lv : Value} (hT : Tree base R tb ⟨h, t⟩ w) (hbl : Blk w R #[.pointer (some ⟨N.blk h t, 0, none⟩), .int .i64 h, .int .i64 n, lv] 115) (hL : LessS base w lv tb) (O : Out tb key val ok t t' none w w1) :
    Turned base R tb ⟨h, t⟩ (insL (rankOf tb) key val ok (T.flat h (N.raw h t))) w (w1.setCell ⟨R, 2, none⟩ (.int .i64 n')) := by
  have hlt := hT.lt.1
  have hb : base ≤ w.heap.size := Nat.le_of_lt (Nat.lt_of_le_of_lt hT.ge hlt)
  have hni : R ∉ N.ids h t := hT.notin
  have hR' : R ∉ N.ids h t' := fun hm => by
    rcases O.ids R (List.mem_append_left _ hm) with h1 | h1
    · exact hni h1
    · omega
  obtain ⟨G', hflat⟩ := O.good hT.good hb
  have hB1 : Blk w1 R _ 115 := hbl.fr O.fr hni
  have hf : Fr (fun b => b = R ∨ b ∈ N.ids h t) w (w1.setCell ⟨R, 2, none⟩ (.int .i64 n')) := (O.fr.mono (fun k _ hk => .inr hk)).setCell (p := ⟨R, 2, none⟩) (fun _ => .inl rfl) _
  refine ⟨⟨h, t'⟩, ⟨⟨n', lv, ?_, hL.to (hf.below hb (fun k hk => ?_))⟩, hT.ge, hR', G'.kept (fun b hb' => Below.heap_setCell _ _ _ _ (fun e => hR' (by have e' : b = R := e; rw [← e']; exact hb')))⟩, hflat, Nat.le_succ _, hf, fun b hb' => O.ids b (List.mem_append_left _ hb')⟩
  · have := hB1.set 2 (.int .i64 n')
    rw [← O.blk] at this
    exact this
  · rcases hk with rfl | hk
    · exact hT.ge
    · exact hT.good.above k hk
end
set_option maxHeartbeats 8000000 in
set_option maxRecDepth 100000 in
theorem tPut_any (base R : Nat) (tb : List Int) (m : M) (key val : Int) (w : World) (hT : Tree base R tb m w) (hh : m.h ≤ 1099511627775) :
    Calls Try.prog 72 #[.pointer (some ⟨R, 0, none⟩), .int .i64 key, .int .i64 val] w fun e w' => e = .returned (.tuple #[]) ∧ Turned base R tb m (insL (rankOf tb) key val true m.raw) w w' := by
  have HT := hid hT
  obtain ⟨⟨n, lv, hB, hL⟩, g, ni, G⟩ := hT
  obtain ⟨h, t⟩ := m
  have c0 : w.cell? ⟨R, 0, none⟩ = some (.pointer (some ⟨N.blk h t, 0, none⟩)) := hB.cell 0
  have c1 : w.cell? ⟨R, 1, none⟩ = some (.int .i64 h) := hB.cell 1
  have HB := hid (And.intro hB hL)
  have HG := hid G
  have HNI : Hid (R ∉ N.ids h t) := ni
  have HZ : Hid (base ≤ w.heap.size ∧ h ≤ 1099511627775) := ⟨by have := hB.lt; omega, hh⟩
  clear hB hL g ni G hh
  go_enter Try.func72, Try.ntmps72
  go_wp2_with fail
  refine wp_first_tail (.tmp 0) (some 8) 11 (by kernel_rfl) ⟨rfl, rfl, rfl⟩ (by kernel_rfl) (by kernel_rfl) (by kernel_rfl) (fun _ _ _ h => h) (by kernel_rfl) ?_
  simp only [tied, List.modify_succ_cons, List.modify_zero_cons, List.take_succ_cons, List.take_zero, List.drop_succ_cons, List.drop_zero]
  repeat still_step
  refine wpStill_nil ?_
  go_wp2_with fail
  refine (insert_any base R tb key val n h true _ lv h t w.drew (HG.out.kept (fun _ _ => rfl)) HB.out.1 HNI.out (HB.out.2.drewN 1) HZ.out.1 (by have := HZ.out.2; omega)).mono ?_
  rintro e w1 ⟨t', u, rfl, O⟩
  have HO : Hid (Out tb key val true t t' u w w1) := ⟨O.raw, O.blk, O.mem, O.memu, O.nodup, O.ids, dr_fr O.fr⟩
  have HB1 : Hid (Blk w1 R #[.pointer (some ⟨N.blk h t, 0, none⟩), .int .i64 h, .int .i64 n, lv] 115) := hid (HB.out.1.fr HO.out.fr HNI.out)
  clear O c0 c1
  have c2 : w1.cell? ⟨R, 2, none⟩ = some (.int .i64 n) := HB1.out.cell 2
  have f2 : w1.frozen? ⟨R, 2, none⟩ = false := HB1.out.free 2
  cases u with
  | none =>
    rw [show uptr (none : Option (N h)) = .pointer none from rfl]
    go_wp2_with fail
    (try simp only [Exit.inBlock, Exit.then]); refine bodyPost_ret (results_none rfl _ _ _) rfl ?_
    exact ⟨rfl, put_none HT.out HB.out.1 HB.out.2 HO.out⟩
  | some u =>
    rw [show uptr (some u) = .pointer (some ⟨N.blk h u, 0, none⟩) from rfl]
    have hd1 : 1 ≤ T.len h (N.raw h t') ∧ 1 ≤ T.len h (N.raw h u) := by
      have hm := ins_made (k := key) (v := val) (ok := true) HG.out.row HG.out.len HG.out.one
      have hr := HO.out.raw
      rw [← hr] at hm
      exact ⟨hm.one.2.2, (hm.some_ (N.raw h u) rfl).1.2.2⟩
    have HD1 := hid hd1
    have hRn : R ∉ N.ids h t' ++ N.ids h u := fun hm => by
      rcases HO.out.ids R hm with h1 | h1
      · exact HNI.out h1
      · have := HT.out.lt.1; omega
    have HRN := hid hRn
    clear hd1 hRn
    go_upto_region 3 with fail
    have HB2 : Hid (Blk (w1.setCell ⟨R, 2, none⟩ (.int .i64 (wrap64 (n + 1)))) R #[.pointer (some ⟨N.blk h t, 0, none⟩), .int .i64 h, .int .i64 (wrap64 (n + 1)), lv] 115) := hid (HB1.out.set 2 _)
    have HF2 : Hid (Fr (· = R) w1 (w1.setCell ⟨R, 2, none⟩ (.int .i64 (wrap64 (n + 1))))) := hid (Fr.setCell (S := (· = R)) (Fr.refl _ _) (p := ⟨R, 2, none⟩) (fun _ => rfl) _)
    clear c2 f2
    obtain ⟨n1, hn1⟩ : ∃ n1, wrap64 (n + 1) = n1 := ⟨_, rfl⟩
    rw [hn1] at HB2 HF2 ⊢
    generalize w1.setCell ⟨R, 2, none⟩ (.int .i64 n1) = W2 at HB2 HF2 ⊢
    go_upto_region 4 with fail
    have HN3 := hid (Nd.newm W2 2)
    have HB3 := hid (HB2.out.alloc (.cells (Try.zeroCells113.setIfInBounds 0 (.int .i64 2)) 113))
    have HF3 := hid (HF2.out.alloc (.cells (Try.zeroCells113.setIfInBounds 0 (.int .i64 2)) 113))
    have HSZ : Hid (w1.heap.size ≤ W2.heap.size) := HF2.out.size
    generalize W2.alloc (.cells (Try.zeroCells113.setIfInBounds 0 (.int .i64 2)) 113) = W3 at HN3 HB3 HF3 ⊢
    obtain ⟨c, hc⟩ : ∃ c, W2.heap.size = c := ⟨_, rfl⟩
    rw [hc] at HN3 HSZ ⊢
    have HRC : Hid (R ≠ c ∧ c ≠ R) := by have h1 := HB2.out.lt; rw [hc] at h1; exact ⟨by omega, by omega⟩
    clear hc HB2 HF2
    -- the parts' first keys
    obtain ⟨k0, hk0⟩ : ∃ k0, T.first h (N.raw h t') = k0 := ⟨_, rfl⟩
    obtain ⟨k1, hk1⟩ : ∃ k1, T.first h (N.raw h u) = k1 := ⟨_, rfl⟩
    have HK := hid (And.intro hk0 hk1)
    clear hk0 hk1
    have par : ∀ W, Fr (· = R) w1 W → N.In W h t' ∧ N.In W h u := fun W hf => ⟨HO.out.mem.fr hf (fun b hb e => HRN.out (by rw [← e]; exact List.mem_append_left _ hb)), (HO.out.memu u rfl).fr hf (fun b hb e => HRN.out (by rw [← e]; exact List.mem_append_right _ hb))⟩
    have HPAR := hid par
    clear par
    have c0 : W3.cell? ⟨R, 0, none⟩ = some (.pointer (some ⟨N.blk h t, 0, none⟩)) := HB3.out.cell 0
    have d0 : W3.cell? ⟨N.blk h t, 1, none⟩ = some (.int .i64 k0) := by rw [← HK.out.1, ← HO.out.blk]; exact first_cell (HPAR.out _ HF3.out).1 HD1.out.1
    go_upto_region 4 with fail
    refine still_tail_drew 18 (by kernel_rfl) (by kernel_rfl) ?_
    simp only [List.take_succ_cons, List.take_zero, List.drop_succ_cons, List.drop_zero]
    repeat still_step
    refine wpStill_nil ?_
    change wpList _ _ _ _ _ W3.drew
    refine wpList_store_mid rfl 110 (.tmp 48) (.tmp 45) rfl c 1 _ rfl rfl (Nd.there (w := W3.drew) HN3.out 0 (by omega)) (by kernel_rfl) (by simp [Value.oneCell']) ?_
    change wpList _ _ _ _ _ (W3.drew.setCells c (1 + 0 * 4) (cellsQ ⟨k0, 0, false, some ⟨N.blk h t, 0, none⟩⟩))
    have HN4 := hid (Nd.puts (w := W3.drew) HN3.out 0 ⟨k0, 0, false, some ⟨N.blk h t, 0, none⟩⟩ (by omega))
    have HB4 : Hid (Blk (W3.drew.setCells c (1 + 0 * 4) (cellsQ ⟨k0, 0, false, some ⟨N.blk h t, 0, none⟩⟩)) R #[.pointer (some ⟨N.blk h t, 0, none⟩), .int .i64 h, .int .i64 n1, lv] 115) := Blk.sets (w := W3.drew) HB3.out c (1 + 0 * 4) _ HRC.out.1
    have HF4 := hid (fr_sets (S := (· = R)) (b := c) (fun h1 => absurd h1 (by have := HSZ.out; omega)) HF3.out.drew (1 + 0 * 4) (cellsQ ⟨k0, 0, false, some ⟨N.blk h t, 0, none⟩⟩))
    clear c0 d0 HN3 HB3 HF3
    generalize W3.drew.setCells c (1 + 0 * 4) (cellsQ ⟨k0, 0, false, some ⟨N.blk h t, 0, none⟩⟩) = W4 at HN4 HB4 HF4 ⊢
    have d1 : W4.cell? ⟨N.blk h u, 1, none⟩ = some (.int .i64 k1) := by rw [← HK.out.2]; exact first_cell (HPAR.out _ HF4.out).2 HD1.out.2
    go_upto_region 5 with fail
    refine still_tail_drew 12 (by kernel_rfl) (by kernel_rfl) ?_
    simp only [List.take_succ_cons, List.take_zero, List.drop_succ_cons, List.drop_zero]
    repeat still_step
    refine wpStill_nil ?_
    change wpList _ _ _ _ _ W4.drew
    refine wpList_store_mid rfl 110 (.tmp 60) (.tmp 57) rfl c 5 _ rfl rfl (Nd.there (w := W4.drew) HN4.out 1 (by omega)) (by kernel_rfl) (by simp [Value.oneCell']) ?_
    change wpList _ _ _ _ _ (W4.drew.setCells c (1 + 1 * 4) (cellsQ ⟨k1, 0, false, some ⟨N.blk h u, 0, none⟩⟩))
    have HN5 := hid (Nd.puts (w := W4.drew) HN4.out 1 ⟨k1, 0, false, some ⟨N.blk h u, 0, none⟩⟩ (by omega))
    have HB5 : Hid (Blk (W4.drew.setCells c (1 + 1 * 4) (cellsQ ⟨k1, 0, false, some ⟨N.blk h u, 0, none⟩⟩)) R #[.pointer (some ⟨N.blk h t, 0, none⟩), .int .i64 h, .int .i64 n1, lv] 115) := Blk.sets (w := W4.drew) HB4.out c (1 + 1 * 4) _ HRC.out.1
    have HF5 := hid (fr_sets (S := (· = R)) (b := c) (fun h1 => absurd h1 (by have := HSZ.out; omega)) HF4.out.drew (1 + 1 * 4) (cellsQ ⟨k1, 0, false, some ⟨N.blk h u, 0, none⟩⟩))
    clear d1 HN4 HB4 HF4
    generalize W4.drew.setCells c (1 + 1 * 4) (cellsQ ⟨k1, 0, false, some ⟨N.blk h u, 0, none⟩⟩) = W5 at HN5 HB5 HF5 ⊢
    have c0 : W5.cell? ⟨R, 0, none⟩ = some (.pointer (some ⟨N.blk h t, 0, none⟩)) := HB5.out.cell 0
    have c1 : W5.cell? ⟨R, 1, none⟩ = some (.int .i64 h) := HB5.out.cell 1
    have f0 : W5.frozen? ⟨R, 0, none⟩ = false := HB5.out.free 0
    have f1 : W5.frozen? ⟨R, 1, none⟩ = false := HB5.out.free 1
    have hw : IntKind.i64.wrap ((h : Int) + 1) = (h : Int) + 1 := i64_in _ (by have := HZ.out.2; omega)
    have HB6 : Hid (Blk ((W5.setCell ⟨R, 0, none⟩ (.pointer (some ⟨c, 0, none⟩))).setCell ⟨R, 1, none⟩ (.int .i64 ((h : Int) + 1))) R #[.pointer (some ⟨c, 0, none⟩), .int .i64 ((h : Int) + 1), .int .i64 n1, lv] 115) := hid ((HB5.out.set 0 _).set 1 _)
    have HF6 : Hid (Fr (· = R) w1 ((W5.setCell ⟨R, 0, none⟩ (.pointer (some ⟨c, 0, none⟩))).setCell ⟨R, 1, none⟩ (.int .i64 ((h : Int) + 1)))) := hid (Fr.setCell (S := (· = R)) (Fr.setCell (S := (· = R)) HF5.out (p := ⟨R, 0, none⟩) (fun _ => rfl) _) (p := ⟨R, 1, none⟩) (fun _ => rfl) _)
    have HN6 : Hid (Nd ((W5.setCell ⟨R, 0, none⟩ (.pointer (some ⟨c, 0, none⟩))).setCell ⟨R, 1, none⟩ (.int .i64 ((h : Int) + 1))) c 2 (upd (upd (fun _ => q0) 0 ⟨k0, 0, false, some ⟨N.blk h t, 0, none⟩⟩) 1 ⟨k1, 0, false, some ⟨N.blk h u, 0, none⟩⟩)) := hid ((HN5.out.other' ⟨R, 0, none⟩ _ HRC.out.2).other' ⟨R, 1, none⟩ _ HRC.out.2)
    go_wp2_with fail
    (try simp only [Exit.inBlock, Exit.then]); refine bodyPost_end (results_none rfl _ _ _) rfl ?_
    obtain ⟨G', hflat⟩ := Out.two (R := R) HG.out HZ.out.1 HO.out HF6.out HRN.out HSZ.out HN6.out ⟨by show k0 = _; exact HK.out.1.symm, by show some (⟨N.blk h t, 0, none⟩ : Addr) = _; rw [HO.out.blk]⟩ ⟨by show k1 = _; exact HK.out.2.symm, rfl⟩
    have hs1 := HO.out.fr.size
    have hge := HT.out.ge
    have hids : N.ids (h + 1) ((c, [(T.first h (N.raw h t'), t'), (T.first h (N.raw h u), u)]) : Nat × List (Int × N h)) = c :: (N.ids h t' ++ N.ids h u) := by
      show c :: fids _ = _
      rw [fids_cons, fids_cons]
      simp [fids]
    have hfr : Fr (fun b => b = R ∨ b ∈ N.ids h t) w ((W5.setCell ⟨R, 0, none⟩ (.pointer (some ⟨c, 0, none⟩))).setCell ⟨R, 1, none⟩ (.int .i64 ((h : Int) + 1))) := (HO.out.fr.mono (fun k _ hk => .inr hk)).trans HF6.out (fun k _ hk => .inl hk)
    refine ⟨rfl, ⟨h + 1, (c, [(T.first h (N.raw h t'), t'), (T.first h (N.raw h u), u)])⟩, ⟨⟨n1, lv, HB6.out, HB.out.2.to (hfr.below HZ.out.1 (fun k hk => ?_))⟩, hge, ?_, G'⟩, hflat, Nat.le_refl _, hfr, fun b hb => ?_⟩
    · rcases hk with rfl | hk
      · exact hge
      · exact HG.out.above k hk
    · show R ∉ N.ids (h + 1) _
      rw [hids]
      intro hm
      rcases List.mem_cons.1 hm with e | hm
      · exact HRC.out.1 e
      · exact HRN.out hm
    · have hb' : b ∈ N.ids (h + 1) ((c, [(T.first h (N.raw h t'), t'), (T.first h (N.raw h u), u)]) : Nat × List (Int × N h)) := hb
      rw [hids] at hb'
      rcases List.mem_cons.1 hb' with rfl | hb'
      · right; have := HSZ.out; omega
      · exact HO.out.ids b hb'
set_option maxHeartbeats 8000000 in
set_option maxRecDepth 100000 in
theorem tRemove_any (base R : Nat) (tb : List Int) (m : M) (key : Int) (w : World) (hT : Tree base R tb m w) (hh : m.h ≤ 1099511627775) :
    Calls Try.prog 73 #[.pointer (some ⟨R, 0, none⟩), .int .i64 key] w fun e w' => e = .returned (.tuple #[]) ∧ Turned base R tb m (if (tell (findL (rankOf tb) key m.raw)).2 = true then insL (rankOf tb) key 0 false m.raw else m.raw) w w' := by
  have HT := hid hT
  have HH := hid hh
  clear hT hh
  obtain ⟨X, hX⟩ : ∃ X, (if (tell (findL (rankOf tb) key m.raw)).2 = true then insL (rankOf tb) key 0 false m.raw else m.raw) = X := ⟨_, rfl⟩
  rw [hX]
  have HX := hid hX
  clear hX
  go_enter Try.func73, Try.ntmps73
  go_wp2_with fail
  refine (tGet_any base R tb m key w HT.out (by have := HH.out; omega)).mono ?_
  rintro e w1 ⟨rfl, hb⟩
  have HB1 := hid hb
  have HT1 := hid (HT.out.below hb)
  clear hb
  cases hg : (tell (findL (rankOf tb) key m.raw)).2 with
  | false =>
    go_wp2_with fail
    (try simp only [Exit.inBlock, Exit.then]); refine bodyPost_ret (results_none rfl _ _ _) rfl ?_
    refine ⟨rfl, m, HT1.out, by rw [← HX.out, hg]; rfl, Nat.le_succ _, Fr.new HB1.out, fun b hb => .inl hb⟩
  | true =>
    have HGG := hid hg
    clear hg
    obtain ⟨⟨n, lv, hB, hL⟩, g, ni, G⟩ := HT1.out
    obtain ⟨h, t⟩ := m
    have c0 : w1.cell? ⟨R, 0, none⟩ = some (.pointer (some ⟨N.blk h t, 0, none⟩)) := hB.cell 0
    have c1 : w1.cell? ⟨R, 1, none⟩ = some (.int .i64 h) := hB.cell 1
    have HB := hid (And.intro hB hL)
    have HG := hid G
    have HNI : Hid (R ∉ N.ids h t) := ni
    have HZ : Hid (base ≤ w1.heap.size ∧ h ≤ 1099511627775) := ⟨by have := hB.lt; omega, HH.out⟩
    clear hB hL g ni G
    go_upto_region 3 with fail
    refine wp_first_tail (.tmp 0) (some 15) 11 (by kernel_rfl) ⟨rfl, rfl, rfl⟩ (by kernel_rfl) (by kernel_rfl) (by kernel_rfl) (fun _ _ _ h => h) (by kernel_rfl) ?_
    simp only [tied, List.modify_succ_cons, List.modify_zero_cons, List.take_succ_cons, List.take_zero, List.drop_succ_cons, List.drop_zero]
    repeat still_step
    refine wpStill_nil ?_
    go_wp2_with fail
    refine (insert_any base R tb key 0 n h false _ lv h t w1.drew (HG.out.kept (fun _ _ => rfl)) HB.out.1 HNI.out (HB.out.2.drewN 1) HZ.out.1 (by have := HZ.out.2; omega)).mono ?_
    rintro e w2 ⟨t', u, rfl, O⟩
    have hf : T.find (rankOf tb) key h (N.raw h t) ≠ none := fun e => by
      have h1 := HGG.out
      rw [show (M.mk h t).raw = T.flat h (N.raw h t) from rfl, ← find_flat HG.out.row, e] at h1
      cases h1
    have hu : u = none := by
      have h1 := ins_none (k := key) (v := 0) (ok := false) HG.out.row HG.out.len hf
      rw [← O.raw] at h1
      cases u with
      | none => rfl
      | some u => cases h1
    subst hu
    have HO : Hid (Out tb key 0 false t t' none w1 w2) := ⟨O.raw, O.blk, O.mem, O.memu, O.nodup, O.ids, dr_fr O.fr⟩
    have HB2 : Hid (Blk w2 R #[.pointer (some ⟨N.blk h t, 0, none⟩), .int .i64 h, .int .i64 n, lv] 115) := hid (HB.out.1.fr HO.out.fr HNI.out)
    clear O c0 c1 hf
    have c2 : w2.cell? ⟨R, 2, none⟩ = some (.int .i64 n) := HB2.out.cell 2
    have f2 : w2.frozen? ⟨R, 2, none⟩ = false := HB2.out.free 2
    go_wp2_with fail
    (try simp only [Exit.inBlock, Exit.then]); refine bodyPost_end (results_none rfl _ _ _) rfl ?_
    obtain ⟨m', a1, a2, a3, a4, a5⟩ := put_none (n' := wrap64 (n - 1)) HT1.out HB.out.1 HB.out.2 HO.out
    refine ⟨rfl, m', a1, by rw [a2, ← HX.out, HGG.out]; rfl, a3, (Fr.new HB1.out).trans a4 (fun _ _ h => h), fun b hb => ?_⟩
    rcases a5 b hb with h1 | h1
    · exact .inl h1
    · exact .inr (Nat.le_trans HB1.out.size h1)
theorem New_any (base : Nat) (tb : List Int) (lv : Value) (w : World) (hL : LessS base w lv tb) (hb : base ≤ w.heap.size) :
    Calls Try.prog 52 #[lv] w fun e w' => ∃ R m, e = .returned (.pointer (some ⟨R, 0, none⟩)) ∧ Tree base R tb m w' ∧ m.raw = [] ∧ m.h = 0 ∧ (∀ b ∈ m.ids, w.heap.size ≤ b) ∧ w.heap.size ≤ R ∧ Below w.heap.size w w' := by
  obtain ⟨_, B, A, c, rfl, _, _⟩ := hL.now
  have HL : Hid (LessS base w (.func (.func 67) #[] #[.pointer (some ⟨B, 0, none⟩)]) tb) := hL
  have HB := hid hb
  clear hL hb
  go_enter Try.func52, Try.ntmps52
  go_wp2_with fail
  go_ret
  have hb := HB.out
  have b1 : Below w.heap.size w (w.alloc (.cells Try.zeroCells113 113)) := (Below.refl _ _).alloc (Nat.le_refl _) _
  have hN : Nd (w.alloc (.cells Try.zeroCells113 113)) w.heap.size 0 (fun _ => q0) := by
    rw [zero_cells]
    exact Blk.new w _ _
  have hs : (w.alloc (.cells Try.zeroCells113 113)).heap.size = w.heap.size + 1 := alloc_size _ _
  generalize w.alloc (.cells Try.zeroCells113 113) = W at b1 hN hs ⊢
  rw [← hs]
  have hm : ∀ b ∈ N.ids 0 ((w.heap.size, []) : Nat × List E), b = w.heap.size := fun b hb => by
    have hb' : b ∈ [w.heap.size] := hb
    exact List.mem_singleton.1 hb'
  refine ⟨W.heap.size, ⟨0, ((w.heap.size, []) : Nat × List E)⟩, rfl, ⟨⟨0, _, Blk.new W _ _, HL.out.to (below_le (b1.alloc (by omega) _) hb)⟩, by omega, fun h => ?_, ⟨⟨fun _ => q0, hN.alloc _, fun i x hx => by simp at hx⟩, by show [w.heap.size].Nodup; simp, fun b h => ?_, List.Pairwise.nil, by show 0 ≤ 63; omega, fun h => absurd rfl h⟩⟩, rfl, rfl, fun b h => ?_, by omega, b1.alloc (by omega) _⟩
  · have h' : W.heap.size = w.heap.size := hm _ h
    omega
  · have h' : b = w.heap.size := hm _ h
    omega
  · have h' : b = w.heap.size := hm _ h
    omega
end Go.Proofs.Ytjlcebgfknfelaa.Bt

namespace Go.Proofs.Ytjlcebgfknfelaa.Bt
open Go Go.RowKit Go.IntWalk Go.Proofs.Ytjlcebgfknfelaa.Hk Go.Proofs.Ytjlcebgfknfelaa.BtPure Go.Proofs.Ytjlcebgfknfelaa.Less Go.Proofs.YtjlcebgfknfelaaW.PrintWords Go.Proofs.YtjlcebgfknfelaaW.PrintLast Go.Proofs.YtjlcebgfknfelaaW.PrintMore
open Go.Proofs.Ytjlcebgfknfelaa.Row hiding hid alloc_size
open Go.Proofs.Ytjlcebgfknfelaa.Avl (LessS Acc own_ge Act3 Told4 actK toldK at_act infoTold told_flat told_rows less_any)
def stepT (tb : List Int) (t : List E) (a : Act3) : List E := if a.1 = 0 then insL (rankOf tb) a.2.1 a.2.2 true t else if a.1 = 1 then (if (tell (findL (rankOf tb) a.2.1 t)).2 = true then insL (rankOf tb) a.2.1 0 false t else t) else t
def tellT (tb : List Int) (t : List E) (a : Act3) : Told4 :=
  if a.1 = 2 then ((tell (findL (rankOf tb) a.2.1 t)).1, (tell (findL (rankOf tb) a.2.1 t)).2, [], []) else if a.1 = 4 then (0, false, keysV t, valsV t) else (0, false, [], [])
def runT (tb : List Int) : List E → List Act3 → List E
  | t, [] => t
  | t, a :: l => runT tb (stepT tb t a) l
def toldT (tb : List Int) : List E → List Act3 → List Told4
  | _, [] => []
  | t, a :: l => tellT tb t a :: toldT tb (stepT tb t a) l
theorem toldT_length (tb : List Int) : ∀ (l : List Act3) (t : List E), (toldT tb t l).length = l.length
  | [], _ => rfl
  | a :: l, t => by simp [toldT, toldT_length tb l]
/-- What holds between the steps of a script that began at w with the tree t0. -/
structure Inv (base R : Nat) (tb : List Int) (t0 : M) (w : World) (t : M) (out : Value) (rs : List Told4) (wr : World) : Prop where
  tree : Tree base R tb t wr
  ids : ∀ b ∈ t.ids, b ∈ t0.ids ∨ w.heap.size ≤ b
  row : Kd.S toldK 46 wr w.heap.size (fun b => b ≠ R ∧ b ∉ t.ids) out rs
  fr : Fr (fun b => b = R ∨ b ∈ t0.ids) w wr
section
variable {base R : Nat} {tb : List Int} {t0 t : M} {w wr W w' w1 : World} {out : Value} {rs : List Told4}
theorem Inv.below (h : Inv base R tb t0 w t out rs wr) (hb : Below wr.heap.size wr w') : Inv base R tb t0 w t out rs w' :=
  ⟨h.tree.below hb, h.ids, Kd.S_below h.row hb, h.fr.trans (S' := fun _ => False) ⟨hb.os, hb.tape, hb.output, hb.size, fun k hk _ => hb.block k hk⟩ (fun _ _ h => h.elim)⟩
theorem Inv.turned (h : Inv base R tb t0 w t out rs W) {raw' : List E} (hT : Turned base R tb t raw' W w') : ∃ t', t'.raw = raw' ∧ t'.h ≤ t.h + 1 ∧ Inv base R tb t0 w t' out rs w' := by
  obtain ⟨t', a1, a2, a0, a3, a4⟩ := hT
  refine ⟨t', a2, a0, a1, fun b hb => ?_, ?_, h.fr.trans a3 (fun n hn hk => ?_)⟩
  · rcases a4 b hb with h1 | h1
    · exact h.ids b h1
    · exact .inr (Nat.le_trans h.fr.size h1)
  · refine Kd.S_mono (Kd.S_step (Kd.S_bound h.row) (fun k hk hlt => a3.block k hlt (fun e => ?_))) (fun k hk => ⟨hk.1.1, fun hb => ?_⟩)
    · rcases e with e | e
      · exact hk.1.1 e
      · exact hk.1.2 e
    · rcases a4 k hb with h1 | h1
      · exact hk.1.2 h1
      · have := hk.2.2.1; omega
  · rcases hk with hk | hk
    · exact .inl hk
    · rcases h.ids n hk with h1 | h1
      · exact .inr h1
      · omega
/-- Behind the append of what a step tells. -/
theorem Inv.append (h : Inv base R tb t0 w t out rs W) (hb : base ≤ w.heap.size) {v1 : Value} {p : Told4} (hR : Kd.S toldK 46 w1 w.heap.size (fun b => b ≠ R ∧ b ∉ t.ids) v1 (rs ++ [p])) (hg : W.grownBy w1 out.ownBlock) :
    Inv base R tb t0 w t v1 (rs ++ [p]) w1 := by
  obtain ⟨_, inner, ho, _⟩ := Kd.S_R h.row
  have hlo : ∀ k, out.ownBlock = some k → w.heap.size ≤ k := fun k hk => (ho.lt k hk).1
  refine ⟨h.tree.kept ⟨hg.os, hg.tape, hg.output, hg.size, fun k hk => ?_⟩ (hg.block R h.tree.lt.1 (fun e => ((Kd.S_R h.row).1 R e.symm).1 rfl)) (fun b hx => hg.block b (h.tree.lt.2 b hx) (fun e => ((Kd.S_R h.row).1 b e.symm).2 hx)), h.ids, hR, grown_fr h.fr hg (fun k hk hlt => ?_)⟩
  · have hRs := h.tree.lt.1
    have hge := h.tree.ge
    exact hg.block k (by omega) (fun e => by have := hlo k e.symm; omega)
  · have := hlo k hk; omega
end
set_option maxHeartbeats 8000000 in
set_option maxRecDepth 100000 in
theorem btreeDo_any (base R : Nat) (tb : List Int) (t0 : M) (w : World) (A : Option Addr) (c : Nat) (l : List Act3) (hT : Tree base R tb t0 w) (hb : base ≤ w.heap.size) (hC : ∀ W, Below base w W → Kd.C actK W A l.length l)
    (hs : t0.h = 0 ∧ t0.raw = []) (hl : l.length ≤ 2147483647) :
    Calls Try.prog 51 #[.pointer (some ⟨R, 0, none⟩), .slice A l.length c] w fun e w' => ∃ t' v, e = .returned v ∧ t'.raw = runT tb t0.raw l ∧ Inv base R tb t0 w t' v (toldT tb t0.raw l) w' := by
  have HC : Hid (∀ W, Below base w W → Kd.C actK W A l.length l) := hC
  have HT : Hid (Tree base R tb t0 w) := hT
  have HB : Hid (base ≤ w.heap.size) := hb
  have HS0 := hid hs
  clear hC hT hb hs
  go_enter Try.func51, Try.ntmps51
  go_wp2_with fail
  go_loopg [5, 11] l.length (fun g v5 v11 wr => ∃ (i : Nat) (t : M) (rs : List Told4), v11 = .int .i64 i ∧ i ≤ l.length ∧ Hid (g + i = l.length) ∧ Hid (Inv base R tb t0 w t v5 rs wr ∧ rs.length = i ∧ rs ++ toldT tb t.raw (l.drop i) = toldT tb t0.raw l ∧ runT tb t.raw (l.drop i) = runT tb t0.raw l ∧ (t.h ≤ i ∧ t.raw.length ≤ i)))
  case atStart => exact ⟨0, t0, [], rfl, Nat.zero_le _, Nat.add_zero _, ⟨HT.out, fun b hb => .inl hb, Kd.S_nil .., Fr.refl _ _⟩, rfl, rfl, rfl, by rw [HS0.out.1]; exact Nat.le_refl _, by rw [HS0.out.2]; exact Nat.le_refl _⟩
  case round =>
    obtain ⟨i, t, rs, rfl, hi, HG, HI⟩ := hrel
    by_cases hlt : i < l.length
    · obtain ⟨ad, rfl, x0, x1, x2⟩ := at_act (HC.out wr (by
        have h := HI.out.1.fr
        have hg := HT.out.ge
        exact h.below HB.out (fun k hk => by
          rcases hk with rfl | hk
          · exact hg
          · exact HT.out.good.above k hk))) i hlt
      have HX : Hid (l.drop i = l[i] :: l.drop (i + 1)) := List.drop_eq_getElem_cons hlt
      generalize l[i] = x at x0 x1 x2 HX
      obtain ⟨d, k, v⟩ := x
      simp only at x0 x1 x2
      have HL := hid hlt
      have HW := hid (HI.out.1.below (((Below.refl _ _).alloc (Nat.le_refl _) (.cells #[.int .i64 d, .int .i64 k, .int .i64 v] 66)).alloc (by rw [alloc_size]; exact Nat.le_succ _) (.cells #[.int .i64 0, .bool false, .slice none 0 0, .slice none 0 0] 46)))
      have HLT := hid HI.out.1.tree.lt
      have HZ := hid HI.out.2
      obtain ⟨k1, rfl⟩ : ∃ k1, gk = k1 + 1 := ⟨gk - 1, by have := HG.out; omega⟩
      have HEV : Hid (t.h ≤ 1099511627775) := hid (by have := HZ.out.2.2.2.1; omega)
      have HXN : Hid (wr.heap.size + 1 ≠ R ∧ wr.heap.size + 1 ∉ t.ids) := ⟨by have := HLT.out.1; omega, fun h => by have := HLT.out.2 _ h; omega⟩
      clear hlt
      by_cases h0 : d = 0
      · subst h0
        go_wp2_with fail
        refine (tPut_any base R tb t k v _ HW.out.tree HEV.out).mono ?_
        rintro e w2 ⟨rfl, hT⟩
        obtain ⟨t', hraw, hh', hI⟩ := HW.out.turned hT
        have HH2 := hid hh'
        have hX : Blk w2 (wr.heap.size + 1) #[.int .i64 0, .bool false, .slice none 0 0, .slice none 0 0] 46 := by
          have h0_ := (Blk.new (wr.alloc (.cells #[.int .i64 0, .int .i64 k, .int .i64 v] 66)) #[.int .i64 0, .bool false, .slice none 0 0, .slice none 0 0] 46)
          rw [alloc_size] at h0_
          obtain ⟨_, _, _, _, a3, _⟩ := hT
          exact h0_.fr a3 (fun e => e.elim HXN.out.1 HXN.out.2)
        have e0 : w2.cell? ⟨wr.heap.size + 1, 0, none⟩ = some ((.int .i64 0)) := hX.cell 0
        have e1 : w2.cell? ⟨wr.heap.size + 1, 1, none⟩ = some ((.bool false)) := hX.cell 1
        have e2 : w2.cell? ⟨wr.heap.size + 1, 2, none⟩ = some ((.slice none 0 0)) := hX.cell 2
        have e3 : w2.cell? ⟨wr.heap.size + 1, 3, none⟩ = some ((.slice none 0 0)) := hX.cell 3
        have H2 := hid hI
        have HR := hid hraw
        clear hT hI hraw hh' hX x0 x1 x2
        go_wp2_with (first | (at_builtin; refine Kd.S_append toldK (w0 := w2) (W := w2) w.heap.size rfl (.tmp 47) (.tmp 49) 43 46 (.agg #[(.int .i64 0), (.bool false), (.slice none 0 0), (.slice none 0 0)]) 64 rfl Try.underlying43 infoTold rfl (by decide) (by omega) u5 rs (0, false, [], []) [(.int .i64 0), (.bool false), (.slice none 0 0), (.slice none 0 0)] (fun b => b ≠ R ∧ b ∉ t'.ids) (fun _ => False) rfl rfl (told_flat _ _ _ _) (fun _ hk => hk.elim) ?aF ?aO ?aB ?aS ?aL ?_; (case aF => exact fun k_ hk => by have h1 := H2.out.tree.lt; exact ⟨by omega, fun hb_ => by have := h1.2 _ hb_; omega⟩); (case aO => exact (Kd.S_mono H2.out.row (fun k_ hk => ⟨hk, fun h => h⟩))); (case aB => exact (Below.refl _ _)); (case aS => exact H2.out.fr.size); (case aL => have h1 := HZ.out.1; have h2 := HL.out; omega); intro v1 w3 ho hb hg hat))
        have HE := hid (H2.out.append HB.out ho hg)
        clear ho hb hg hat
        clear e0 e1 e2 e3
        go_wp2_with fail
        go_roundg k1
        case measure => omega
        case rel => exact ⟨i + 1, t', rs ++ [(0, false, [], [])], rfl, HL.out, by have := HG.out; show k1 + (i + 1) = _; omega, HE.out, by rw [List.length_append, HZ.out.1]; rfl, by rw [← HZ.out.2.1, HX.out, List.append_assoc]; rw [HR.out]; rfl, by rw [← HZ.out.2.2.1, HX.out]; rw [HR.out]; rfl, ⟨by have := HH2.out; have := HZ.out.2.2.2.1; omega, by rw [HR.out]; have h1 := (@len_insL (rankOf tb) k v true t.raw).1; have := HZ.out.2.2.2.2; omega⟩⟩
      · by_cases h1 : d = 1
        · subst h1
          go_wp2_with fail
          refine (tRemove_any base R tb t k _ HW.out.tree HEV.out).mono ?_
          rintro e w2 ⟨rfl, hT⟩
          obtain ⟨t', hraw, hh', hI⟩ := HW.out.turned hT
          have HH2 := hid hh'
          have hX : Blk w2 (wr.heap.size + 1) #[.int .i64 0, .bool false, .slice none 0 0, .slice none 0 0] 46 := by
            have h0_ := (Blk.new (wr.alloc (.cells #[.int .i64 1, .int .i64 k, .int .i64 v] 66)) #[.int .i64 0, .bool false, .slice none 0 0, .slice none 0 0] 46)
            rw [alloc_size] at h0_
            obtain ⟨_, _, _, _, a3, _⟩ := hT
            exact h0_.fr a3 (fun e => e.elim HXN.out.1 HXN.out.2)
          have e0 : w2.cell? ⟨wr.heap.size + 1, 0, none⟩ = some ((.int .i64 0)) := hX.cell 0
          have e1 : w2.cell? ⟨wr.heap.size + 1, 1, none⟩ = some ((.bool false)) := hX.cell 1
          have e2 : w2.cell? ⟨wr.heap.size + 1, 2, none⟩ = some ((.slice none 0 0)) := hX.cell 2
          have e3 : w2.cell? ⟨wr.heap.size + 1, 3, none⟩ = some ((.slice none 0 0)) := hX.cell 3
          have H2 := hid hI
          have HR := hid hraw
          clear hT hI hraw hh' hX x0 x1 x2
          go_wp2_with (first | (at_builtin; refine Kd.S_append toldK (w0 := w2) (W := w2) w.heap.size rfl (.tmp 47) (.tmp 49) 43 46 (.agg #[(.int .i64 0), (.bool false), (.slice none 0 0), (.slice none 0 0)]) 64 rfl Try.underlying43 infoTold rfl (by decide) (by omega) u5 rs (0, false, [], []) [(.int .i64 0), (.bool false), (.slice none 0 0), (.slice none 0 0)] (fun b => b ≠ R ∧ b ∉ t'.ids) (fun _ => False) rfl rfl (told_flat _ _ _ _) (fun _ hk => hk.elim) ?aF ?aO ?aB ?aS ?aL ?_; (case aF => exact fun k_ hk => by have h1 := H2.out.tree.lt; exact ⟨by omega, fun hb_ => by have := h1.2 _ hb_; omega⟩); (case aO => exact (Kd.S_mono H2.out.row (fun k_ hk => ⟨hk, fun h => h⟩))); (case aB => exact (Below.refl _ _)); (case aS => exact H2.out.fr.size); (case aL => have h1 := HZ.out.1; have h2 := HL.out; omega); intro v1 w3 ho hb hg hat))
          have HE := hid (H2.out.append HB.out ho hg)
          clear ho hb hg hat
          clear e0 e1 e2 e3
          go_wp2_with fail
          go_roundg k1
          case measure => omega
          case rel => exact ⟨i + 1, t', rs ++ [(0, false, [], [])], rfl, HL.out, by have := HG.out; show k1 + (i + 1) = _; omega, HE.out, by rw [List.length_append, HZ.out.1]; rfl, by rw [← HZ.out.2.1, HX.out, List.append_assoc]; rw [HR.out]; rfl, by rw [← HZ.out.2.2.1, HX.out]; rw [HR.out]; rfl, ⟨by have := HH2.out; have := HZ.out.2.2.2.1; omega, by rw [HR.out]; have h1 := (@len_insL (rankOf tb) k 0 false t.raw).1; have := HZ.out.2.2.2.2; split <;> omega⟩⟩
        · by_cases h2 : d = 2
          · subst h2
            go_wp2_with fail
            refine (tGet_any base R tb t k _ HW.out.tree (by have := HEV.out; omega)).mono ?_
            rintro e W2 ⟨rfl, hBW⟩
            have hB2 : Below wr.heap.size wr W2 := (((Below.refl _ _).alloc (Nat.le_refl _) _).alloc (by rw [alloc_size]; exact Nat.le_succ _) _).trans (below_le hBW (by rw [alloc_size, alloc_size]; omega))
            have hX0 : Blk W2 (wr.heap.size + 1) #[(.int .i64 0), (.bool false), (.slice none 0 0), (.slice none 0 0)] 46 := by
              have h0_ := (Blk.new (wr.alloc (.cells #[.int .i64 2, .int .i64 k, .int .i64 v] 66)) #[.int .i64 0, .bool false, .slice none 0 0, .slice none 0 0] 46)
              rw [alloc_size] at h0_
              exact h0_.below hBW (by rw [alloc_size, alloc_size]; omega)
            clear hBW
            have g0 : W2.cell? ⟨wr.heap.size + 1, 0, none⟩ = some (.int .i64 0) := hX0.cell 0
            have f0 : W2.frozen? ⟨wr.heap.size + 1, 0, none⟩ = false := hX0.free 0
            have g1 : W2.cell? ⟨wr.heap.size + 1, 1, none⟩ = some (.bool false) := hX0.cell 1
            have f1 : W2.frozen? ⟨wr.heap.size + 1, 1, none⟩ = false := hX0.free 1
            have HQ : Hid (Blk W2 (wr.heap.size + 1) #[(.int .i64 0), (.bool false), (.slice none 0 0), (.slice none 0 0)] 46 ∧ Below wr.heap.size wr W2) := ⟨hX0, hB2⟩
            clear hX0 hB2 x0 x1 x2
            go_upto_region 15 with fail
            obtain ⟨hX0, hB2⟩ := HQ.out
            have H2 : Hid (Inv base R tb t0 w t u5 rs ((W2.setCell ⟨wr.heap.size + 1, 0, none⟩ (.int .i64 (tell (findL (rankOf tb) k t.raw)).1)).setCell ⟨wr.heap.size + 1, 1, none⟩ (.bool (tell (findL (rankOf tb) k t.raw)).2))) := HI.out.1.below ((hB2.setCell (p := ⟨wr.heap.size + 1, 0, none⟩) (Nat.le_succ _) (.int .i64 (tell (findL (rankOf tb) k t.raw)).1)).setCell (p := ⟨wr.heap.size + 1, 1, none⟩) (Nat.le_succ _) (.bool (tell (findL (rankOf tb) k t.raw)).2))
            have hX : Blk ((W2.setCell ⟨wr.heap.size + 1, 0, none⟩ (.int .i64 (tell (findL (rankOf tb) k t.raw)).1)).setCell ⟨wr.heap.size + 1, 1, none⟩ (.bool (tell (findL (rankOf tb) k t.raw)).2)) (wr.heap.size + 1) #[(.int .i64 (tell (findL (rankOf tb) k t.raw)).1), (.bool (tell (findL (rankOf tb) k t.raw)).2), (.slice none 0 0), (.slice none 0 0)] 46 := ((hX0.set 0 (.int .i64 (tell (findL (rankOf tb) k t.raw)).1)).set 1 (.bool (tell (findL (rankOf tb) k t.raw)).2))
            have e0 : ((W2.setCell ⟨wr.heap.size + 1, 0, none⟩ (.int .i64 (tell (findL (rankOf tb) k t.raw)).1)).setCell ⟨wr.heap.size + 1, 1, none⟩ (.bool (tell (findL (rankOf tb) k t.raw)).2)).cell? ⟨wr.heap.size + 1, 0, none⟩ = some ((.int .i64 (tell (findL (rankOf tb) k t.raw)).1)) := hX.cell 0
            have e1 : ((W2.setCell ⟨wr.heap.size + 1, 0, none⟩ (.int .i64 (tell (findL (rankOf tb) k t.raw)).1)).setCell ⟨wr.heap.size + 1, 1, none⟩ (.bool (tell (findL (rankOf tb) k t.raw)).2)).cell? ⟨wr.heap.size + 1, 1, none⟩ = some ((.bool (tell (findL (rankOf tb) k t.raw)).2)) := hX.cell 1
            have e2 : ((W2.setCell ⟨wr.heap.size + 1, 0, none⟩ (.int .i64 (tell (findL (rankOf tb) k t.raw)).1)).setCell ⟨wr.heap.size + 1, 1, none⟩ (.bool (tell (findL (rankOf tb) k t.raw)).2)).cell? ⟨wr.heap.size + 1, 2, none⟩ = some ((.slice none 0 0)) := hX.cell 2
            have e3 : ((W2.setCell ⟨wr.heap.size + 1, 0, none⟩ (.int .i64 (tell (findL (rankOf tb) k t.raw)).1)).setCell ⟨wr.heap.size + 1, 1, none⟩ (.bool (tell (findL (rankOf tb) k t.raw)).2)).cell? ⟨wr.heap.size + 1, 3, none⟩ = some ((.slice none 0 0)) := hX.cell 3
            clear hX hX0 hB2 HQ f0 g0 f1 g1
            generalize ((W2.setCell ⟨wr.heap.size + 1, 0, none⟩ (.int .i64 (tell (findL (rankOf tb) k t.raw)).1)).setCell ⟨wr.heap.size + 1, 1, none⟩ (.bool (tell (findL (rankOf tb) k t.raw)).2)) = w2 at H2 e0 e1 e2 e3 ⊢
            have HS : Hid (stepT tb t.raw (2, k, v) = t.raw ∧ tellT tb t.raw (2, k, v) = ((tell (findL (rankOf tb) k t.raw)).1, (tell (findL (rankOf tb) k t.raw)).2, [], [])) := ⟨rfl, rfl⟩
            go_wp2_with (first | (at_builtin; refine Kd.S_append toldK (w0 := w2) (W := w2) w.heap.size rfl (.tmp 47) (.tmp 49) 43 46 (.agg #[(.int .i64 0), (.bool false), (.slice none 0 0), (.slice none 0 0)]) 64 rfl Try.underlying43 infoTold rfl (by decide) (by omega) u5 rs ((tell (findL (rankOf tb) k t.raw)).1, (tell (findL (rankOf tb) k t.raw)).2, [], []) [(.int .i64 (tell (findL (rankOf tb) k t.raw)).1), (.bool (tell (findL (rankOf tb) k t.raw)).2), (.slice none 0 0), (.slice none 0 0)] (fun b => b ≠ R ∧ b ∉ t.ids) (fun _ => False) rfl rfl (told_flat _ _ _ _) (fun _ hk => hk.elim) ?aF ?aO ?aB ?aS ?aL ?_; (case aF => exact fun k_ hk => by have h1 := H2.out.tree.lt; exact ⟨by omega, fun hb_ => by have := h1.2 _ hb_; omega⟩); (case aO => exact (Kd.S_mono H2.out.row (fun k_ hk => ⟨hk, fun h => h⟩))); (case aB => exact (Below.refl _ _)); (case aS => exact H2.out.fr.size); (case aL => have h1 := HZ.out.1; have h2 := HL.out; omega); intro v1 w3 ho hb hg hat))
            have HE := hid (H2.out.append HB.out ho hg)
            clear ho hb hg hat
            clear e0 e1 e2 e3
            go_wp2_with fail
            go_roundg k1
            case measure => omega
            case rel => exact ⟨i + 1, t, rs ++ [((tell (findL (rankOf tb) k t.raw)).1, (tell (findL (rankOf tb) k t.raw)).2, [], [])], rfl, HL.out, by have := HG.out; show k1 + (i + 1) = _; omega, HE.out, by rw [List.length_append, HZ.out.1]; rfl, by rw [← HZ.out.2.1, HX.out, List.append_assoc]; rw [← HS.out.2]; show _ = rs ++ (_ :: toldT tb (stepT tb t.raw _) _); rw [HS.out.1]; rfl, by rw [← HZ.out.2.2.1, HX.out]; show _ = runT tb (stepT tb t.raw _) _; rw [HS.out.1], ⟨Nat.le_succ_of_le HZ.out.2.2.2.1, Nat.le_succ_of_le HZ.out.2.2.2.2⟩⟩
          · by_cases h4 : d = 4
            · subst h4
              have HA : Hid (Acc (wr.heap.size + 2) (wr.heap.size + 1) 0 false [] [] ((wr.alloc (.cells #[.int .i64 4, .int .i64 k, .int .i64 v] 66)).alloc (.cells #[.int .i64 0, .bool false, .slice none 0 0, .slice none 0 0] 46))) := by
                have h0_ := (Blk.new (wr.alloc (.cells #[.int .i64 4, .int .i64 k, .int .i64 v] 66)) #[.int .i64 0, .bool false, .slice none 0 0, .slice none 0 0] 46)
                rw [alloc_size] at h0_
                exact ⟨_, _, h0_, Nat.lt_succ_self _, by rw [alloc_size, alloc_size]; exact Nat.le_refl _, Kd.R_nil .., Kd.R_nil ..⟩
              go_wp2_with fail
              refine (tEach_any base R tb t (wr.heap.size + 2) (wr.heap.size + 1) 0 false _ HW.out.tree (fun b hb => by have := HLT.out.2 b hb; omega) HA.out (by have := HZ.out.2.2.2.2; have := HL.out; omega) (by have := HEV.out; omega)).mono ?_
              rintro e w2 ⟨rfl, hA, hF⟩
              obtain ⟨K, V, hX, _, hN2, hK, hV⟩ := hA
              obtain ⟨AK, cK, hq⟩ := Kd.R_slice hK
              subst hq
              obtain ⟨AV, cV, hq⟩ := Kd.R_slice hV
              subst hq
              have HO : Hid (∀ k_, u5.ownBlock = some k_ → k_ < wr.heap.size) := fun k_ hk => (Kd.S_lt HI.out.1.row k_ hk)
              have hB2 : Below wr.heap.size wr w2 := (((Below.refl _ _).alloc (Nat.le_refl _) _).alloc (by rw [alloc_size]; exact Nat.le_succ _) _).trans ⟨hF.os, hF.tape, hF.output, hF.size, fun k_ hk => hF.block k_ (by rw [alloc_size, alloc_size]; omega) (fun e_ => by rcases e_ with e_ | e_ <;> omega)⟩
              have H2 := hid (HI.out.1.below hB2)
              have HS2 : Hid (Kd.S toldK 46 w2 w.heap.size (fun k_ => (k_ ≠ R ∧ k_ ∉ t.ids) ∧ ¬ wr.heap.size + 2 ≤ k_) u5 rs) := Kd.S_below (Kd.S_mono (Kd.S_bound HI.out.1.row) (fun k_ hk => ⟨hk.1, by have := hk.2.2.1; omega⟩)) hB2
              have HS : Hid (stepT tb t.raw (4, k, v) = t.raw ∧ tellT tb t.raw (4, k, v) = (0, false, keysV t.raw, valsV t.raw)) := ⟨rfl, rfl⟩
              have HM := hid (told_rows (base := w.heap.size) (by have := H2.out.fr.size; have := HI.out.1.fr.size; omega) hK hV 0 false)
              have e0 : w2.cell? ⟨wr.heap.size + 1, 0, none⟩ = some (.int .i64 0) := hX.cell 0
              have e1 : w2.cell? ⟨wr.heap.size + 1, 1, none⟩ = some (.bool false) := hX.cell 1
              have e2 : w2.cell? ⟨wr.heap.size + 1, 2, none⟩ = some (.slice AK (keysV t.raw).length cK) := hX.cell 2
              have e3 : w2.cell? ⟨wr.heap.size + 1, 3, none⟩ = some (.slice AV (valsV t.raw).length cV) := hX.cell 3
              clear hX hN2 hK hV hF hB2 x0 x1 x2
              go_wp2_with (first | (at_builtin; refine Kd.S_append toldK (w0 := w2) (W := w2) w.heap.size rfl (.tmp 47) (.tmp 49) 43 46 (.agg #[(.int .i64 0), (.bool false), (.slice none 0 0), (.slice none 0 0)]) 64 rfl Try.underlying43 infoTold rfl (by decide) (by omega) u5 rs (0, false, keysV t.raw, valsV t.raw) [.int .i64 0, .bool false, .slice AK (keysV t.raw).length cK, .slice AV (valsV t.raw).length cV] (fun b => b ≠ R ∧ b ∉ t.ids) (fun k_ => wr.heap.size + 2 ≤ k_) rfl rfl HM.out (fun k_ hk => ⟨⟨by have := HLT.out.1; omega, fun hb_ => by have := HLT.out.2 _ hb_; omega⟩, fun e_ => by have := HO.out k_ e_.symm; omega⟩) ?aF ?aO ?aB ?aS ?aL ?_; (case aF => exact fun k_ hk => by have h1 := H2.out.tree.lt; exact ⟨by omega, fun hb_ => by have := h1.2 _ hb_; omega⟩); (case aO => exact HS2.out); (case aB => exact (Below.refl _ _)); (case aS => exact H2.out.fr.size); (case aL => have h1 := HZ.out.1; have h2 := HL.out; omega); intro v1 w3 ho hb hg hat))
              have HE := hid (H2.out.append HB.out ho hg)
              clear ho hb hg hat
              clear e0 e1 e2 e3
              go_wp2_with fail
              go_roundg k1
              case measure => omega
              case rel => exact ⟨i + 1, t, rs ++ [(0, false, keysV t.raw, valsV t.raw)], rfl, HL.out, by have := HG.out; show k1 + (i + 1) = _; omega, HE.out, by rw [List.length_append, HZ.out.1]; rfl, by rw [← HZ.out.2.1, HX.out, List.append_assoc]; rw [← HS.out.2]; show _ = rs ++ (_ :: toldT tb (stepT tb t.raw _) _); rw [HS.out.1]; rfl, by rw [← HZ.out.2.2.1, HX.out]; show _ = runT tb (stepT tb t.raw _) _; rw [HS.out.1], ⟨Nat.le_succ_of_le HZ.out.2.2.2.1, Nat.le_succ_of_le HZ.out.2.2.2.2⟩⟩
            · have H2 : Hid (Inv base R tb t0 w t u5 rs (((wr.alloc (.cells #[.int .i64 d, .int .i64 k, .int .i64 v] 66)).alloc (.cells #[.int .i64 0, .bool false, .slice none 0 0, .slice none 0 0] 46)))) := HI.out.1.below (((Below.refl _ _).alloc (Nat.le_refl _) _).alloc (by rw [alloc_size]; exact Nat.le_succ _) _)
              have HS : Hid (stepT tb t.raw (d, k, v) = t.raw ∧ tellT tb t.raw (d, k, v) = (0, false, [], [])) := ⟨(if_neg h0).trans (if_neg h1), (if_neg h2).trans (if_neg h4)⟩
              have hX : Blk (((wr.alloc (.cells #[.int .i64 d, .int .i64 k, .int .i64 v] 66)).alloc (.cells #[.int .i64 0, .bool false, .slice none 0 0, .slice none 0 0] 46))) (wr.heap.size + 1) #[(.int .i64 0), (.bool false), (.slice none 0 0), (.slice none 0 0)] 46 := by
                have h0_ := Blk.new (wr.alloc (.cells #[.int .i64 d, .int .i64 k, .int .i64 v] 66)) #[(.int .i64 0), (.bool false), (.slice none 0 0), (.slice none 0 0)] 46
                rw [alloc_size] at h0_
                exact h0_
              have e0 : (((wr.alloc (.cells #[.int .i64 d, .int .i64 k, .int .i64 v] 66)).alloc (.cells #[.int .i64 0, .bool false, .slice none 0 0, .slice none 0 0] 46))).cell? ⟨wr.heap.size + 1, 0, none⟩ = some ((.int .i64 0)) := hX.cell 0
              have e1 : (((wr.alloc (.cells #[.int .i64 d, .int .i64 k, .int .i64 v] 66)).alloc (.cells #[.int .i64 0, .bool false, .slice none 0 0, .slice none 0 0] 46))).cell? ⟨wr.heap.size + 1, 1, none⟩ = some ((.bool false)) := hX.cell 1
              have e2 : (((wr.alloc (.cells #[.int .i64 d, .int .i64 k, .int .i64 v] 66)).alloc (.cells #[.int .i64 0, .bool false, .slice none 0 0, .slice none 0 0] 46))).cell? ⟨wr.heap.size + 1, 2, none⟩ = some ((.slice none 0 0)) := hX.cell 2
              have e3 : (((wr.alloc (.cells #[.int .i64 d, .int .i64 k, .int .i64 v] 66)).alloc (.cells #[.int .i64 0, .bool false, .slice none 0 0, .slice none 0 0] 46))).cell? ⟨wr.heap.size + 1, 3, none⟩ = some ((.slice none 0 0)) := hX.cell 3
              clear hX
              go_upto_region 15 with fail
              generalize ((wr.alloc (.cells #[.int .i64 d, .int .i64 k, .int .i64 v] 66)).alloc (.cells #[.int .i64 0, .bool false, .slice none 0 0, .slice none 0 0] 46)) = w2 at H2 e0 e1 e2 e3 ⊢
              clear x0 x1 x2
              go_wp2_with (first | (at_builtin; refine Kd.S_append toldK (w0 := w2) (W := w2) w.heap.size rfl (.tmp 47) (.tmp 49) 43 46 (.agg #[(.int .i64 0), (.bool false), (.slice none 0 0), (.slice none 0 0)]) 64 rfl Try.underlying43 infoTold rfl (by decide) (by omega) u5 rs (0, false, [], []) [(.int .i64 0), (.bool false), (.slice none 0 0), (.slice none 0 0)] (fun b => b ≠ R ∧ b ∉ t.ids) (fun _ => False) rfl rfl (told_flat _ _ _ _) (fun _ hk => hk.elim) ?aF ?aO ?aB ?aS ?aL ?_; (case aF => exact fun k_ hk => by have h1 := H2.out.tree.lt; exact ⟨by omega, fun hb_ => by have := h1.2 _ hb_; omega⟩); (case aO => exact (Kd.S_mono H2.out.row (fun k_ hk => ⟨hk, fun h => h⟩))); (case aB => exact (Below.refl _ _)); (case aS => exact H2.out.fr.size); (case aL => have h1 := HZ.out.1; have h2 := HL.out; omega); intro v1 w3 ho hb hg hat))
              have HE := hid (H2.out.append HB.out ho hg)
              clear ho hb hg hat
              go_wp2_with fail
              go_roundg k1
              case measure => omega
              case rel => exact ⟨i + 1, t, rs ++ [(0, false, [], [])], rfl, HL.out, by have := HG.out; show k1 + (i + 1) = _; omega, HE.out, by rw [List.length_append, HZ.out.1]; rfl, by rw [← HZ.out.2.1, HX.out, List.append_assoc]; rw [← HS.out.2]; show _ = rs ++ (_ :: toldT tb (stepT tb t.raw _) _); rw [HS.out.1]; rfl, by rw [← HZ.out.2.2.1, HX.out]; show _ = runT tb (stepT tb t.raw _) _; rw [HS.out.1], ⟨Nat.le_succ_of_le HZ.out.2.2.2.1, Nat.le_succ_of_le HZ.out.2.2.2.2⟩⟩
    · have e : i = l.length := by omega
      subst e
      have HF : Hid (rs = toldT tb t0.raw l ∧ t.raw = runT tb t0.raw l) := by
        have h1 := HI.out.2.2.1
        have h2 := HI.out.2.2.2.1
        rw [List.drop_length] at h1 h2
        exact ⟨by simpa [toldT] using h1, h2⟩
      go_wp2_with fail
      go_ret
      exact ⟨t, _, rfl, HF.out.2, HF.out.1 ▸ HI.out.1⟩
set_option maxRecDepth 100000 in
theorem BtreeRun_any (A0 : Option Addr) (c0 : Nat) (tb : List Int) (A : Option Addr) (c : Nat) (l : List Act3) (w : World) (h0 : Kd.C (Kd.int .i64) w A0 tb.length tb) (hn : tb.length ≤ 2147483647) (hC : Kd.C actK w A l.length l) (hl : l.length ≤ 2147483647) :
    Calls Try.prog 33 #[.slice A0 tb.length c0, .slice A l.length c] w fun e w' => ∃ v, e = .returned v ∧ Kd.S toldK 46 w' w.heap.size (fun _ => True) v (toldT tb [] l) ∧ Below w.heap.size w w' := by
  have H0 := hid h0
  have HC := hid hC
  clear h0 hC
  go_enter Try.func33, Try.ntmps33
  go_wp2_with fail
  refine (less_any A0 c0 tb w H0.out (by omega)).mono ?_
  rintro e w1 ⟨lv, rfl, hw, hL⟩
  have HL := hid hL
  have HB1 : Hid (Below w.heap.size w w1) := by rw [hw]; exact (Below.refl _ _).alloc (Nat.le_refl _) _
  clear hL hw
  go_wp2_with fail
  refine (New_any w1.heap.size tb lv w1 HL.out (Nat.le_refl _)).mono ?_
  rintro e w2 ⟨R, t0, rfl, hT, hraw0, hh0, hids0, _, hB⟩
  have HT := hid hT
  have H00 := hid (And.intro hh0 hraw0)
  have HID := hid hids0
  clear hh0 hraw0 hids0
  have HB2 := hid hB
  clear hT hB
  go_wp2_with fail
  refine (btreeDo_any w1.heap.size R tb t0 w2 A c l HT.out HB2.out.size (fun W hW => ?_) H00.out hl).mono ?_
  · exact Kd.C_below HC.out ((below_then HB1.out HB1.out.size HB2.out).trans ⟨hW.os, hW.tape, hW.output, hW.size, fun k hk => hW.block k (Nat.lt_of_lt_of_le hk HB1.out.size)⟩)
  rintro e w3 ⟨t', v, rfl, hraw, hI⟩
  rw [H00.out.2] at hI
  have HI := hid hI
  clear hI hraw
  go_wp2_with fail
  go_ret
  have b1 := HB1.out
  have b2 := HB2.out
  have b3 : Below w1.heap.size w2 w3 := HI.out.fr.below b2.size (fun k hk => by
    rcases hk with rfl | hk
    · exact HT.out.ge
    · exact HID.out _ hk)
  exact ⟨_, rfl, Kd.S_mono (Kd.S_lower HI.out.row (Nat.le_trans b1.size b2.size)) (fun _ _ => trivial), (below_then b1 b1.size b2).trans ⟨b3.os, b3.tape, b3.output, b3.size, fun k hk => b3.block k (Nat.lt_of_lt_of_le hk b1.size)⟩⟩
end Go.Proofs.Ytjlcebgfknfelaa.Bt
