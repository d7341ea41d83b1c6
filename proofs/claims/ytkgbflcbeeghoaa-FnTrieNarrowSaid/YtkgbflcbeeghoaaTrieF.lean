/- Bytes that are put to and cut again: append that leaves what stands ahead. Of no program. -/
import Derived.Test.YtkgbflcbeeghoaaWMore
import Derived.Test.YtkgbflcbeeghoaaWTab
import Derived.Test.YtkgbflcbeeghoaaHk2
import Derived.ArgAppend
import Derived.Lib.ConvBytes
namespace Go.Proofs.Ytkgbflcbeeghoaa.Pre
open Go Go.RowKit Go.Proofs.Ytkgbflcbeeghoaa.Hk Go.Proofs.YtkgbflcbeeghoaaW.PrintWords Go.Proofs.YtkgbflcbeeghoaaW.PrintLast Go.Proofs.YtkgbflcbeeghoaaW.PrintMore
abbrev bv (b : UInt8) : Value := .int .u8 (b.toNat : Int)
/-- Bytes at the head of a block of bytes, with room behind that may be written. -/
def Lay (E : TypeId) (w : World) (base g n c : Nat) (ps : List UInt8) : Prop :=
  base ≤ g ∧ n = ps.length ∧ n ≤ c ∧ ∃ cur m, w.heap[g]? = some (.cells cur E m) ∧ c ≤ cur.size ∧ (∀ j, j < n → cur[j]? = (ps[j]?).map bv) ∧ ∀ j, j < c → w.frozen? ⟨g, j, none⟩ = false
def Pre (E : TypeId) (w : World) (base : Nat) (v : Value) (ps : List UInt8) : Prop :=
  (v = .slice none 0 0 ∧ ps = []) ∨ ∃ g n c, v = .slice (some ⟨g, 0, none⟩) n c ∧ Lay E w base g n c ps
section
variable {E : TypeId} {w w1 : World} {base g n c : Nat} {v : Value} {ps : List UInt8}
theorem Lay.lt (h : Lay E w base g n c ps) : g < w.heap.size := by
  obtain ⟨_, _, _, cur, m, hb, _⟩ := h
  exact lt_of_block hb
theorem Lay.same (h : Lay E w base g n c ps) (hs : w1.heap[g]? = w.heap[g]?) : Lay E w1 base g n c ps := by
  obtain ⟨h1, h2, h3, cur, m, hb, h4, h5, h6⟩ := h
  exact ⟨h1, h2, h3, cur, m, hs.trans hb, h4, h5, fun j hj => by rw [World.frozen?_of_block (w := w) hs]; exact h6 j hj⟩
theorem Pre.below (h : Pre E w base v ps) (hB : Below w.heap.size w w1) : Pre E w1 base v ps := by
  rcases h with h | ⟨g, n, c, e, h⟩
  · exact .inl h
  · exact .inr ⟨g, n, c, e, h.same (hB.block g h.lt)⟩
theorem Pre.step {row : Option Nat} (h : Pre E w base v ps) (hg : w.grownBy w1 row) (hn : ∀ k, v.ownBlock = some k → some k ≠ row) : Pre E w1 base v ps := by
  rcases h with h | ⟨g, n, c, e, h⟩
  · exact .inl h
  · exact .inr ⟨g, n, c, e, h.same (hg.block g h.lt (hn g (by rw [e]; rfl)))⟩
theorem Pre.typed (h : Pre E w base v ps) : ∀ k, v.ownBlock = some k → base ≤ k ∧ k < w.heap.size ∧ ∃ cs m, w.heap[k]? = some (.cells cs E m) := fun k hk => by
  rcases h with ⟨e, _⟩ | ⟨g, n, c, e, h⟩
  · rw [e] at hk; cases hk
  · rw [e] at hk
    injection hk with hk
    have hk' : g = k := hk
    subst hk'
    refine ⟨h.1, h.lt, ?_⟩
    obtain ⟨_, _, _, cur, m, hb, _⟩ := h
    exact ⟨cur, m, hb⟩
theorem Pre.slice (h : Pre E w base v ps) : ∃ A c, v = .slice A ps.length c := by
  rcases h with ⟨e, e2⟩ | ⟨g, n, c, e, h⟩
  · exact ⟨none, 0, by rw [e, e2]; rfl⟩
  · exact ⟨_, c, by rw [e, h.2.1]⟩
theorem set_block {cur : Array Value} {t : TypeId} {m : Nat × Nat} (hb : w.heap[g]? = some (.cells cur t m)) (i : Nat) (u : Value) : (w.setCell ⟨g, i, none⟩ u).heap[g]? = some (.cells (cur.setIfInBounds i u) t m) := by
  have hlt := lt_of_block hb
  have h' : w.heap[g] = .cells cur t m := by simpa [Array.getElem?_eq_getElem hlt] using hb
  show (w.heap.modify g _)[g]? = _
  rw [Array.getElem?_eq_getElem (by simpa using hlt), Array.getElem_modify_self, h']
  rfl
theorem Lay.cells (h : Lay E w base g n c ps) (j : Nat) (hj : j < n) : w.cell? ⟨g, j, none⟩ = (ps[j]?).map bv := by
  obtain ⟨_, _, _, cur, m, hb, _, h5, _⟩ := h
  simp only [World.cell?, hb]
  exact h5 j hj
theorem Pre.of_own (h : w.ownsRow base E 1 v ps.length (ps.map bv)) : Pre E w base v ps := by
  obtain ⟨hl, h⟩ := h
  rcases h with ⟨e, h0⟩ | ⟨g, cap, cur, e, hb, hh, hc, _, hs, ht⟩
  · exact .inl ⟨e, List.length_eq_zero_iff.1 h0⟩
  · refine .inr ⟨g, ps.length, cap, e, hb, rfl, hc, cur, (0, 0), hh, by omega, fun j hj => ?_, fun j _ => by simp [World.frozen?, hh]⟩
    have e1 : (cur.toList.take (ps.length * 1))[j]? = (ps.map bv)[j]? := by rw [ht]
    rw [List.getElem?_take, if_pos (by omega), List.getElem?_map] at e1
    simpa using e1
end
/-- A row put to: in its place with room, or made anew. -/
def After (w : World) (v v1 : Value) : Prop := (∃ g n c, v = .slice (some ⟨g, 0, none⟩) n c ∧ v1 = .slice (some ⟨g, 0, none⟩) (n + 1) c) ∨ ∃ b, v1.ownBlock = some b ∧ w.heap.size ≤ b
theorem After.at_ {w : World} {v v1 : Value} (h : After w v v1) : v1.ownBlock = v.ownBlock ∨ ∃ b, v1.ownBlock = some b ∧ w.heap.size ≤ b := by
  rcases h with ⟨g, n, c, e, e1⟩ | h
  · exact .inl (by rw [e, e1]; rfl)
  · exact .inr h
/-- What the longer row shows of the elder. -/
theorem After.back {E : TypeId} {w w1 w2 : World} {base : Nat} {v v1 : Value} {ps : List UInt8} {x : UInt8} (h : After w v v1) (h0 : Pre E w base v ps) (hp : Pre E w1 base v ps) (h1 : Pre E w2 base v1 (ps ++ [x])) (hs : ∀ k, k < w1.heap.size → some k = v.ownBlock → some k ≠ v1.ownBlock → w2.heap[k]? = w1.heap[k]?) : Pre E w2 base v ps := by
  rcases h with ⟨g, n, c, e, e1⟩ | ⟨b, hb, hle⟩
  · rcases h1 with ⟨e2, _⟩ | ⟨g2, n2, c2, e2, h2⟩
    · rw [e1] at e2; injection e2 with e2; cases e2
    · rw [e1] at e2
      injection e2 with e3 e4 e5
      injection e3 with e3
      injection e3 with e3
      subst e3 e4 e5
      obtain ⟨k1, k2, k3, cur, m, hb, h4, h5, h6⟩ := h2
      rw [List.length_append, List.length_singleton] at k2
      refine .inr ⟨g, n, c, e, k1, by omega, by omega, cur, m, hb, h4, fun j hj => ?_, h6⟩
      rw [h5 j (by omega), List.getElem?_append_left (by omega)]
  · rcases hp with hp | ⟨g, n, c, e, hp⟩
    · exact .inl hp
    · refine .inr ⟨g, n, c, e, hp.same (hs g hp.lt (by rw [e]; rfl) (fun q => ?_))⟩
      rw [hb] at q
      injection q with q
      rcases h0 with ⟨e0, _⟩ | ⟨g0, n0, c0, e0, h0⟩
      · rw [e] at e0; injection e0 with e0; cases e0
      · rw [e] at e0
        injection e0 with e3 e4 e5
        injection e3 with e3
        injection e3 with e3
        have := h0.lt
        omega
/-- Such bytes as a text. -/
theorem Pre.text {E : TypeId} {w : World} {base : Nat} {v : Value} {ps : List UInt8} (h : Pre E w base v ps) (hl : ps.length ≤ 140737488355328) : ∃ A c, v = .slice A ps.length c ∧ (Kd.int .u8).C w A ps.length (ps.map (fun b => (b.toNat : Int))) := by
  rcases h with ⟨e, e2⟩ | ⟨g, n, c, e, h⟩
  · subst e2
    exact ⟨none, 0, e, Kd.C_of_reads (enc := Value.int .u8) (d := (0 : Int)) (h1 := fun _ => rfl) ⟨rfl, by simp, fun h => absurd h (by simp)⟩⟩
  · have hn := h.2.1
    subst hn
    refine ⟨_, c, e, Kd.C_of_reads (enc := Value.int .u8) (d := (0 : Int)) (h1 := fun _ => rfl) ⟨by simp, by omega, fun _ => ⟨_, rfl, fun j hj => ?_⟩⟩⟩
    rw [Addr.add_lit]
    simp only [Nat.zero_add]
    rw [h.cells j hj]
    simp [hj, List.getD_eq_getElem?_getD]
theorem text_nums (ps : List UInt8) : strOfNums (ps.map (fun b => (b.toNat : Int))) = ⟨ps.toArray⟩ := by
  simp [strOfNums, Function.comp_def]
variable {P : Program}
/-- append of one byte: the new bytes, and the old ones as they were. -/
theorem run_keep {E t ty : TypeId} {w : World} {base : Nat} {v : Value} {ps : List UInt8} (ht : P.underlying t = some (.slice E)) (hinfo : (P.info? E).map (fun i => (i.zero, i.size, i.bytes)) = some (some (.int .u8 0), 1, 1))
    (h : Pre E w base v ps) (hbase : base ≤ w.heap.size) (q : Nat) (x : UInt8) (hx : w.cell? ⟨q, 0, none⟩ = some (bv x)) (hl : ps.length + 1 ≤ 140737488355328) :
    ∃ v1 w1, (Builtin.append_ #[t, t] ty #[v, .slice (some ⟨q, 0, none⟩) 1 1]).run P w = .ok v1 w1 ∧ Pre E w1 base v1 (ps ++ [x]) ∧ Pre E w1 base v ps ∧ w.grownBy w1 v.ownBlock ∧ After w v v1 := by
  obtain ⟨i, hi, hzz⟩ := Option.map_eq_some_iff.1 hinfo
  simp only [Prod.mk.injEq] at hzz
  obtain ⟨hz, hsz, hby⟩ := hzz
  have hmax : ps.length + 1 ≤ maxLen := by unfold maxLen; omega
  have hnews : ∀ j u, [bv x][j]? = some u → w.cell? ((⟨q, 0, none⟩ : Addr).add j) = some u := by
    intro j u hj
    match j, hj with
    | 0, hj =>
      simp only [List.getElem?_cons_zero, Option.some.injEq] at hj
      rw [Addr.add_zero', hx, hj]
  have own : ∀ v' w', w'.ownsRow w.heap.size E 1 v' (ps.length + 1) (ps.map bv ++ [bv x]) → Pre E w' base v' (ps ++ [x]) := by
    intro v' w' ho
    have e1 : ps.map bv ++ [bv x] = (ps ++ [x]).map bv := by simp
    have e2 : ps.length + 1 = (ps ++ [x]).length := by simp
    rw [e1, e2] at ho
    rcases Pre.of_own ho with k | ⟨g, n, c, e, k⟩
    · exact .inl k
    · exact .inr ⟨g, n, c, e, Nat.le_trans hbase k.1, k.2⟩
  have new : ∀ (v' : Value) (w' : World) (m : Nat) (cs : List Value), w'.ownsRow w.heap.size E 1 v' (m + 1) cs → ∃ b, v'.ownBlock = some b ∧ w.heap.size ≤ b := by
    intro v' w' m cs ho
    rcases ho.2 with ⟨_, h0⟩ | ⟨b, cap, cur, e, hb, _⟩
    · omega
    · exact ⟨b, by rw [e]; rfl, hb⟩
  rcases h with ⟨rfl, rfl⟩ | ⟨g, n, c, rfl, hL⟩
  · obtain ⟨v1, w1, hrun, ho, hg, _⟩ := run_append_own (P := P) w w.heap.size t ty E i (.int .u8 0) 1 1 ht hi hz hsz hby rfl (by decide) (.slice none 0 0) 0 [] (World.ownsRow_nil w _ E 1) ⟨q, 0, none⟩ 1 1 [bv x] rfl hnews (by simp [bv, Value.oneCell']) (by unfold maxLen; omega) (by omega) (Nat.le_refl _)
    exact ⟨v1, w1, hrun, own v1 w1 (by simpa using ho), .inl ⟨rfl, rfl⟩, hg, .inr (new v1 w1 0 _ (by simpa using ho))⟩
  · have hL' := hL
    obtain ⟨h1, h2, h3, cur, m, hb, h4, h5, h6⟩ := hL
    subst h2
    by_cases hr : ps.length + 1 ≤ c
    · have hcell : (w.cell? ⟨g, ps.length, none⟩).isSome = true := by
        simp only [World.cell?, hb]
        rw [Array.getElem?_eq_getElem (by omega)]
        rfl
      have hrun := run_append_room_cells (P := P) w t ty E i ht hi g 0 ps.length c ⟨q, 0, none⟩ 1 1 [bv x] (by rw [hsz]; rfl) hnews (by simp [bv, Value.oneCell']) hr
        (fun j hj => by have : j = 0 := by simpa using hj
                        subst this; rw [hsz]; simpa using hcell)
        (fun j hj => by have : j = 0 := by simpa using hj
                        subst this; rw [hsz]; simpa using h6 ps.length (by omega))
      rw [hsz, show 0 + ps.length * 1 = ps.length by omega] at hrun
      have hset : w.setCells g ps.length [bv x] = w.setCell ⟨g, ps.length, none⟩ (bv x) := by simp [World.setCells]
      rw [hset] at hrun
      have hb1 := set_block hb ps.length (bv x)
      have hf : ∀ j, j < c → (w.setCell ⟨g, ps.length, none⟩ (bv x)).frozen? ⟨g, j, none⟩ = false := fun j hj => by
        have := h6 j hj
        simp only [World.frozen?, hb] at this
        simp only [World.frozen?, hb1]
        exact this
      have hlow : ∀ j, j < ps.length → (cur.setIfInBounds ps.length (bv x))[j]? = (ps[j]?).map bv := fun j hj => by
        rw [Array.getElem?_setIfInBounds_ne (by omega)]
        exact h5 j hj
      refine ⟨_, _, hrun, .inr ⟨g, ps.length + 1, c, rfl, h1, by simp, hr, _, m, hb1, by simpa using h4, fun j hj => ?_, hf⟩, .inr ⟨g, ps.length, c, rfl, h1, rfl, h3, _, m, hb1, by simpa using h4, hlow, hf⟩, ?_⟩
      · by_cases hj2 : j < ps.length
        · rw [hlow j hj2, List.getElem?_append_left hj2]
        · have e : j = ps.length := by omega
          subst e
          rw [Array.getElem?_setIfInBounds_self_of_lt (by omega), List.getElem?_append_right (Nat.le_refl _)]
          simp
      · exact ⟨⟨rfl, rfl, rfl, by simp [World.setCell], fun k hk hn => Below.heap_setCell _ _ _ _ (fun e => hn (by rw [e]; rfl))⟩, .inl ⟨g, ps.length, c, rfl, rfl⟩⟩
    · obtain ⟨v1, w1, hrun, ho, hg⟩ := run_append_arg_grows (P := P) w t ty E i (.int .u8 0) 1 1 ht hi hz hsz hby rfl (by decide) ⟨g, 0, none⟩ ps.length c (ps.map bv) (by simp) (fun j u hj => by
          have hj2 : j < ps.length := by
            have := (List.getElem?_eq_some_iff.1 hj).1
            simpa using this
          rw [Addr.add_lit]
          simp only [Nat.zero_add]
          rw [hL'.cells j hj2, ← List.getElem?_map, hj]) ⟨q, 0, none⟩ 1 1 [bv x] rfl hnews (by omega) hmax (by omega)
      exact ⟨v1, w1, hrun, own v1 w1 ho, .inr ⟨g, ps.length, c, rfl, hL'.same (hg.block g hL'.lt (by simp))⟩, ⟨hg.os, hg.tape, hg.output, hg.size, fun k hk _ => hg.block k hk (by simp)⟩, .inr (new v1 w1 _ _ ho)⟩
section
variable {ops : Array Oper} {rest : List Oper} {o : Oper} {a : Act} {Q : Exit → Act → World → Prop} {K : Act → World → Prop} {E t : TypeId} {w : World} {base : Nat} {v : Value} {ps : List UInt8}
theorem append_keep (hg : o.guard = none) (s x : Operand) (ho : o.op = .call { callee := .builtin .append, args := #[s, x], argTypes := #[t, t] })
    (ht : P.underlying t = some (.slice E)) (hinfo : (P.info? E).map (fun i => (i.zero, i.size, i.bytes)) = some (some (.int .u8 0), 1, 1)) (hs : a.eval s = v) (q : Nat) (y : UInt8) (hx : a.eval x = .slice (some ⟨q, 0, none⟩) 1 1)
    (h : Pre E w base v ps) (hbase : base ≤ w.heap.size) (hc : w.cell? ⟨q, 0, none⟩ = some (bv y)) (hl : ps.length + 1 ≤ 140737488355328)
    (hK : ∀ v1 w1, Pre E w1 base v1 (ps ++ [y]) → Pre E w1 base v ps → w.grownBy w1 v.ownBlock → After w v v1 → wpList P ops Q rest (a.put o.dst v1) w1) : wpList P ops Q (o :: rest) a w := by
  obtain ⟨v1, w1, hrun, h1, h2, h3, h4⟩ := run_keep (P := P) (t := t) (ty := o.type) ht hinfo h hbase q y hc hl
  refine wpList_plain hg fun K hK' => ?_
  unfold Oper.wp
  simp [execOp, ho, resolve, invoke, builtin, hs, hx, hrun, Result.andThen]
  exact hK' _ _ (hK v1 w1 h1 h2 h3 h4)
theorem append_keep_step (hw : Region.wanted o (yielded ops a.tmps) = true) (s x : Operand) (ho : o.op = .call { callee := .builtin .append, args := #[s, x], argTypes := #[t, t] })
    (ht : P.underlying t = some (.slice E)) (hinfo : (P.info? E).map (fun i => (i.zero, i.size, i.bytes)) = some (some (.int .u8 0), 1, 1)) (hs : a.eval s = v) (q : Nat) (y : UInt8) (hx : a.eval x = .slice (some ⟨q, 0, none⟩) 1 1)
    (h : Pre E w base v ps) (hbase : base ≤ w.heap.size) (hc : w.cell? ⟨q, 0, none⟩ = some (bv y)) (hl : ps.length + 1 ≤ 140737488355328) {Z : Prop}
    (hK : ∀ v1 w1, Pre E w1 base v1 (ps ++ [y]) → Pre E w1 base v ps → w.grownBy w1 v.ownBlock → After w v v1 → K (a.put o.dst v1) w1) : if Region.wanted o (yielded ops a.tmps) = true then Oper.wp P o a w K Q else Z := by
  obtain ⟨v1, w1, hrun, h1, h2, h3, h4⟩ := run_keep (P := P) (t := t) (ty := o.type) ht hinfo h hbase q y hc hl
  rw [if_pos hw]
  unfold Oper.wp
  simp [execOp, ho, resolve, invoke, builtin, hs, hx, hrun, Result.andThen]
  exact hK v1 w1 h1 h2 h3 h4
end
/-- A text's bytes, made anew. -/
theorem Pre.bytes {E : TypeId} (w : World) (s : ByteArray) : Pre E (Lib.bytesWorld w E s) w.heap.size (.slice (some ⟨w.heap.size, 0, none⟩) s.size (grownCap w s.size 0 E)) s.data.toList := by
  have hge := grownCap_ge w s.size 0 E
  have hsz : (Lib.bytesCells w E s).size = grownCap w s.size 0 E := by
    have : s.data.size = s.size := rfl
    simp only [Lib.bytesCells, Array.size_append, Array.size_map, Array.size_replicate]
    omega
  refine .inr ⟨w.heap.size, s.size, _, rfl, Nat.le_refl _, by simp, hge, _, _, Lib.bytesWorld_at_new w E s, by omega, fun j hj => ?_, fun j hj => ?_⟩
  · have hj2 : j < s.data.size := hj
    simp only [Lib.bytesCells]
    rw [Array.getElem?_append_left (by simpa using hj2)]
    simp
  · simp only [World.frozen?, Lib.bytesWorld_at_new]
    rw [hsz]
    simp only [Bool.and_eq_false_imp, decide_eq_true_eq, decide_eq_false_iff_not]
    omega
end Go.Proofs.Ytkgbflcbeeghoaa.Pre
