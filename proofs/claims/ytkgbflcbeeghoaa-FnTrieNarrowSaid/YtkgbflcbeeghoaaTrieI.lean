/- Ternary search tries in memory: a script of words, one behind the other. -/
import Derived.Test.YtkgbflcbeeghoaaTrieH
namespace Go.Proofs.Ytkgbflcbeeghoaa.Trie
open Go Go.RowKit Go.Deep Go.Proofs.Ytkgbflcbeeghoaa.Hk Go.Proofs.Ytkgbflcbeeghoaa.TriePure Go.Proofs.Ytkgbflcbeeghoaa.Pre Go.Proofs.YtkgbflcbeeghoaaW.PrintWords Go.Proofs.YtkgbflcbeeghoaaW.PrintLast Go.Proofs.YtkgbflcbeeghoaaW.PrintMore
abbrev Wd3 := Int × ByteArray × Int
abbrev Say4 := Int × Bool × ByteArray × List ByteArray
def wordK : Kd Wd3 := Kd.pair (Kd.int .i64) (Kd.pair Kd.string (Kd.int .i64))
def sayK : Kd Say4 := Kd.pair (Kd.int .i64) (Kd.pair Kd.bool (Kd.pair Kd.string (Kd.slice 9 Kd.string)))
def stepT (p : Int × T) (a : Wd3) : Int × T := if a.1 = 0 then putT a.2.1 a.2.2 p else if a.1 = 1 then remT a.2.1 p else p
def tellT (p : Int × T) (a : Wd3) : Say4 :=
  if a.1 = 2 then ((got p.2 (wd a.2.1)).1, (got p.2 (wd a.2.1)).2, (⟨#[]⟩ : ByteArray), []) else if a.1 = 3 then (0, (got p.2 (wd a.2.1)).2, (⟨#[]⟩ : ByteArray), []) else if a.1 = 4 then (0, false, (⟨#[]⟩ : ByteArray), keysT p.2)
  else if a.1 = 5 then (0, false, (⟨#[]⟩ : ByteArray), keysOf p.2 a.2.1) else if a.1 = 6 then (0, false, longS p.2 a.2.1, []) else if a.1 = 7 then (p.1, false, (⟨#[]⟩ : ByteArray), []) else (0, false, (⟨#[]⟩ : ByteArray), [])
def runT : Int × T → List Wd3 → Int × T
  | p, [] => p
  | p, a :: l => runT (stepT p a) l
def toldT : Int × T → List Wd3 → List Say4
  | _, [] => []
  | p, a :: l => tellT p a :: toldT (stepT p a) l
/-- What a trie is behind i steps. -/
structure Okt (i : Nat) (t : T) : Prop where
  ord : T.Ord t
  used : T.Used t
  long : ∀ p ∈ T.words t, p.1.length ≤ 1099511627776
  many : (T.words t).length ≤ i
theorem Okt.fit {i : Nat} {t : T} (h : Okt i t) (hi : i ≤ 1099511627776) : Fit t := ⟨h.ord, h.used, fun p hp => by have := h.long p hp; unfold B32; omega, by have := h.many; unfold B32; omega⟩
theorem Okt.more {i : Nat} {t : T} (h : Okt i t) : Okt (i + 1) t := ⟨h.ord, h.used, h.long, Nat.le_succ_of_le h.many⟩
theorem ins_len (w : W) (v : Int) : ∀ l : TriePure.R, (TriePure.ins w v l).length ≤ l.length + 1
  | [] => Nat.le_refl _
  | p :: l => by
    have := ins_len w v l
    simp only [TriePure.ins]
    split
    · simp only [List.length_cons]; omega
    · split <;> simp only [List.length_cons] <;> omega
theorem ins_mem (w : W) (v : Int) : ∀ (l : TriePure.R) (p : W × Int), p ∈ TriePure.ins w v l → p.1 = w ∨ ∃ q ∈ l, q.1 = p.1
  | [], p, h => by simp only [TriePure.ins, List.mem_singleton] at h; subst h; exact .inl rfl
  | q :: l, p, h => by
    simp only [TriePure.ins] at h
    split at h
    · rcases List.mem_cons.1 h with e | h
      · subst e; exact .inr ⟨_, List.mem_cons_self, rfl⟩
      · rcases ins_mem w v l p h with e | ⟨x, hx, e⟩
        · exact .inl e
        · exact .inr ⟨x, List.mem_cons_of_mem _ hx, e⟩
    · split at h
      · rcases List.mem_cons.1 h with e | h
        · subst e; exact .inr ⟨q, List.mem_cons_self, rfl⟩
        · exact .inr ⟨p, List.mem_cons_of_mem _ h, rfl⟩
      · rcases List.mem_cons.1 h with e | h
        · subst e; exact .inl rfl
        · exact .inr ⟨p, h, rfl⟩
theorem wd_cons {s : ByteArray} (h : s.size ≠ 0) : ∃ k ks, wd s = k :: ks := by
  cases hw : wd s with
  | nil => exact absurd (by simpa using congrArg List.length hw) h
  | cons k ks => exact ⟨k, ks, rfl⟩
theorem Okt.put {i : Nat} {n : Int} {t : T} {s : ByteArray} {v : Int} (h : Okt i t) (hn : -(i : Int) ≤ n ∧ n ≤ i) (hs : s.size ≤ 1099511627776) : Okt (i + 1) (putT s v (n, t)).2 ∧ -((i : Int) + 1) ≤ (putT s v (n, t)).1 ∧ (putT s v (n, t)).1 ≤ (i : Int) + 1 := by
  unfold putT
  split
  · exact ⟨h.more, by show _ ≤ n; omega, by show n ≤ _; omega⟩
  · rename_i h0
    refine ⟨?_, by dsimp only; split <;> omega, by dsimp only; split <;> omega⟩
    have hl : (wd s).length ≤ 1099511627776 := by simpa using hs
    obtain ⟨k, ks, e⟩ := wd_cons h0
    dsimp only
    rw [e] at hl ⊢
    have hw := T.words_put v t k ks h.ord
    refine ⟨T.ord_put v t _ h.ord, T.used_put v t _ h.used, fun p hp => ?_, ?_⟩
    · rw [hw] at hp
      rcases ins_mem _ _ _ _ hp with e | ⟨q, hq, e⟩
      · rw [e]; exact hl
      · rw [← e]; exact h.long q hq
    · rw [hw]
      have := ins_len (k :: ks) v (T.words t)
      have := h.many
      omega
theorem Okt.rem {i : Nat} {n : Int} {t : T} {s : ByteArray} (h : Okt i t) (hn : -(i : Int) ≤ n ∧ n ≤ i) : Okt (i + 1) (remT s (n, t)).2 ∧ -((i : Int) + 1) ≤ (remT s (n, t)).1 ∧ (remT s (n, t)).1 ≤ (i : Int) + 1 := by
  unfold remT
  split
  · exact ⟨h.more, by show _ ≤ n; omega, by show n ≤ _; omega⟩
  · rename_i h0
    refine ⟨?_, by show _ ≤ n - 1; omega, by show n - 1 ≤ _; omega⟩
    obtain ⟨k, ks, e⟩ := wd_cons h0
    dsimp only
    rw [e]
    obtain ⟨a1, _, a3, a4⟩ := T.rem_all t k ks h.ord
    refine ⟨a3, a4 h.used, fun p hp => ?_, ?_⟩
    · rw [a1] at hp
      exact h.long p (List.mem_filter.1 hp).1
    · rw [a1]
      exact Nat.le_trans (List.length_filter_le _ _) (Nat.le_succ_of_le h.many)

theorem keysOf_len {i : Nat} {t : T} (h : Okt i t) (s : ByteArray) : (keysOf t s).length ≤ i := by
  unfold keysOf
  split
  · unfold keysT; rw [texts_len]; exact h.many
  · rename_i h0
    obtain ⟨k, ks, e⟩ := wd_cons h0
    rw [List.length_map, e, T.from_words t k ks h.ord]
    refine Nat.le_trans (List.length_filter_le _ _) ?_
    rw [heads, List.length_map]
    exact h.many
theorem at_word {w : World} {A : Option Addr} {n : Nat} {xs : List Wd3} (h : Kd.C wordK w A n xs) (i : Nat) (hi : i < xs.length) : ∃ ad, A = some ad ∧ w.cell? (ad.add (i * 3)) = some (.int .i64 xs[i].1) ∧
    w.cell? ⟨(ad.add (i * 3)).block, (ad.add (i * 3)).off + 1, none⟩ = some (.string xs[i].2.1) ∧ w.cell? ⟨(ad.add (i * 3)).block, (ad.add (i * 3)).off + 2, none⟩ = some (.int .i64 xs[i].2.2) := by
  have hn := h.1
  obtain ⟨ad, c, e, _, hK, hc0⟩ := Kd.C_get h ((0, (⟨#[]⟩ : ByteArray), 0) : Wd3) i (by omega) (by omega)
  have hx : xs.getD (i : Int).toNat (0, (⟨#[]⟩ : ByteArray), 0) = xs[i] := by simp [List.getD_eq_getElem?_getD, hi]
  rw [hx] at hK
  have hc : ∀ j u, c[j]? = some u → w.cell? (ad.add (i * 3 + j)) = some u := hc0
  obtain ⟨c0, c1, rfl, h0, d0, d1, rfl, h1, h2⟩ := hK
  cases h0; cases h1; cases h2
  exact ⟨ad, e, hc 0 _ rfl, by rw [← add_field _ _ 1 (by omega)]; exact hc 1 _ rfl, by rw [← add_field _ _ 2 (by omega)]; exact hc 2 _ rfl⟩
theorem infoSay : (Try.prog.info? 26).map (fun i => (i.zero, i.size, i.bytes)) = some (some (.agg #[(.int .i64 0), (.bool false), (.string (⟨#[]⟩ : ByteArray)), (.slice none 0 0)]), 4, 56) := by kernel_rfl
theorem sayK_E : sayK.E = [9] := rfl
/-- What holds between the steps of a script that began at w. -/
structure Inv (base Tb : Nat) (w : World) (n : Int) (t : N) (out : Value) (rs : List Say4) (wr : World) : Prop where
  tree : Tr base Tb n t wr
  row : Kd.S sayK 26 wr w.heap.size (fun _ => True) out rs
  fr : Fr (Zt base w) w wr
section
variable {base Tb : Nat} {n n' : Int} {t t' : N} {w wr W w' w1 : World} {out : Value} {rs : List Say4}
theorem Tr.fr {S : Nat → Prop} (h : Tr base Tb n t w) (hF : Fr S w w1) (hS : ∀ k, (k = Tb ∨ k ∈ t.ids) → ¬ S k) : Tr base Tb n t w1 := ⟨h.blk.fr hF (hS Tb (.inl rfl)), ⟨h.good.mem.fr hF (fun b hb => hS b (.inr hb)), h.good.nodup, h.good.above⟩, h.tb, h.ge⟩
theorem Inv.below (h : Inv base Tb w n t out rs wr) (hb : Below wr.heap.size wr w') : Inv base Tb w n t out rs w' :=
  ⟨h.tree.below hb, Kd.S_below h.row hb, h.fr.trans (S' := fun _ => False) (Fr.new hb) (fun _ _ h => h.elim)⟩
theorem Inv.turned (h : Inv base Tb w n t out rs W) (hT : Tr base Tb n' t' w') (hF : Fr (Zt base W) W w') : Inv base Tb w n' t' out rs w' := by
  refine ⟨hT, Kd.S_mono (Kd.S_step (Kd.S_bound h.row) (fun k hk hlt => hF.block k hlt (fun e => ?_))) (fun _ _ => trivial), zt_trans h.fr hF⟩
  obtain ⟨_, _, _, q, hq, cs, hc⟩ := hk
  obtain ⟨_, cs2, t2, hc2, ht2⟩ := e
  rw [hc] at hc2
  injection hc2 with hc2
  injection hc2 with _ hc2 _
  subst hc2
  rw [sayK_E] at hq
  simp only [List.mem_cons, List.not_mem_nil, or_false] at hq
  rcases ht2 with e | e <;> rcases hq with e2 | e2 <;> rw [e] at e2 <;> exact absurd e2 (by decide)
theorem Inv.append (h : Inv base Tb w n t out rs W) {v1 : Value} {p : Say4} (hR : Kd.S sayK 26 w1 w.heap.size (fun _ => True) v1 (rs ++ [p])) (hg : W.grownBy w1 out.ownBlock) : Inv base Tb w n t v1 (rs ++ [p]) w1 := by
  have hR0 := Kd.S_R h.row
  have hF : Fr (fun k => some k = out.ownBlock) W w1 := Fr.of_grown hg
  refine ⟨h.tree.fr hF (fun k hk e => ?_), hR, h.fr.trans hF (fun k hk e => ?_)⟩
  · obtain ⟨cs, hc⟩ := Kd.R_typed hR0 k e.symm
    obtain ⟨_, cs2, t2, hc2, ht2⟩ := h.tree.zt k hk
    rw [hc] at hc2
    injection hc2 with hc2
    injection hc2 with _ hc2 _
    rcases ht2 with e2 | e2 <;> rw [e2] at hc2 <;> exact absurd hc2 (by decide)
  · have := Kd.R_base hR0 k e.symm
    omega
end
/-- What a step tells, made of cells: no row of keys. -/
theorem say_flat (W : World) (base : Nat) (v : Int) (b : Bool) (s : ByteArray) : sayK.M W base (fun _ => False) (v, b, s, []) [.int .i64 v, .bool b, .string s, .slice none 0 0] :=
  ⟨[_], [_, _, _], rfl, rfl, [_], [_, _], rfl, rfl, [_], [_], rfl, rfl, ⟨_, rfl, Kd.R_nil ..⟩⟩
theorem say_rows {W : World} {base N0 : Nat} {K : Value} {ks : List ByteArray} {ok : Nat → Prop} (hb : base ≤ N0) (hK : Kd.string.R 9 W N0 ok K ks) (v : Int) (b : Bool) (s : ByteArray) : sayK.M W base (fun k => N0 ≤ k) (v, b, s, ks) [.int .i64 v, .bool b, .string s, K] :=
  ⟨[_], [_, _, _], rfl, rfl, [_], [_, _], rfl, rfl, [_], [_], rfl, rfl, ⟨_, rfl, Kd.R_lower (Kd.R_reok rfl hK (fun k hk => Kd.R_base hK k hk)) hb⟩⟩
set_option maxHeartbeats 16000000 in
set_option maxRecDepth 100000 in
theorem trieDo_any (base Tb : Nat) (w : World) (A : Option Addr) (c : Nat) (l : List Wd3) (hT : Tr base Tb 0 .nil w) (hC : ∀ W, Below base w W → Kd.C wordK W A l.length l) (hl : l.length ≤ 1099511627776) (hs : ∀ a ∈ l, a.2.1.size ≤ 1099511627776) :
    Calls Try.prog 27 #[.pointer (some ⟨Tb, 0, none⟩), .slice A l.length c] w fun e w' => ∃ (n : Int) (t : N) (v : Value), e = .returned v ∧ (n, t.raw) = runT (0, .nil) l ∧ Okt l.length t.raw ∧ Inv base Tb w n t v (toldT (0, .nil) l) w' := by
  have HC := hid hC
  have HT := hid hT
  have HLL := hid hl
  have HSS := hid hs
  clear hC hT hs
  go_enter Try.func27, Try.ntmps27
  go_wp2_with fail
  go_loopg [5, 11] l.length (fun g v5 v11 wr => ∃ (i : Nat) (n : Int) (t : N) (rs : List Say4), v11 = .int .i64 i ∧ i ≤ l.length ∧ Hid (g + i = l.length) ∧ Hid (Inv base Tb w n t v5 rs wr ∧ Okt i t.raw ∧ (-(i : Int) ≤ n ∧ n ≤ i) ∧ rs.length = i ∧ rs ++ toldT (n, t.raw) (l.drop i) = toldT (0, .nil) l ∧ runT (n, t.raw) (l.drop i) = runT (0, .nil) l))
  case atStart => exact ⟨0, 0, .nil, [], rfl, Nat.zero_le _, Nat.add_zero _, ⟨HT.out, Kd.S_nil .., Fr.refl _ _⟩, ⟨trivial, trivial, fun p hp => by simp [N.raw, T.words] at hp, Nat.le_refl _⟩, by simp, rfl, rfl, rfl⟩
  case round =>
    obtain ⟨i, n, t, rs, rfl, hi, HG, HI⟩ := hrel
    by_cases hlt : i < l.length
    · obtain ⟨ad, rfl, x0, x1, x2⟩ := at_word (HC.out wr (HI.out.1.fr.below HT.out.big (fun k hk => hk.1))) i hlt
      have HX : Hid (l.drop i = l[i] :: l.drop (i + 1)) := List.drop_eq_getElem_cons hlt
      have HSZ0 := hid (HSS.out l[i] (List.getElem_mem hlt))
      generalize l[i] = x at x0 x1 x2 HX HSZ0
      obtain ⟨d, s, v⟩ := x
      simp only at x0 x1 x2
      have HSZ : Hid (s.size ≤ 1099511627776) := HSZ0
      have HL := hid hlt
      have HW := hid (HI.out.1.below (((Below.refl _ _).alloc (Nat.le_refl _) (.cells #[.int .i64 d, .string s, .int .i64 v] 30)).alloc (by rw [alloc_size]; exact Nat.le_succ _) (.cells #[.int .i64 0, .bool false, .string (⟨#[]⟩ : ByteArray), .slice none 0 0] 26)))
      have HZ := hid HI.out.2
      obtain ⟨k1, rfl⟩ : ∃ k1, gk = k1 + 1 := ⟨gk - 1, by have := HG.out; omega⟩
      clear hlt HSZ0
      by_cases h0 : d = 0
      · subst h0
        go_wp2_with fail
        refine (Put_any base Tb n t s v _ HW.out.tree HSZ.out (by have := HZ.out.2.1; have := HLL.out; have := HL.out; omega)).mono ?_
        rintro e w2 ⟨rfl, t', hraw, hT, hF⟩
        have H2 := hid (HW.out.turned hT hF)
        have HS : Hid (stepT (n, t.raw) (0, s, v) = ((putT s v (n, t.raw)).1, t'.raw) ∧ tellT (n, t.raw) (0, s, v) = (0, false, (⟨#[]⟩ : ByteArray), []) ∧ Okt (i + 1) t'.raw ∧ -((i : Int) + 1) ≤ (putT s v (n, t.raw)).1 ∧ (putT s v (n, t.raw)).1 ≤ (i : Int) + 1) := by
          rw [hraw]
          exact hid ⟨rfl, rfl, HZ.out.1.put HZ.out.2.1 HSZ.out⟩
        have hX : Blk w2 (wr.heap.size + 1) #[(.int .i64 0), (.bool false), (.string (⟨#[]⟩ : ByteArray)), (.slice none 0 0)] 26 := by
          have h0_ := (Blk.new (wr.alloc (.cells #[.int .i64 0, .string s, .int .i64 v] 30)) #[.int .i64 0, .bool false, .string (⟨#[]⟩ : ByteArray), .slice none 0 0] 26)
          rw [alloc_size] at h0_
          exact h0_.fr hF (fun e => by
            obtain ⟨_, cs, t2, hc, ht⟩ := e
            rw [h0_] at hc
            injection hc with hc
            injection hc with _ hc _
            rcases ht with e2 | e2 <;> rw [e2] at hc <;> exact absurd hc (by decide))
        have e0 : w2.cell? ⟨wr.heap.size + 1, 0, none⟩ = some ((.int .i64 0)) := hX.cell 0
        have e1 : w2.cell? ⟨wr.heap.size + 1, 1, none⟩ = some ((.bool false)) := hX.cell 1
        have e2 : w2.cell? ⟨wr.heap.size + 1, 2, none⟩ = some ((.string (⟨#[]⟩ : ByteArray))) := hX.cell 2
        have e3 : w2.cell? ⟨wr.heap.size + 1, 3, none⟩ = some ((.slice none 0 0)) := hX.cell 3
        clear hT hF hraw hX x0 x1 x2
        go_wp2_with (first | (at_builtin; go_loud (refine Kd.S_append sayK (w0 := w2) (W := w2) w.heap.size rfl (.tmp 75) (.tmp 77) 35 26 (.agg #[(.int .i64 0), (.bool false), (.string (⟨#[]⟩ : ByteArray)), (.slice none 0 0)]) 56 rfl Try.underlying35 infoSay rfl (by decide) (by omega) u5 rs (0, false, (⟨#[]⟩ : ByteArray), []) [(.int .i64 0), (.bool false), (.string (⟨#[]⟩ : ByteArray)), (.slice none 0 0)] (fun _ => True) (fun _ => False) rfl rfl (say_flat _ _ _ _ _) (fun _ hk => hk.elim) ?aF ?aO ?aB ?aS ?aL ?_; (case aF => exact fun _ _ => trivial); (case aO => exact (Kd.S_mono H2.out.row (fun _ hk => ⟨hk, fun h => h⟩))); (case aB => exact (Below.refl _ _)); (case aS => exact H2.out.fr.size); (case aL => have h1 := HZ.out.2.2.1; have h2 := HL.out; have h3 := HLL.out; omega); intro v1 w3 ho hb hg hat)))
        have HE := hid (H2.out.append ho hg)
        clear ho hb hg hat e0 e1 e2 e3
        go_wp2_with fail
        go_roundg k1
        case measure => omega
        case rel => exact ⟨i + 1, (putT s v (n, t.raw)).1, t', rs ++ [(0, false, (⟨#[]⟩ : ByteArray), [])], rfl, HL.out, by have := HG.out; show k1 + (i + 1) = _; omega, HE.out, HS.out.2.2.1, by have := HS.out.2.2.2; omega, by rw [List.length_append, HZ.out.2.2.1]; rfl, by rw [← HZ.out.2.2.2.1, HX.out, List.append_assoc]; show _ = rs ++ (tellT _ _ :: toldT (stepT _ _) _); rw [HS.out.1, HS.out.2.1]; rfl, by rw [← HZ.out.2.2.2.2, HX.out]; show _ = runT (stepT _ _) _; rw [HS.out.1]⟩
      · by_cases h1 : d = 1
        · subst h1
          go_wp2_with fail
          refine (Remove_any base Tb n t s _ HW.out.tree HSZ.out (by have := HZ.out.2.1; have := HLL.out; have := HL.out; omega)).mono ?_
          rintro e w2 ⟨rfl, t', hraw, hT, hF⟩
          have H2 := hid (HW.out.turned hT hF)
          have HS : Hid (stepT (n, t.raw) (1, s, v) = ((remT s (n, t.raw)).1, t'.raw) ∧ tellT (n, t.raw) (1, s, v) = (0, false, (⟨#[]⟩ : ByteArray), []) ∧ Okt (i + 1) t'.raw ∧ -((i : Int) + 1) ≤ (remT s (n, t.raw)).1 ∧ (remT s (n, t.raw)).1 ≤ (i : Int) + 1) := by
            rw [hraw]
            exact hid ⟨rfl, rfl, HZ.out.1.rem HZ.out.2.1⟩
          have hX : Blk w2 (wr.heap.size + 1) #[(.int .i64 0), (.bool false), (.string (⟨#[]⟩ : ByteArray)), (.slice none 0 0)] 26 := by
            have h0_ := (Blk.new (wr.alloc (.cells #[.int .i64 1, .string s, .int .i64 v] 30)) #[.int .i64 0, .bool false, .string (⟨#[]⟩ : ByteArray), .slice none 0 0] 26)
            rw [alloc_size] at h0_
            exact h0_.fr hF (fun e => by
              obtain ⟨_, cs, t2, hc, ht⟩ := e
              rw [h0_] at hc
              injection hc with hc
              injection hc with _ hc _
              rcases ht with e2 | e2 <;> rw [e2] at hc <;> exact absurd hc (by decide))
          have e0 : w2.cell? ⟨wr.heap.size + 1, 0, none⟩ = some ((.int .i64 0)) := hX.cell 0
          have e1 : w2.cell? ⟨wr.heap.size + 1, 1, none⟩ = some ((.bool false)) := hX.cell 1
          have e2 : w2.cell? ⟨wr.heap.size + 1, 2, none⟩ = some ((.string (⟨#[]⟩ : ByteArray))) := hX.cell 2
          have e3 : w2.cell? ⟨wr.heap.size + 1, 3, none⟩ = some ((.slice none 0 0)) := hX.cell 3
          clear hT hF hraw hX x0 x1 x2
          go_wp2_with (first | (at_builtin; go_loud (refine Kd.S_append sayK (w0 := w2) (W := w2) w.heap.size rfl (.tmp 75) (.tmp 77) 35 26 (.agg #[(.int .i64 0), (.bool false), (.string (⟨#[]⟩ : ByteArray)), (.slice none 0 0)]) 56 rfl Try.underlying35 infoSay rfl (by decide) (by omega) u5 rs (0, false, (⟨#[]⟩ : ByteArray), []) [(.int .i64 0), (.bool false), (.string (⟨#[]⟩ : ByteArray)), (.slice none 0 0)] (fun _ => True) (fun _ => False) rfl rfl (say_flat _ _ _ _ _) (fun _ hk => hk.elim) ?aF ?aO ?aB ?aS ?aL ?_; (case aF => exact fun _ _ => trivial); (case aO => exact (Kd.S_mono H2.out.row (fun _ hk => ⟨hk, fun h => h⟩))); (case aB => exact (Below.refl _ _)); (case aS => exact H2.out.fr.size); (case aL => have h1 := HZ.out.2.2.1; have h2 := HL.out; have h3 := HLL.out; omega); intro v1 w3 ho hb hg hat)))
          have HE := hid (H2.out.append ho hg)
          clear ho hb hg hat e0 e1 e2 e3
          go_wp2_with fail
          go_roundg k1
          case measure => omega
          case rel => exact ⟨i + 1, (remT s (n, t.raw)).1, t', rs ++ [(0, false, (⟨#[]⟩ : ByteArray), [])], rfl, HL.out, by have := HG.out; show k1 + (i + 1) = _; omega, HE.out, HS.out.2.2.1, by have := HS.out.2.2.2; omega, by rw [List.length_append, HZ.out.2.2.1]; rfl, by rw [← HZ.out.2.2.2.1, HX.out, List.append_assoc]; show _ = rs ++ (tellT _ _ :: toldT (stepT _ _) _); rw [HS.out.1, HS.out.2.1]; rfl, by rw [← HZ.out.2.2.2.2, HX.out]; show _ = runT (stepT _ _) _; rw [HS.out.1]⟩
        · by_cases h2 : d = 2
          · subst h2
            go_wp2_with fail
            refine (Get_any base Tb n t s _ HW.out.tree HSZ.out).mono ?_
            rintro e w2 ⟨rfl, rfl⟩
            have hB2 : Below wr.heap.size wr ((wr.alloc (.cells #[.int .i64 2, .string s, .int .i64 v] 30)).alloc (.cells #[.int .i64 0, .bool false, .string (⟨#[]⟩ : ByteArray), .slice none 0 0] 26)) := (((Below.refl _ _).alloc (Nat.le_refl _) _).alloc (by rw [alloc_size]; exact Nat.le_succ _) _)
            have hX0 : Blk ((wr.alloc (.cells #[.int .i64 2, .string s, .int .i64 v] 30)).alloc (.cells #[.int .i64 0, .bool false, .string (⟨#[]⟩ : ByteArray), .slice none 0 0] 26)) (wr.heap.size + 1) #[(.int .i64 0), (.bool false), (.string (⟨#[]⟩ : ByteArray)), (.slice none 0 0)] 26 := by
              have h0_ := (Blk.new (wr.alloc (.cells #[.int .i64 2, .string s, .int .i64 v] 30)) #[.int .i64 0, .bool false, .string (⟨#[]⟩ : ByteArray), .slice none 0 0] 26)
              rw [alloc_size] at h0_
              exact h0_
            generalize ((wr.alloc (.cells #[.int .i64 2, .string s, .int .i64 v] 30)).alloc (.cells #[.int .i64 0, .bool false, .string (⟨#[]⟩ : ByteArray), .slice none 0 0] 26)) = W2 at hB2 hX0 ⊢
            have g0 : W2.cell? ⟨wr.heap.size + 1, 0, none⟩ = some (.int .i64 0) := hX0.cell 0
            have f0 : W2.frozen? ⟨wr.heap.size + 1, 0, none⟩ = false := hX0.free 0
            have g1 : W2.cell? ⟨wr.heap.size + 1, 1, none⟩ = some (.bool false) := hX0.cell 1
            have f1 : W2.frozen? ⟨wr.heap.size + 1, 1, none⟩ = false := hX0.free 1
            have HQ := hid (And.intro hX0 hB2)
            clear hX0 hB2 x0 x1 x2 HW
            go_upto_region 23 with fail
            obtain ⟨hX0, hB2⟩ := HQ.out
            have H2 : Hid (Inv base Tb w n t u5 rs ((W2.setCell ⟨wr.heap.size + 1, 0, none⟩ (.int .i64 (got t.raw (wd s)).1)).setCell ⟨wr.heap.size + 1, 1, none⟩ (.bool (got t.raw (wd s)).2))) := hid (HI.out.1.below ((hB2.setCell (p := ⟨wr.heap.size + 1, 0, none⟩) (Nat.le_succ _) (.int .i64 (got t.raw (wd s)).1)).setCell (p := ⟨wr.heap.size + 1, 1, none⟩) (Nat.le_succ _) (.bool (got t.raw (wd s)).2)))
            have hX : Blk ((W2.setCell ⟨wr.heap.size + 1, 0, none⟩ (.int .i64 (got t.raw (wd s)).1)).setCell ⟨wr.heap.size + 1, 1, none⟩ (.bool (got t.raw (wd s)).2)) (wr.heap.size + 1) #[(.int .i64 (got t.raw (wd s)).1), (.bool (got t.raw (wd s)).2), (.string (⟨#[]⟩ : ByteArray)), (.slice none 0 0)] 26 := ((hX0.set 0 (.int .i64 (got t.raw (wd s)).1)).set 1 (.bool (got t.raw (wd s)).2))
            have e0 : ((W2.setCell ⟨wr.heap.size + 1, 0, none⟩ (.int .i64 (got t.raw (wd s)).1)).setCell ⟨wr.heap.size + 1, 1, none⟩ (.bool (got t.raw (wd s)).2)).cell? ⟨wr.heap.size + 1, 0, none⟩ = some ((.int .i64 (got t.raw (wd s)).1)) := hX.cell 0
            have e1 : ((W2.setCell ⟨wr.heap.size + 1, 0, none⟩ (.int .i64 (got t.raw (wd s)).1)).setCell ⟨wr.heap.size + 1, 1, none⟩ (.bool (got t.raw (wd s)).2)).cell? ⟨wr.heap.size + 1, 1, none⟩ = some ((.bool (got t.raw (wd s)).2)) := hX.cell 1
            have e2 : ((W2.setCell ⟨wr.heap.size + 1, 0, none⟩ (.int .i64 (got t.raw (wd s)).1)).setCell ⟨wr.heap.size + 1, 1, none⟩ (.bool (got t.raw (wd s)).2)).cell? ⟨wr.heap.size + 1, 2, none⟩ = some ((.string (⟨#[]⟩ : ByteArray))) := hX.cell 2
            have e3 : ((W2.setCell ⟨wr.heap.size + 1, 0, none⟩ (.int .i64 (got t.raw (wd s)).1)).setCell ⟨wr.heap.size + 1, 1, none⟩ (.bool (got t.raw (wd s)).2)).cell? ⟨wr.heap.size + 1, 3, none⟩ = some ((.slice none 0 0)) := hX.cell 3
            clear hX hX0 hB2 HQ f0 g0 f1 g1
            generalize ((W2.setCell ⟨wr.heap.size + 1, 0, none⟩ (.int .i64 (got t.raw (wd s)).1)).setCell ⟨wr.heap.size + 1, 1, none⟩ (.bool (got t.raw (wd s)).2)) = w2 at H2 e0 e1 e2 e3 ⊢
            have HS : Hid (stepT (n, t.raw) (2, s, v) = (n, t.raw) ∧ tellT (n, t.raw) (2, s, v) = ((got t.raw (wd s)).1, (got t.raw (wd s)).2, (⟨#[]⟩ : ByteArray), []) ∧ Okt (i + 1) t.raw ∧ -((i : Int) + 1) ≤ n ∧ n ≤ (i : Int) + 1) := hid ⟨rfl, rfl, HZ.out.1.more, by have := HZ.out.2.1; omega, by have := HZ.out.2.1; omega⟩
            go_wp2_with (first | (at_builtin; go_loud (refine Kd.S_append sayK (w0 := w2) (W := w2) w.heap.size rfl (.tmp 75) (.tmp 77) 35 26 (.agg #[(.int .i64 0), (.bool false), (.string (⟨#[]⟩ : ByteArray)), (.slice none 0 0)]) 56 rfl Try.underlying35 infoSay rfl (by decide) (by omega) u5 rs ((got t.raw (wd s)).1, (got t.raw (wd s)).2, (⟨#[]⟩ : ByteArray), []) [(.int .i64 (got t.raw (wd s)).1), (.bool (got t.raw (wd s)).2), (.string (⟨#[]⟩ : ByteArray)), (.slice none 0 0)] (fun _ => True) (fun _ => False) rfl rfl (say_flat _ _ _ _ _) (fun _ hk => hk.elim) ?aF ?aO ?aB ?aS ?aL ?_; (case aF => exact fun _ _ => trivial); (case aO => exact (Kd.S_mono H2.out.row (fun _ hk => ⟨hk, fun h => h⟩))); (case aB => exact (Below.refl _ _)); (case aS => exact H2.out.fr.size); (case aL => have h1 := HZ.out.2.2.1; have h2 := HL.out; have h3 := HLL.out; omega); intro v1 w3 ho hb hg hat)))
            have HE := hid (H2.out.append ho hg)
            clear ho hb hg hat e0 e1 e2 e3
            go_wp2_with fail
            go_roundg k1
            case measure => omega
            case rel => exact ⟨i + 1, n, t, rs ++ [((got t.raw (wd s)).1, (got t.raw (wd s)).2, (⟨#[]⟩ : ByteArray), [])], rfl, HL.out, by have := HG.out; show k1 + (i + 1) = _; omega, HE.out, HS.out.2.2.1, by have := HS.out.2.2.2; omega, by rw [List.length_append, HZ.out.2.2.1]; rfl, by rw [← HZ.out.2.2.2.1, HX.out, List.append_assoc]; show _ = rs ++ (tellT _ _ :: toldT (stepT _ _) _); rw [HS.out.1, HS.out.2.1]; rfl, by rw [← HZ.out.2.2.2.2, HX.out]; show _ = runT (stepT _ _) _; rw [HS.out.1]⟩
          · by_cases h3 : d = 3
            · subst h3
              go_wp2_with fail
              refine (Contains_any base Tb n t s _ HW.out.tree HSZ.out).mono ?_
              rintro e w2 ⟨rfl, rfl⟩
              have hB2 : Below wr.heap.size wr ((wr.alloc (.cells #[.int .i64 3, .string s, .int .i64 v] 30)).alloc (.cells #[.int .i64 0, .bool false, .string (⟨#[]⟩ : ByteArray), .slice none 0 0] 26)) := (((Below.refl _ _).alloc (Nat.le_refl _) _).alloc (by rw [alloc_size]; exact Nat.le_succ _) _)
              have hX0 : Blk ((wr.alloc (.cells #[.int .i64 3, .string s, .int .i64 v] 30)).alloc (.cells #[.int .i64 0, .bool false, .string (⟨#[]⟩ : ByteArray), .slice none 0 0] 26)) (wr.heap.size + 1) #[(.int .i64 0), (.bool false), (.string (⟨#[]⟩ : ByteArray)), (.slice none 0 0)] 26 := by
                have h0_ := (Blk.new (wr.alloc (.cells #[.int .i64 3, .string s, .int .i64 v] 30)) #[.int .i64 0, .bool false, .string (⟨#[]⟩ : ByteArray), .slice none 0 0] 26)
                rw [alloc_size] at h0_
                exact h0_
              generalize ((wr.alloc (.cells #[.int .i64 3, .string s, .int .i64 v] 30)).alloc (.cells #[.int .i64 0, .bool false, .string (⟨#[]⟩ : ByteArray), .slice none 0 0] 26)) = W2 at hB2 hX0 ⊢
              have g1 : W2.cell? ⟨wr.heap.size + 1, 1, none⟩ = some (.bool false) := hX0.cell 1
              have f1 : W2.frozen? ⟨wr.heap.size + 1, 1, none⟩ = false := hX0.free 1
              have HQ := hid (And.intro hX0 hB2)
              clear hX0 hB2 x0 x1 x2 HW
              go_upto_region 23 with fail
              obtain ⟨hX0, hB2⟩ := HQ.out
              have H2 : Hid (Inv base Tb w n t u5 rs (W2.setCell ⟨wr.heap.size + 1, 1, none⟩ (.bool (got t.raw (wd s)).2))) := hid (HI.out.1.below (hB2.setCell (p := ⟨wr.heap.size + 1, 1, none⟩) (Nat.le_succ _) (.bool (got t.raw (wd s)).2)))
              have hX : Blk (W2.setCell ⟨wr.heap.size + 1, 1, none⟩ (.bool (got t.raw (wd s)).2)) (wr.heap.size + 1) #[(.int .i64 0), (.bool (got t.raw (wd s)).2), (.string (⟨#[]⟩ : ByteArray)), (.slice none 0 0)] 26 := (hX0.set 1 (.bool (got t.raw (wd s)).2))
              have e0 : (W2.setCell ⟨wr.heap.size + 1, 1, none⟩ (.bool (got t.raw (wd s)).2)).cell? ⟨wr.heap.size + 1, 0, none⟩ = some ((.int .i64 0)) := hX.cell 0
              have e1 : (W2.setCell ⟨wr.heap.size + 1, 1, none⟩ (.bool (got t.raw (wd s)).2)).cell? ⟨wr.heap.size + 1, 1, none⟩ = some ((.bool (got t.raw (wd s)).2)) := hX.cell 1
              have e2 : (W2.setCell ⟨wr.heap.size + 1, 1, none⟩ (.bool (got t.raw (wd s)).2)).cell? ⟨wr.heap.size + 1, 2, none⟩ = some ((.string (⟨#[]⟩ : ByteArray))) := hX.cell 2
              have e3 : (W2.setCell ⟨wr.heap.size + 1, 1, none⟩ (.bool (got t.raw (wd s)).2)).cell? ⟨wr.heap.size + 1, 3, none⟩ = some ((.slice none 0 0)) := hX.cell 3
              clear hX hX0 hB2 HQ f1 g1
              generalize (W2.setCell ⟨wr.heap.size + 1, 1, none⟩ (.bool (got t.raw (wd s)).2)) = w2 at H2 e0 e1 e2 e3 ⊢
              have HS : Hid (stepT (n, t.raw) (3, s, v) = (n, t.raw) ∧ tellT (n, t.raw) (3, s, v) = (0, (got t.raw (wd s)).2, (⟨#[]⟩ : ByteArray), []) ∧ Okt (i + 1) t.raw ∧ -((i : Int) + 1) ≤ n ∧ n ≤ (i : Int) + 1) := hid ⟨rfl, rfl, HZ.out.1.more, by have := HZ.out.2.1; omega, by have := HZ.out.2.1; omega⟩
              go_wp2_with (first | (at_builtin; go_loud (refine Kd.S_append sayK (w0 := w2) (W := w2) w.heap.size rfl (.tmp 75) (.tmp 77) 35 26 (.agg #[(.int .i64 0), (.bool false), (.string (⟨#[]⟩ : ByteArray)), (.slice none 0 0)]) 56 rfl Try.underlying35 infoSay rfl (by decide) (by omega) u5 rs (0, (got t.raw (wd s)).2, (⟨#[]⟩ : ByteArray), []) [(.int .i64 0), (.bool (got t.raw (wd s)).2), (.string (⟨#[]⟩ : ByteArray)), (.slice none 0 0)] (fun _ => True) (fun _ => False) rfl rfl (say_flat _ _ _ _ _) (fun _ hk => hk.elim) ?aF ?aO ?aB ?aS ?aL ?_; (case aF => exact fun _ _ => trivial); (case aO => exact (Kd.S_mono H2.out.row (fun _ hk => ⟨hk, fun h => h⟩))); (case aB => exact (Below.refl _ _)); (case aS => exact H2.out.fr.size); (case aL => have h1 := HZ.out.2.2.1; have h2 := HL.out; have h3 := HLL.out; omega); intro v1 w3 ho hb hg hat)))
              have HE := hid (H2.out.append ho hg)
              clear ho hb hg hat e0 e1 e2 e3
              go_wp2_with fail
              go_roundg k1
              case measure => omega
              case rel => exact ⟨i + 1, n, t, rs ++ [(0, (got t.raw (wd s)).2, (⟨#[]⟩ : ByteArray), [])], rfl, HL.out, by have := HG.out; show k1 + (i + 1) = _; omega, HE.out, HS.out.2.2.1, by have := HS.out.2.2.2; omega, by rw [List.length_append, HZ.out.2.2.1]; rfl, by rw [← HZ.out.2.2.2.1, HX.out, List.append_assoc]; show _ = rs ++ (tellT _ _ :: toldT (stepT _ _) _); rw [HS.out.1, HS.out.2.1]; rfl, by rw [← HZ.out.2.2.2.2, HX.out]; show _ = runT (stepT _ _) _; rw [HS.out.1]⟩
            · by_cases h4 : d = 4
              · subst h4
                go_wp2_with fail
                refine (Keys_any base Tb n t _ HW.out.tree (HZ.out.1.fit (by have := HLL.out; have := HL.out; omega))).mono ?_
                rintro e w2 ⟨q, rfl, hq, hb⟩
                rw [alloc_size, alloc_size] at hq hb
                have hB2 : Below wr.heap.size wr w2 := (((Below.refl _ _).alloc (Nat.le_refl _) _).alloc (by rw [alloc_size]; exact Nat.le_succ _) _).trans ⟨hb.os, hb.tape, hb.output, hb.size, fun k hk => hb.block k (by omega)⟩
                have hX0 : Blk w2 (wr.heap.size + 1) #[(.int .i64 0), (.bool false), (.string (⟨#[]⟩ : ByteArray)), (.slice none 0 0)] 26 := by
                  have h0_ := (Blk.new (wr.alloc (.cells #[.int .i64 4, .string s, .int .i64 v] 30)) #[.int .i64 0, .bool false, .string (⟨#[]⟩ : ByteArray), .slice none 0 0] 26)
                  rw [alloc_size] at h0_
                  exact h0_.below hb (Nat.lt_succ_self _)
                obtain ⟨Aq, cq, rfl, hcq, hCq⟩ := Kd.R_reads hq
                have HC2 := hid hCq
                have HB2 := hid hB2
                have HX2 := hid hX0
                have HLN : Hid ((keysT t.raw).length ≤ 1099511627777) := hid (by have h1 := (show (keysT t.raw).length ≤ i from by unfold keysT; rw [texts_len]; exact HZ.out.1.many); have h2 := HLL.out; have h3 := HL.out; omega)
                clear hcq hCq hB2 hX0 hq hb x0 x1 x2 HW
                go_upto_region 23 with ((with_reducible refine gate_builtin (b := .append) (xs := #[.const (.slice none 0 0), .tmp 52]) rfl ?_); at_builtin; go_loud (refine Kd.R_append_rows Kd.string (w0 := w2) (wr.heap.size + 2) rfl (.const (.slice none 0 0)) (.tmp 52) 24 9 (.string (⟨#[]⟩ : ByteArray)) 16 rfl Try.underlying24 info9 rfl (by decide) (by omega) (.slice none 0 0) [] (keysT t.raw) Aq (keysT t.raw).length cq (fun _ => True) (fun _ => False) rfl rfl (Kd.R_nil _ _ _ _ _) HC2.out (fun _ _ h => h) (fun _ h => h.elim) (fun _ _ => trivial) (Below.refl _ _) (by have h_ := HX2.out.lt; omega) (by have h_ := HLN.out; rw [List.length_nil]; omega) ?_; intro v1 w3 ho hb hg hat; rw [List.nil_append] at ho; obtain ⟨A1, c1, rfl⟩ := Kd.R_slice ho; have HO := hid ho; have HB3 := hid hb; have HX3 := hid (HX2.out.below hb (by omega)); have d3 : w3.cell? ⟨wr.heap.size + 1, 3, none⟩ = some (.slice none 0 0) := HX3.out.cell 3; have f3 : w3.frozen? ⟨wr.heap.size + 1, 3, none⟩ = false := HX3.out.free 3; clear ho hb hg hat HC2 HX2))
                have hB4 : Below wr.heap.size wr (w3.setCell ⟨wr.heap.size + 1, 3, none⟩ (.slice A1 (keysT t.raw).length c1)) := (HB2.out.trans ⟨HB3.out.os, HB3.out.tape, HB3.out.output, HB3.out.size, fun k hk => HB3.out.block k (by omega)⟩).setCell (p := ⟨wr.heap.size + 1, 3, none⟩) (Nat.le_succ _) _
                have hX : Blk (w3.setCell ⟨wr.heap.size + 1, 3, none⟩ (.slice A1 (keysT t.raw).length c1)) (wr.heap.size + 1) #[.int .i64 0, .bool false, .string (⟨#[]⟩ : ByteArray), .slice A1 (keysT t.raw).length c1] 26 := HX3.out.set 3 _
                have hK : Kd.string.R 9 (w3.setCell ⟨wr.heap.size + 1, 3, none⟩ (.slice A1 (keysT t.raw).length c1)) (wr.heap.size + 2) (fun k => k ≠ wr.heap.size + 1) (.slice A1 (keysT t.raw).length c1) (keysT t.raw) := Kd.R_far (p := ⟨wr.heap.size + 1, 3, none⟩) (Kd.R_reok (ok := fun k => k ≠ wr.heap.size + 1) rfl HO.out (fun k hk => by have := Kd.R_base HO.out k hk; omega)) (fun _ h => h) _
                generalize w3.setCell ⟨wr.heap.size + 1, 3, none⟩ (.slice A1 (keysT t.raw).length c1) = w4 at hB4 hX hK ⊢
                clear HB3 HO HX3 HB2 d3 f3
                have H2 := hid (HI.out.1.below hB4)
                have HU : Hid (∀ k_, u5.ownBlock = some k_ → k_ < wr.heap.size) := hid (fun k_ hk => (Kd.S_lt HI.out.1.row k_ hk))
                have HS2 : Hid (Kd.S sayK 26 w4 w.heap.size (fun k_ => True ∧ ¬ wr.heap.size + 2 ≤ k_) u5 rs) := hid (Kd.S_below (Kd.S_mono (Kd.S_bound HI.out.1.row) (fun k_ hk => ⟨trivial, by have := hk.2.2.1; omega⟩)) hB4)
                have HM := hid (say_rows (base := w.heap.size) (by have h1 := HI.out.1.fr.size; omega) hK 0 false (⟨#[]⟩ : ByteArray))
                have e0 : w4.cell? ⟨wr.heap.size + 1, 0, none⟩ = some ((.int .i64 0)) := hX.cell 0
                have e1 : w4.cell? ⟨wr.heap.size + 1, 1, none⟩ = some ((.bool false)) := hX.cell 1
                have e2 : w4.cell? ⟨wr.heap.size + 1, 2, none⟩ = some ((.string (⟨#[]⟩ : ByteArray))) := hX.cell 2
                have e3 : w4.cell? ⟨wr.heap.size + 1, 3, none⟩ = some ((.slice A1 (keysT t.raw).length c1)) := hX.cell 3
                clear hX hK hB4
                have HS : Hid (stepT (n, t.raw) (4, s, v) = (n, t.raw) ∧ tellT (n, t.raw) (4, s, v) = (0, false, (⟨#[]⟩ : ByteArray), keysT t.raw) ∧ Okt (i + 1) t.raw ∧ -((i : Int) + 1) ≤ n ∧ n ≤ (i : Int) + 1) := hid ⟨rfl, rfl, HZ.out.1.more, by have := HZ.out.2.1; omega, by have := HZ.out.2.1; omega⟩
                go_wp2_with (first | (at_builtin; go_loud (refine Kd.S_append sayK (w0 := w4) (W := w4) w.heap.size rfl (.tmp 75) (.tmp 77) 35 26 (.agg #[(.int .i64 0), (.bool false), (.string (⟨#[]⟩ : ByteArray)), (.slice none 0 0)]) 56 rfl Try.underlying35 infoSay rfl (by decide) (by omega) u5 rs (0, false, (⟨#[]⟩ : ByteArray), keysT t.raw) [(.int .i64 0), (.bool false), (.string (⟨#[]⟩ : ByteArray)), (.slice A1 (keysT t.raw).length c1)] (fun _ => True) (fun k_ => wr.heap.size + 2 ≤ k_) rfl rfl HM.out (fun k_ hk => ⟨trivial, fun e_ => by have := HU.out k_ e_.symm; omega⟩) ?aF ?aO ?aB ?aS ?aL ?_; (case aF => exact fun _ _ => trivial); (case aO => exact HS2.out); (case aB => exact (Below.refl _ _)); (case aS => exact H2.out.fr.size); (case aL => have h1 := HZ.out.2.2.1; have h2 := HL.out; have h3 := HLL.out; omega); intro v1 w3 ho hb hg hat)))
                have HE := hid (H2.out.append ho hg)
                clear ho hb hg hat e0 e1 e2 e3
                go_wp2_with fail
                go_roundg k1
                case measure => omega
                case rel => exact ⟨i + 1, n, t, rs ++ [(0, false, (⟨#[]⟩ : ByteArray), keysT t.raw)], rfl, HL.out, by have := HG.out; show k1 + (i + 1) = _; omega, HE.out, HS.out.2.2.1, by have := HS.out.2.2.2; omega, by rw [List.length_append, HZ.out.2.2.1]; rfl, by rw [← HZ.out.2.2.2.1, HX.out, List.append_assoc]; show _ = rs ++ (tellT _ _ :: toldT (stepT _ _) _); rw [HS.out.1, HS.out.2.1]; rfl, by rw [← HZ.out.2.2.2.2, HX.out]; show _ = runT (stepT _ _) _; rw [HS.out.1]⟩
              · by_cases h5 : d = 5
                · subst h5
                  go_wp2_with fail
                  refine (Prefix_any base Tb n t s _ HW.out.tree (HZ.out.1.fit (by have := HLL.out; have := HL.out; omega)) HSZ.out).mono ?_
                  rintro e w2 ⟨q, rfl, hq, hb⟩
                  rw [alloc_size, alloc_size] at hq hb
                  have hB2 : Below wr.heap.size wr w2 := (((Below.refl _ _).alloc (Nat.le_refl _) _).alloc (by rw [alloc_size]; exact Nat.le_succ _) _).trans ⟨hb.os, hb.tape, hb.output, hb.size, fun k hk => hb.block k (by omega)⟩
                  have hX0 : Blk w2 (wr.heap.size + 1) #[(.int .i64 0), (.bool false), (.string (⟨#[]⟩ : ByteArray)), (.slice none 0 0)] 26 := by
                    have h0_ := (Blk.new (wr.alloc (.cells #[.int .i64 5, .string s, .int .i64 v] 30)) #[.int .i64 0, .bool false, .string (⟨#[]⟩ : ByteArray), .slice none 0 0] 26)
                    rw [alloc_size] at h0_
                    exact h0_.below hb (Nat.lt_succ_self _)
                  obtain ⟨Aq, cq, rfl, hcq, hCq⟩ := Kd.R_reads hq
                  have HC2 := hid hCq
                  have HB2 := hid hB2
                  have HX2 := hid hX0
                  have HLN : Hid ((keysOf t.raw s).length ≤ 1099511627777) := hid (by have h1 := keysOf_len HZ.out.1 s; have h2 := HLL.out; have h3 := HL.out; omega)
                  clear hcq hCq hB2 hX0 hq hb x0 x1 x2 HW
                  go_upto_region 23 with ((with_reducible refine gate_builtin (b := .append) (xs := #[.const (.slice none 0 0), .tmp 60]) rfl ?_); at_builtin; go_loud (refine Kd.R_append_rows Kd.string (w0 := w2) (wr.heap.size + 2) rfl (.const (.slice none 0 0)) (.tmp 60) 24 9 (.string (⟨#[]⟩ : ByteArray)) 16 rfl Try.underlying24 info9 rfl (by decide) (by omega) (.slice none 0 0) [] (keysOf t.raw s) Aq (keysOf t.raw s).length cq (fun _ => True) (fun _ => False) rfl rfl (Kd.R_nil _ _ _ _ _) HC2.out (fun _ _ h => h) (fun _ h => h.elim) (fun _ _ => trivial) (Below.refl _ _) (by have h_ := HX2.out.lt; omega) (by have h_ := HLN.out; rw [List.length_nil]; omega) ?_; intro v1 w3 ho hb hg hat; rw [List.nil_append] at ho; obtain ⟨A1, c1, rfl⟩ := Kd.R_slice ho; have HO := hid ho; have HB3 := hid hb; have HX3 := hid (HX2.out.below hb (by omega)); have d3 : w3.cell? ⟨wr.heap.size + 1, 3, none⟩ = some (.slice none 0 0) := HX3.out.cell 3; have f3 : w3.frozen? ⟨wr.heap.size + 1, 3, none⟩ = false := HX3.out.free 3; clear ho hb hg hat HC2 HX2))
                  have hB4 : Below wr.heap.size wr (w3.setCell ⟨wr.heap.size + 1, 3, none⟩ (.slice A1 (keysOf t.raw s).length c1)) := (HB2.out.trans ⟨HB3.out.os, HB3.out.tape, HB3.out.output, HB3.out.size, fun k hk => HB3.out.block k (by omega)⟩).setCell (p := ⟨wr.heap.size + 1, 3, none⟩) (Nat.le_succ _) _
                  have hX : Blk (w3.setCell ⟨wr.heap.size + 1, 3, none⟩ (.slice A1 (keysOf t.raw s).length c1)) (wr.heap.size + 1) #[.int .i64 0, .bool false, .string (⟨#[]⟩ : ByteArray), .slice A1 (keysOf t.raw s).length c1] 26 := HX3.out.set 3 _
                  have hK : Kd.string.R 9 (w3.setCell ⟨wr.heap.size + 1, 3, none⟩ (.slice A1 (keysOf t.raw s).length c1)) (wr.heap.size + 2) (fun k => k ≠ wr.heap.size + 1) (.slice A1 (keysOf t.raw s).length c1) (keysOf t.raw s) := Kd.R_far (p := ⟨wr.heap.size + 1, 3, none⟩) (Kd.R_reok (ok := fun k => k ≠ wr.heap.size + 1) rfl HO.out (fun k hk => by have := Kd.R_base HO.out k hk; omega)) (fun _ h => h) _
                  generalize w3.setCell ⟨wr.heap.size + 1, 3, none⟩ (.slice A1 (keysOf t.raw s).length c1) = w4 at hB4 hX hK ⊢
                  clear HB3 HO HX3 HB2 d3 f3
                  have H2 := hid (HI.out.1.below hB4)
                  have HU : Hid (∀ k_, u5.ownBlock = some k_ → k_ < wr.heap.size) := hid (fun k_ hk => (Kd.S_lt HI.out.1.row k_ hk))
                  have HS2 : Hid (Kd.S sayK 26 w4 w.heap.size (fun k_ => True ∧ ¬ wr.heap.size + 2 ≤ k_) u5 rs) := hid (Kd.S_below (Kd.S_mono (Kd.S_bound HI.out.1.row) (fun k_ hk => ⟨trivial, by have := hk.2.2.1; omega⟩)) hB4)
                  have HM := hid (say_rows (base := w.heap.size) (by have h1 := HI.out.1.fr.size; omega) hK 0 false (⟨#[]⟩ : ByteArray))
                  have e0 : w4.cell? ⟨wr.heap.size + 1, 0, none⟩ = some ((.int .i64 0)) := hX.cell 0
                  have e1 : w4.cell? ⟨wr.heap.size + 1, 1, none⟩ = some ((.bool false)) := hX.cell 1
                  have e2 : w4.cell? ⟨wr.heap.size + 1, 2, none⟩ = some ((.string (⟨#[]⟩ : ByteArray))) := hX.cell 2
                  have e3 : w4.cell? ⟨wr.heap.size + 1, 3, none⟩ = some ((.slice A1 (keysOf t.raw s).length c1)) := hX.cell 3
                  clear hX hK hB4
                  have HS : Hid (stepT (n, t.raw) (5, s, v) = (n, t.raw) ∧ tellT (n, t.raw) (5, s, v) = (0, false, (⟨#[]⟩ : ByteArray), keysOf t.raw s) ∧ Okt (i + 1) t.raw ∧ -((i : Int) + 1) ≤ n ∧ n ≤ (i : Int) + 1) := hid ⟨rfl, rfl, HZ.out.1.more, by have := HZ.out.2.1; omega, by have := HZ.out.2.1; omega⟩
                  go_wp2_with (first | (at_builtin; go_loud (refine Kd.S_append sayK (w0 := w4) (W := w4) w.heap.size rfl (.tmp 75) (.tmp 77) 35 26 (.agg #[(.int .i64 0), (.bool false), (.string (⟨#[]⟩ : ByteArray)), (.slice none 0 0)]) 56 rfl Try.underlying35 infoSay rfl (by decide) (by omega) u5 rs (0, false, (⟨#[]⟩ : ByteArray), keysOf t.raw s) [(.int .i64 0), (.bool false), (.string (⟨#[]⟩ : ByteArray)), (.slice A1 (keysOf t.raw s).length c1)] (fun _ => True) (fun k_ => wr.heap.size + 2 ≤ k_) rfl rfl HM.out (fun k_ hk => ⟨trivial, fun e_ => by have := HU.out k_ e_.symm; omega⟩) ?aF ?aO ?aB ?aS ?aL ?_; (case aF => exact fun _ _ => trivial); (case aO => exact HS2.out); (case aB => exact (Below.refl _ _)); (case aS => exact H2.out.fr.size); (case aL => have h1 := HZ.out.2.2.1; have h2 := HL.out; have h3 := HLL.out; omega); intro v1 w3 ho hb hg hat)))
                  have HE := hid (H2.out.append ho hg)
                  clear ho hb hg hat e0 e1 e2 e3
                  go_wp2_with fail
                  go_roundg k1
                  case measure => omega
                  case rel => exact ⟨i + 1, n, t, rs ++ [(0, false, (⟨#[]⟩ : ByteArray), keysOf t.raw s)], rfl, HL.out, by have := HG.out; show k1 + (i + 1) = _; omega, HE.out, HS.out.2.2.1, by have := HS.out.2.2.2; omega, by rw [List.length_append, HZ.out.2.2.1]; rfl, by rw [← HZ.out.2.2.2.1, HX.out, List.append_assoc]; show _ = rs ++ (tellT _ _ :: toldT (stepT _ _) _); rw [HS.out.1, HS.out.2.1]; rfl, by rw [← HZ.out.2.2.2.2, HX.out]; show _ = runT (stepT _ _) _; rw [HS.out.1]⟩
                · by_cases h6 : d = 6
                  · subst h6
                    go_wp2_with fail
                    refine (Longest_any base Tb n t s _ HW.out.tree HSZ.out).mono ?_
                    rintro e w2 ⟨rfl, rfl⟩
                    have hB2 : Below wr.heap.size wr ((wr.alloc (.cells #[.int .i64 6, .string s, .int .i64 v] 30)).alloc (.cells #[.int .i64 0, .bool false, .string (⟨#[]⟩ : ByteArray), .slice none 0 0] 26)) := (((Below.refl _ _).alloc (Nat.le_refl _) _).alloc (by rw [alloc_size]; exact Nat.le_succ _) _)
                    have hX0 : Blk ((wr.alloc (.cells #[.int .i64 6, .string s, .int .i64 v] 30)).alloc (.cells #[.int .i64 0, .bool false, .string (⟨#[]⟩ : ByteArray), .slice none 0 0] 26)) (wr.heap.size + 1) #[(.int .i64 0), (.bool false), (.string (⟨#[]⟩ : ByteArray)), (.slice none 0 0)] 26 := by
                      have h0_ := (Blk.new (wr.alloc (.cells #[.int .i64 6, .string s, .int .i64 v] 30)) #[.int .i64 0, .bool false, .string (⟨#[]⟩ : ByteArray), .slice none 0 0] 26)
                      rw [alloc_size] at h0_
                      exact h0_
                    generalize ((wr.alloc (.cells #[.int .i64 6, .string s, .int .i64 v] 30)).alloc (.cells #[.int .i64 0, .bool false, .string (⟨#[]⟩ : ByteArray), .slice none 0 0] 26)) = W2 at hB2 hX0 ⊢
                    have g2 : W2.cell? ⟨wr.heap.size + 1, 2, none⟩ = some (.string (⟨#[]⟩ : ByteArray)) := hX0.cell 2
                    have f2 : W2.frozen? ⟨wr.heap.size + 1, 2, none⟩ = false := hX0.free 2
                    have HQ := hid (And.intro hX0 hB2)
                    clear hX0 hB2 x0 x1 x2 HW
                    go_upto_region 23 with fail
                    obtain ⟨hX0, hB2⟩ := HQ.out
                    have H2 : Hid (Inv base Tb w n t u5 rs (W2.setCell ⟨wr.heap.size + 1, 2, none⟩ (.string (longS t.raw s)))) := hid (HI.out.1.below (hB2.setCell (p := ⟨wr.heap.size + 1, 2, none⟩) (Nat.le_succ _) (.string (longS t.raw s))))
                    have hX : Blk (W2.setCell ⟨wr.heap.size + 1, 2, none⟩ (.string (longS t.raw s))) (wr.heap.size + 1) #[(.int .i64 0), (.bool false), (.string (longS t.raw s)), (.slice none 0 0)] 26 := (hX0.set 2 (.string (longS t.raw s)))
                    have e0 : (W2.setCell ⟨wr.heap.size + 1, 2, none⟩ (.string (longS t.raw s))).cell? ⟨wr.heap.size + 1, 0, none⟩ = some ((.int .i64 0)) := hX.cell 0
                    have e1 : (W2.setCell ⟨wr.heap.size + 1, 2, none⟩ (.string (longS t.raw s))).cell? ⟨wr.heap.size + 1, 1, none⟩ = some ((.bool false)) := hX.cell 1
                    have e2 : (W2.setCell ⟨wr.heap.size + 1, 2, none⟩ (.string (longS t.raw s))).cell? ⟨wr.heap.size + 1, 2, none⟩ = some ((.string (longS t.raw s))) := hX.cell 2
                    have e3 : (W2.setCell ⟨wr.heap.size + 1, 2, none⟩ (.string (longS t.raw s))).cell? ⟨wr.heap.size + 1, 3, none⟩ = some ((.slice none 0 0)) := hX.cell 3
                    clear hX hX0 hB2 HQ f2 g2
                    generalize (W2.setCell ⟨wr.heap.size + 1, 2, none⟩ (.string (longS t.raw s))) = w2 at H2 e0 e1 e2 e3 ⊢
                    have HS : Hid (stepT (n, t.raw) (6, s, v) = (n, t.raw) ∧ tellT (n, t.raw) (6, s, v) = (0, false, longS t.raw s, []) ∧ Okt (i + 1) t.raw ∧ -((i : Int) + 1) ≤ n ∧ n ≤ (i : Int) + 1) := hid ⟨rfl, rfl, HZ.out.1.more, by have := HZ.out.2.1; omega, by have := HZ.out.2.1; omega⟩
                    go_wp2_with (first | (at_builtin; go_loud (refine Kd.S_append sayK (w0 := w2) (W := w2) w.heap.size rfl (.tmp 75) (.tmp 77) 35 26 (.agg #[(.int .i64 0), (.bool false), (.string (⟨#[]⟩ : ByteArray)), (.slice none 0 0)]) 56 rfl Try.underlying35 infoSay rfl (by decide) (by omega) u5 rs (0, false, longS t.raw s, []) [(.int .i64 0), (.bool false), (.string (longS t.raw s)), (.slice none 0 0)] (fun _ => True) (fun _ => False) rfl rfl (say_flat _ _ _ _ _) (fun _ hk => hk.elim) ?aF ?aO ?aB ?aS ?aL ?_; (case aF => exact fun _ _ => trivial); (case aO => exact (Kd.S_mono H2.out.row (fun _ hk => ⟨hk, fun h => h⟩))); (case aB => exact (Below.refl _ _)); (case aS => exact H2.out.fr.size); (case aL => have h1 := HZ.out.2.2.1; have h2 := HL.out; have h3 := HLL.out; omega); intro v1 w3 ho hb hg hat)))
                    have HE := hid (H2.out.append ho hg)
                    clear ho hb hg hat e0 e1 e2 e3
                    go_wp2_with fail
                    go_roundg k1
                    case measure => omega
                    case rel => exact ⟨i + 1, n, t, rs ++ [(0, false, longS t.raw s, [])], rfl, HL.out, by have := HG.out; show k1 + (i + 1) = _; omega, HE.out, HS.out.2.2.1, by have := HS.out.2.2.2; omega, by rw [List.length_append, HZ.out.2.2.1]; rfl, by rw [← HZ.out.2.2.2.1, HX.out, List.append_assoc]; show _ = rs ++ (tellT _ _ :: toldT (stepT _ _) _); rw [HS.out.1, HS.out.2.1]; rfl, by rw [← HZ.out.2.2.2.2, HX.out]; show _ = runT (stepT _ _) _; rw [HS.out.1]⟩
                  · by_cases h7 : d = 7
                    · subst h7
                      go_wp2_with fail
                      refine (Size_any base Tb n t _ HW.out.tree).mono ?_
                      rintro e w2 ⟨rfl, rfl⟩
                      have hB2 : Below wr.heap.size wr ((wr.alloc (.cells #[.int .i64 7, .string s, .int .i64 v] 30)).alloc (.cells #[.int .i64 0, .bool false, .string (⟨#[]⟩ : ByteArray), .slice none 0 0] 26)) := (((Below.refl _ _).alloc (Nat.le_refl _) _).alloc (by rw [alloc_size]; exact Nat.le_succ _) _)
                      have hX0 : Blk ((wr.alloc (.cells #[.int .i64 7, .string s, .int .i64 v] 30)).alloc (.cells #[.int .i64 0, .bool false, .string (⟨#[]⟩ : ByteArray), .slice none 0 0] 26)) (wr.heap.size + 1) #[(.int .i64 0), (.bool false), (.string (⟨#[]⟩ : ByteArray)), (.slice none 0 0)] 26 := by
                        have h0_ := (Blk.new (wr.alloc (.cells #[.int .i64 7, .string s, .int .i64 v] 30)) #[.int .i64 0, .bool false, .string (⟨#[]⟩ : ByteArray), .slice none 0 0] 26)
                        rw [alloc_size] at h0_
                        exact h0_
                      generalize ((wr.alloc (.cells #[.int .i64 7, .string s, .int .i64 v] 30)).alloc (.cells #[.int .i64 0, .bool false, .string (⟨#[]⟩ : ByteArray), .slice none 0 0] 26)) = W2 at hB2 hX0 ⊢
                      have g0 : W2.cell? ⟨wr.heap.size + 1, 0, none⟩ = some (.int .i64 0) := hX0.cell 0
                      have f0 : W2.frozen? ⟨wr.heap.size + 1, 0, none⟩ = false := hX0.free 0
                      have HQ := hid (And.intro hX0 hB2)
                      clear hX0 hB2 x0 x1 x2 HW
                      go_upto_region 23 with fail
                      obtain ⟨hX0, hB2⟩ := HQ.out
                      have H2 : Hid (Inv base Tb w n t u5 rs (W2.setCell ⟨wr.heap.size + 1, 0, none⟩ (.int .i64 n))) := hid (HI.out.1.below (hB2.setCell (p := ⟨wr.heap.size + 1, 0, none⟩) (Nat.le_succ _) (.int .i64 n)))
                      have hX : Blk (W2.setCell ⟨wr.heap.size + 1, 0, none⟩ (.int .i64 n)) (wr.heap.size + 1) #[(.int .i64 n), (.bool false), (.string (⟨#[]⟩ : ByteArray)), (.slice none 0 0)] 26 := (hX0.set 0 (.int .i64 n))
                      have e0 : (W2.setCell ⟨wr.heap.size + 1, 0, none⟩ (.int .i64 n)).cell? ⟨wr.heap.size + 1, 0, none⟩ = some ((.int .i64 n)) := hX.cell 0
                      have e1 : (W2.setCell ⟨wr.heap.size + 1, 0, none⟩ (.int .i64 n)).cell? ⟨wr.heap.size + 1, 1, none⟩ = some ((.bool false)) := hX.cell 1
                      have e2 : (W2.setCell ⟨wr.heap.size + 1, 0, none⟩ (.int .i64 n)).cell? ⟨wr.heap.size + 1, 2, none⟩ = some ((.string (⟨#[]⟩ : ByteArray))) := hX.cell 2
                      have e3 : (W2.setCell ⟨wr.heap.size + 1, 0, none⟩ (.int .i64 n)).cell? ⟨wr.heap.size + 1, 3, none⟩ = some ((.slice none 0 0)) := hX.cell 3
                      clear hX hX0 hB2 HQ f0 g0
                      generalize (W2.setCell ⟨wr.heap.size + 1, 0, none⟩ (.int .i64 n)) = w2 at H2 e0 e1 e2 e3 ⊢
                      have HS : Hid (stepT (n, t.raw) (7, s, v) = (n, t.raw) ∧ tellT (n, t.raw) (7, s, v) = (n, false, (⟨#[]⟩ : ByteArray), []) ∧ Okt (i + 1) t.raw ∧ -((i : Int) + 1) ≤ n ∧ n ≤ (i : Int) + 1) := hid ⟨rfl, rfl, HZ.out.1.more, by have := HZ.out.2.1; omega, by have := HZ.out.2.1; omega⟩
                      go_wp2_with (first | (at_builtin; go_loud (refine Kd.S_append sayK (w0 := w2) (W := w2) w.heap.size rfl (.tmp 75) (.tmp 77) 35 26 (.agg #[(.int .i64 0), (.bool false), (.string (⟨#[]⟩ : ByteArray)), (.slice none 0 0)]) 56 rfl Try.underlying35 infoSay rfl (by decide) (by omega) u5 rs (n, false, (⟨#[]⟩ : ByteArray), []) [(.int .i64 n), (.bool false), (.string (⟨#[]⟩ : ByteArray)), (.slice none 0 0)] (fun _ => True) (fun _ => False) rfl rfl (say_flat _ _ _ _ _) (fun _ hk => hk.elim) ?aF ?aO ?aB ?aS ?aL ?_; (case aF => exact fun _ _ => trivial); (case aO => exact (Kd.S_mono H2.out.row (fun _ hk => ⟨hk, fun h => h⟩))); (case aB => exact (Below.refl _ _)); (case aS => exact H2.out.fr.size); (case aL => have h1 := HZ.out.2.2.1; have h2 := HL.out; have h3 := HLL.out; omega); intro v1 w3 ho hb hg hat)))
                      have HE := hid (H2.out.append ho hg)
                      clear ho hb hg hat e0 e1 e2 e3
                      go_wp2_with fail
                      go_roundg k1
                      case measure => omega
                      case rel => exact ⟨i + 1, n, t, rs ++ [(n, false, (⟨#[]⟩ : ByteArray), [])], rfl, HL.out, by have := HG.out; show k1 + (i + 1) = _; omega, HE.out, HS.out.2.2.1, by have := HS.out.2.2.2; omega, by rw [List.length_append, HZ.out.2.2.1]; rfl, by rw [← HZ.out.2.2.2.1, HX.out, List.append_assoc]; show _ = rs ++ (tellT _ _ :: toldT (stepT _ _) _); rw [HS.out.1, HS.out.2.1]; rfl, by rw [← HZ.out.2.2.2.2, HX.out]; show _ = runT (stepT _ _) _; rw [HS.out.1]⟩
                    · have hX : Blk ((wr.alloc (.cells #[.int .i64 d, .string s, .int .i64 v] 30)).alloc (.cells #[.int .i64 0, .bool false, .string (⟨#[]⟩ : ByteArray), .slice none 0 0] 26)) (wr.heap.size + 1) #[(.int .i64 0), (.bool false), (.string (⟨#[]⟩ : ByteArray)), (.slice none 0 0)] 26 := by
                        have h0_ := (Blk.new (wr.alloc (.cells #[.int .i64 d, .string s, .int .i64 v] 30)) #[.int .i64 0, .bool false, .string (⟨#[]⟩ : ByteArray), .slice none 0 0] 26)
                        rw [alloc_size] at h0_
                        exact h0_
                      have e0 : ((wr.alloc (.cells #[.int .i64 d, .string s, .int .i64 v] 30)).alloc (.cells #[.int .i64 0, .bool false, .string (⟨#[]⟩ : ByteArray), .slice none 0 0] 26)).cell? ⟨wr.heap.size + 1, 0, none⟩ = some ((.int .i64 0)) := hX.cell 0
                      have e1 : ((wr.alloc (.cells #[.int .i64 d, .string s, .int .i64 v] 30)).alloc (.cells #[.int .i64 0, .bool false, .string (⟨#[]⟩ : ByteArray), .slice none 0 0] 26)).cell? ⟨wr.heap.size + 1, 1, none⟩ = some ((.bool false)) := hX.cell 1
                      have e2 : ((wr.alloc (.cells #[.int .i64 d, .string s, .int .i64 v] 30)).alloc (.cells #[.int .i64 0, .bool false, .string (⟨#[]⟩ : ByteArray), .slice none 0 0] 26)).cell? ⟨wr.heap.size + 1, 2, none⟩ = some ((.string (⟨#[]⟩ : ByteArray))) := hX.cell 2
                      have e3 : ((wr.alloc (.cells #[.int .i64 d, .string s, .int .i64 v] 30)).alloc (.cells #[.int .i64 0, .bool false, .string (⟨#[]⟩ : ByteArray), .slice none 0 0] 26)).cell? ⟨wr.heap.size + 1, 3, none⟩ = some ((.slice none 0 0)) := hX.cell 3
                      have HS : Hid (stepT (n, t.raw) (d, s, v) = (n, t.raw) ∧ tellT (n, t.raw) (d, s, v) = (0, false, (⟨#[]⟩ : ByteArray), []) ∧ Okt (i + 1) t.raw ∧ -((i : Int) + 1) ≤ n ∧ n ≤ (i : Int) + 1) :=
                        hid ⟨(if_neg h0).trans (if_neg h1), (if_neg h2).trans ((if_neg h3).trans ((if_neg h4).trans ((if_neg h5).trans ((if_neg h6).trans (if_neg h7))))), HZ.out.1.more, by have := HZ.out.2.1; omega, by have := HZ.out.2.1; omega⟩
                      clear hX
                      go_upto_region 23 with fail
                      generalize ((wr.alloc (.cells #[.int .i64 d, .string s, .int .i64 v] 30)).alloc (.cells #[.int .i64 0, .bool false, .string (⟨#[]⟩ : ByteArray), .slice none 0 0] 26)) = w2 at HW e0 e1 e2 e3 ⊢
                      clear x0 x1 x2
                      go_wp2_with (first | (at_builtin; go_loud (refine Kd.S_append sayK (w0 := w2) (W := w2) w.heap.size rfl (.tmp 75) (.tmp 77) 35 26 (.agg #[(.int .i64 0), (.bool false), (.string (⟨#[]⟩ : ByteArray)), (.slice none 0 0)]) 56 rfl Try.underlying35 infoSay rfl (by decide) (by omega) u5 rs (0, false, (⟨#[]⟩ : ByteArray), []) [(.int .i64 0), (.bool false), (.string (⟨#[]⟩ : ByteArray)), (.slice none 0 0)] (fun _ => True) (fun _ => False) rfl rfl (say_flat _ _ _ _ _) (fun _ hk => hk.elim) ?aF ?aO ?aB ?aS ?aL ?_; (case aF => exact fun _ _ => trivial); (case aO => exact (Kd.S_mono HW.out.row (fun _ hk => ⟨hk, fun h => h⟩))); (case aB => exact (Below.refl _ _)); (case aS => exact HW.out.fr.size); (case aL => have h1 := HZ.out.2.2.1; have h2 := HL.out; have h3 := HLL.out; omega); intro v1 w3 ho hb hg hat)))
                      have HE := hid (HW.out.append ho hg)
                      clear ho hb hg hat e0 e1 e2 e3
                      go_wp2_with fail
                      go_roundg k1
                      case measure => omega
                      case rel => exact ⟨i + 1, n, t, rs ++ [(0, false, (⟨#[]⟩ : ByteArray), [])], rfl, HL.out, by have := HG.out; show k1 + (i + 1) = _; omega, HE.out, HS.out.2.2.1, by have := HS.out.2.2.2; omega, by rw [List.length_append, HZ.out.2.2.1]; rfl, by rw [← HZ.out.2.2.2.1, HX.out, List.append_assoc]; show _ = rs ++ (tellT _ _ :: toldT (stepT _ _) _); rw [HS.out.1, HS.out.2.1]; rfl, by rw [← HZ.out.2.2.2.2, HX.out]; show _ = runT (stepT _ _) _; rw [HS.out.1]⟩
    · have e : i = l.length := by omega
      subst e
      have HF : Hid (rs = toldT (0, .nil) l ∧ (n, t.raw) = runT (0, .nil) l) := by
        have h1 := HI.out.2.2.2.2.1
        have h2 := HI.out.2.2.2.2.2
        rw [List.drop_length] at h1 h2
        exact hid ⟨by simpa [toldT] using h1, h2⟩
      go_wp2_with fail
      go_ret
      exact ⟨n, t, _, rfl, HF.out.2, HI.out.2.1, HF.out.1 ▸ HI.out.1⟩
set_option maxRecDepth 100000 in
theorem TrieRun_any (A : Option Addr) (c : Nat) (l : List Wd3) (w : World) (hC : Kd.C wordK w A l.length l) (hl : l.length ≤ 1099511627776) (hs : ∀ a ∈ l, a.2.1.size ≤ 1099511627776) :
    Calls Try.prog 14 #[.slice A l.length c] w fun e w' => ∃ v, e = .returned v ∧ Kd.S sayK 26 w' w.heap.size (fun _ => True) v (toldT (0, .nil) l) ∧ Below w.heap.size w w' := by
  have HC := hid hC
  have HL := hid hl
  have HS := hid hs
  clear hC hl hs
  go_enter Try.func14, Try.ntmps14
  go_wp2_with fail
  refine (New_any w).mono ?_
  rintro e w1 ⟨Tb, rfl, hT, hB⟩
  have HT := hid hT
  have HB := hid hB
  clear hT hB
  go_wp2_with fail
  refine (trieDo_any w.heap.size Tb w1 A c l HT.out (fun W hW => Kd.C_below HC.out (HB.out.trans hW)) HL.out HS.out).mono ?_
  rintro e w2 ⟨n, t, v, rfl, _, _, hI⟩
  have HI := hid hI
  clear hI
  go_wp2_with fail
  go_ret
  exact ⟨_, rfl, Kd.S_lower HI.out.row HB.out.size, HB.out.trans (HI.out.fr.below HB.out.size (fun k hk => hk.1))⟩
end Go.Proofs.Ytkgbflcbeeghoaa.Trie
