/- The texts with a longer prefix are those of the ones with a shorter one that begin with it: for every script. -/
import Derived.Test.YtkgbflcbeeghoaaQFnTrieNarrowx2
import Derived.IntWalk
namespace Go.Proofs.Ytkgbflcbeeghoaa.Pure
open Go Go.RowKit Go.IntWalk Go.Proofs.Ytkgbflcbeeghoaa.QFnTrieNarrow Go.Proofs.YtkgbflcbeeghoaaW.PrintWords Go.Proofs.YtkgbflcbeeghoaaW.PrintLast

theorem w1 (q : Nat) (h : q ≤ 1099511627776) : wrap64 ((q : Int) + 1) = ((q + 1 : Nat) : Int) := by rw [wrap64_in _ (by omega)]; rfl
theorem wm (q : Nat) (h : q ≤ 1099511627776) : wrap64 (((q + 1 : Nat) : Int) - 1) = (q : Int) := by rw [wrap64_in _ (by omega)]; omega
theorem rd_word {l : List S30} {i : Nat} {x : S30} (h : l[i]? = some x) : rd_T30 l (i : Int) = x := by simp [rd_T30, List.getD_eq_getElem?_getD, h]
theorem rd_str {l : List ByteArray} {i : Nat} (h : i < l.length) : rdOf ByteArray.empty l (i : Int) = l[i] := by simp [rdOf, List.getD_eq_getElem?_getD, h]
/-- All texts of a script are short. -/
def short (l : List S30) : Bool := l.all fun x => decide (x.f1.size ≤ 2147483647)
theorem fits6_row (l : List S30) (hl : l.length ≤ 2147483647) (d : Nat) : ∀ j : Nat, j + d = l.length → Ev (fun k => laws_zzFits6.l0 k l (l.length : Int) (j : Int)) (short (l.drop j)) := by
  induction d with
  | zero =>
    intro j hj
    refine Ev.step (f := fun _ => some (short (l.drop j))) (fun k => ?_) (Ev.now _)
    simp only [laws_zzFits6.l0]
    rw [if_neg (by omega), List.drop_eq_nil_of_le (by omega)]
    rfl
  | succ d ih =>
    intro j hj
    have hjl : j < l.length := by omega
    have hx : l[j]? = some l[j] := List.getElem?_eq_getElem hjl
    have hd : l.drop j = l[j] :: l.drop (j + 1) := List.drop_eq_getElem_cons hjl
    generalize l[j] = x at hx hd
    by_cases q : x.f1.size ≤ 2147483647
    · have e : short (l.drop j) = short (l.drop (j + 1)) := by rw [hd]; simp [short, q]
      rw [e]
      refine Ev.step (fun k => ?_) (ih (j + 1) (by omega))
      simp only [laws_zzFits6.l0]
      rw [if_pos (by omega), if_pos (by omega), if_pos (by omega), rd_word hx]
      unfold laws_zzFits7.f
      rw [if_neg (by omega), Option.bind_some, if_pos rfl, w1 j (by omega)]
    · have e : short (l.drop j) = false := by rw [hd]; simp [short, q]
      rw [e]
      refine Ev.step (f := fun _ => some false) (fun k => ?_) (Ev.now _)
      simp only [laws_zzFits6.l0]
      rw [if_pos (by omega), if_pos (by omega), if_pos (by omega), rd_word hx]
      unfold laws_zzFits7.f
      rw [if_pos (by omega), Option.bind_some, if_neg (by simp)]
theorem fits6_ev (l : List S30) (hl : l.length ≤ 2147483647) : Ev (fun k => laws_zzFits6.f k l) (short l) := by
  refine Ev.congr (fun k => ?_) (fits6_row l hl l.length 0 (Nat.zero_add _))
  unfold laws_zzFits6.f
  rw [if_neg (by omega)]
  rfl
theorem fits6_long (l : List S30) (hl : ¬ l.length ≤ 2147483647) (k : Nat) : laws_zzFits6.f k l = some false := by
  unfold laws_zzFits6.f
  rw [if_pos (by omega)]
abbrev run (l : List S30) : Int × TriePure.T := Trie.runT (0, .nil) (l.map word_of)
theorem runT_app : ∀ (a b : List Trie.Wd3) (p : Int × TriePure.T), Trie.runT p (a ++ b) = Trie.runT (Trie.runT p a) b
  | [], _, _ => rfl
  | _ :: a, b, _ => runT_app a b _
theorem toldT_app : ∀ (a b : List Trie.Wd3) (p : Int × TriePure.T), Trie.toldT p (a ++ b) = Trie.toldT p a ++ Trie.toldT (Trie.runT p a) b
  | [], _, _ => rfl
  | x :: a, b, p => congrArg (Trie.tellT p x :: ·) (toldT_app a b _)
theorem toldT_len : ∀ (a : List Trie.Wd3) (p : Int × TriePure.T), (Trie.toldT p a).length = a.length
  | [], _ => rfl
  | _ :: a, _ => congrArg (· + 1) (toldT_len a _)
/-- What a trie is behind a script. -/
theorem okt_run : ∀ (l : List Trie.Wd3) (i : Nat) (n : Int) (t : TriePure.T), Trie.Okt i t → (-(i : Int) ≤ n ∧ n ≤ i) → (∀ a ∈ l, a.2.1.size ≤ 1099511627776) → Trie.Okt (i + l.length) (Trie.runT (n, t) l).2 ∧ -((i + l.length : Nat) : Int) ≤ (Trie.runT (n, t) l).1 ∧ (Trie.runT (n, t) l).1 ≤ ((i + l.length : Nat) : Int)
  | [], i, n, t, h, hn, _ => ⟨h, hn⟩
  | (d, s, v) :: l, i, n, t, h, hn, hs => by
    have hs0 : s.size ≤ 1099511627776 := hs _ List.mem_cons_self
    obtain ⟨n', t', e, h1, h2⟩ : ∃ n' t', Trie.stepT (n, t) (d, s, v) = (n', t') ∧ Trie.Okt (i + 1) t' ∧ (-((i + 1 : Nat) : Int) ≤ n' ∧ n' ≤ ((i + 1 : Nat) : Int)) := by
      unfold Trie.stepT
      dsimp only
      split
      · obtain ⟨a, b, c⟩ := h.put (v := v) hn hs0
        exact ⟨(Trie.putT s v (n, t)).1, (Trie.putT s v (n, t)).2, rfl, a, by omega, by omega⟩
      · split
        · obtain ⟨a, b, c⟩ := h.rem (s := s) hn
          exact ⟨(Trie.remT s (n, t)).1, (Trie.remT s (n, t)).2, rfl, a, by omega, by omega⟩
        · exact ⟨_, _, rfl, h.more, by omega, by omega⟩
    have hr := okt_run l (i + 1) n' t' h1 h2 (fun a ha => hs a (List.mem_cons_of_mem _ ha))
    rw [show i + ((d, s, v) :: l).length = i + 1 + l.length by simp only [List.length_cons]; omega]
    show Trie.Okt _ (Trie.runT (Trie.stepT (n, t) (d, s, v)) l).2 ∧ _ ≤ (Trie.runT (Trie.stepT (n, t) (d, s, v)) l).1 ∧ (Trie.runT (Trie.stepT (n, t) (d, s, v)) l).1 ≤ _
    rw [e]
    exact hr
theorem okt_nil : Trie.Okt 0 .nil := ⟨trivial, trivial, fun p hp => by simp [TriePure.T.words] at hp, Nat.le_refl _⟩
theorem run_okt (l : List S30) (hs : ∀ x ∈ l, x.f1.size ≤ 1099511627776) : Trie.Okt l.length (run l).2 := by
  have h := okt_run (l.map word_of) 0 0 .nil okt_nil (by simp) (fun a ha => by
    obtain ⟨x, hx, rfl⟩ := List.mem_map.1 ha
    exact hs x hx)
  rw [List.length_map, Nat.zero_add] at h
  exact h.1
/-- What the last step behind a script tells. -/
theorem wordLast_ev (l pre : List S30) (x : S30) (hl : l.length + pre.length + 1 ≤ 1099511627776) (hs : ∀ y ∈ l ++ pre ++ [x], y.f1.size ≤ 1099511627776) :
    laws_wordLast.f l (pre ++ [x]) = some ((Trie.tellT (run (l ++ pre)) (word_of x)).1, (Trie.tellT (run (l ++ pre)) (word_of x)).2.1, (Trie.tellT (run (l ++ pre)) (word_of x)).2.2.1, (Trie.tellT (run (l ++ pre)) (word_of x)).2.2.2, true) := by
  have e : l ++ (pre ++ [x]) = l ++ pre ++ [x] := (List.append_assoc ..).symm
  have hn : (l ++ pre ++ [x]).length = l.length + pre.length + 1 := by simp; omega
  have hf : impl_TrieRun.f (l ++ pre ++ [x]) = some ((Trie.toldT (0, .nil) ((l ++ pre ++ [x]).map word_of)).map say_of) := by
    unfold impl_TrieRun.f
    rw [if_pos ⟨by omega, List.all_eq_true.2 (fun y hy => by simpa using hs y hy)⟩]
  have hlen : ((Trie.toldT (0, .nil) ((l ++ pre ++ [x]).map word_of)).map say_of).length = l.length + pre.length + 1 := by rw [List.length_map, toldT_len, List.length_map, hn]
  have hat : rd_T26 ((Trie.toldT (0, .nil) ((l ++ pre ++ [x]).map word_of)).map say_of) ((l.length + pre.length : Nat) : Int) = say_of (Trie.tellT (run (l ++ pre)) (word_of x)) := by
    rw [List.map_append, toldT_app, List.map_append]
    unfold rd_T26
    rw [Int.toNat_natCast, List.getD_eq_getElem?_getD, List.getElem?_append_right (by rw [List.length_map, toldT_len, List.length_map, List.length_append]; exact Nat.le_refl _)]
    rw [List.length_map, toldT_len, List.length_map, List.length_append, Nat.sub_self]
    rfl
  unfold laws_wordLast.f
  rw [Option.bind_some, if_pos (by rw [List.length_nil]; omega), Option.bind_some, if_pos (by rw [List.nil_append, List.length_append, List.length_singleton]; omega), Option.bind_some, List.nil_append, e, hf, Option.bind_some]
  generalize (Trie.toldT (0, .nil) ((l ++ pre ++ [x]).map word_of)).map say_of = tt at hlen hat
  rw [if_pos (by rw [hlen, hn]), if_neg (by omega), hlen, wm _ (by omega), if_pos (by omega), if_pos (by omega), hat]
  rfl
theorem toList_wd (s : ByteArray) : s.toList = Trie.wd s := ByteArray.toList_eq s
theorem pre_take : ∀ (h t : TriePure.W), TriePure.T.pre h t = decide (t.take h.length = h)
  | [], t => by simp [TriePure.T.pre]
  | a :: h, [] => by simp [TriePure.T.pre]
  | a :: h, b :: t => by
    have := pre_take h t
    simp only [TriePure.T.pre, List.length_cons, List.take_succ_cons, List.cons.injEq]
    rw [this]
    by_cases q : a = b
    · subst q; simp
    · simp [q, Ne.symm q]
theorem begins_ev (a b : ByteArray) : spec_Begins.f a b = some (TriePure.T.pre (Trie.wd b) (Trie.wd a)) := by
  unfold spec_Begins.f
  by_cases q : b.size ≤ a.size
  · rw [if_pos (by omega), if_pos (by omega), if_pos (by omega), pre_take]
    have h1 : (a.extract 0 ((b.size : Int)).toNat).toList = (Trie.wd a).take (Trie.wd b).length := by
      rw [toList_wd]
      simp [Trie.wd]
    rw [h1, toList_wd]
    congr 1
    rw [Bool.eq_iff_iff, beq_iff_eq, decide_eq_true_iff]
  · rw [if_neg (by omega), pre_take]
    congr 1
    symm
    rw [decide_eq_false_iff_not]
    intro e
    have := congrArg List.length e
    simp [Trie.wd] at this
    omega
theorem with_row (l : List ByteArray) (h : ByteArray) (hl : l.length ≤ 1099511627776) (d : Nat) : ∀ (j : Nat) (o : List ByteArray), j + d = l.length → o.length ≤ j → Ev (fun k => spec_With.l0 k l h o (j : Int)) (o ++ (l.drop j).filter (fun t => TriePure.T.pre (Trie.wd h) (Trie.wd t))) := by
  induction d with
  | zero =>
    intro j o hj _
    refine Ev.step (f := fun _ => some (o ++ (l.drop j).filter (fun t => TriePure.T.pre (Trie.wd h) (Trie.wd t)))) (fun k => ?_) (Ev.now _)
    simp only [spec_With.l0]
    rw [if_neg (by omega), List.drop_eq_nil_of_le (by omega)]
    simp
  | succ d ih =>
    intro j o hj ho
    have hjl : j < l.length := by omega
    have hd : l.drop j = l[j] :: l.drop (j + 1) := List.drop_eq_getElem_cons hjl
    cases q : TriePure.T.pre (Trie.wd h) (Trie.wd l[j]) with
    | true =>
      have e : o ++ (l.drop j).filter (fun t => TriePure.T.pre (Trie.wd h) (Trie.wd t)) = (o ++ [l[j]]) ++ (l.drop (j + 1)).filter (fun t => TriePure.T.pre (Trie.wd h) (Trie.wd t)) := by rw [hd, List.filter_cons_of_pos (p := fun t => TriePure.T.pre (Trie.wd h) (Trie.wd t)) q, List.append_assoc]; rfl
      rw [e]
      refine Ev.step (fun k => ?_) (ih (j + 1) (o ++ [l[j]]) (by omega) (by simp; omega))
      simp only [spec_With.l0]
      rw [if_pos (by omega), if_pos (by omega), rd_str hjl, begins_ev, Option.bind_some, q, if_pos rfl, if_pos (by omega), w1 j (by omega)]
    | false =>
      have e : o ++ (l.drop j).filter (fun t => TriePure.T.pre (Trie.wd h) (Trie.wd t)) = o ++ (l.drop (j + 1)).filter (fun t => TriePure.T.pre (Trie.wd h) (Trie.wd t)) := by rw [hd, List.filter_cons_of_neg (by rw [q]; simp)]
      rw [e]
      refine Ev.step (fun k => ?_) (ih (j + 1) o (by omega) (by omega))
      simp only [spec_With.l0]
      rw [if_pos (by omega), if_pos (by omega), rd_str hjl, begins_ev, Option.bind_some, q, if_neg (by simp), w1 j (by omega)]
theorem with_ev (l : List ByteArray) (h : ByteArray) (hl : l.length ≤ 1099511627776) : Ev (fun k => spec_With.f k l h) (l.filter (fun t => TriePure.T.pre (Trie.wd h) (Trie.wd t))) := with_row l h hl l.length 0 [] (Nat.zero_add _) (Nat.zero_le _)
/-- Texts are sorted, somehow. -/
theorem rise_row (l : List ByteArray) (hl : l.length ≤ 1099511627776) (d : Nat) : ∀ (j : Nat) (o : List ByteArray), j + d = l.length → o.length = j → ∃ r, r.length = l.length ∧ Ev (fun k => spec_Rising.l0 k l o (j : Int)) r := by
  induction d with
  | zero =>
    intro j o hj ho
    refine ⟨o, by omega, Ev.step (f := fun _ => some o) (fun k => ?_) (Ev.now _)⟩
    simp only [spec_Rising.l0]
    rw [if_neg (by omega)]
  | succ d ih =>
    intro j o hj ho
    have hjl : j < l.length := by omega
    have inner : ∀ i : Nat, i ≤ o.length → ∃ r, r.length = l.length ∧ Ev (fun k => spec_Rising.l1 k l o (j : Int) (i : Int)) r := by
      intro i
      induction i with
      | zero =>
        intro _
        obtain ⟨r, hr, hE⟩ := ih (j + 1) (([] ++ o.take 0) ++ [l[j]] ++ o.drop 0) (by omega) (by simp; omega)
        refine ⟨r, hr, Ev.step (fun k => ?_) hE⟩
        simp only [spec_Rising.l1]
        rw [if_neg (by omega), Option.bind_some, if_pos (by omega), if_pos (by omega), Option.bind_some, if_pos (by simp), Option.bind_some, if_pos (by omega), if_pos (by omega), if_pos (by simp), Option.bind_some, Option.bind_some, if_pos (by simp; omega), rd_str hjl, w1 j (by omega)]
        rfl
      | succ i ih2 =>
        intro hi
        have hio : i < o.length := by omega
        by_cases q : (Op.bytesLess ((l[j]).toList) ((o[i]).toList)) = true
        · obtain ⟨r, hr, hE⟩ := ih2 (by omega)
          refine ⟨r, hr, Ev.step (fun k => ?_) hE⟩
          simp only [spec_Rising.l1]
          rw [if_pos (by omega), wm i (by omega), if_pos (by omega), if_pos (by omega), if_pos (by omega), if_pos (by omega), rd_str hjl, rd_str hio, if_pos q]
        · obtain ⟨r, hr, hE⟩ := ih (j + 1) (([] ++ o.take (i + 1)) ++ [l[j]] ++ o.drop (i + 1)) (by omega) (by simp; omega)
          refine ⟨r, hr, Ev.step (fun k => ?_) hE⟩
          simp only [spec_Rising.l1]
          rw [if_pos (by omega), wm i (by omega), if_pos (by omega), if_pos (by omega), if_pos (by omega), if_pos (by omega), rd_str hjl, rd_str hio, if_neg q, Option.bind_some, if_pos (by omega), if_pos (by omega), Option.bind_some, Int.toNat_natCast, if_pos (by simp; omega), Option.bind_some, if_pos (by simp; omega), Option.bind_some, Option.bind_some, if_pos (by simp; omega), w1 j (by omega)]
    obtain ⟨r, hr, hE⟩ := inner o.length (Nat.le_refl _)
    refine ⟨r, hr, Ev.step (fun k => ?_) hE⟩
    simp only [spec_Rising.l0]
    rw [if_pos (by omega)]
theorem rise_ev (l : List ByteArray) (hl : l.length ≤ 1099511627776) : ∃ r, r.length = l.length ∧ Ev (fun k => spec_Rising.f k l) r := rise_row l hl l.length 0 [] (Nat.zero_add _) rfl
theorem same_words_row (xs : List ByteArray) (hl : xs.length ≤ 1099511627776) (d : Nat) : ∀ j : Nat, j + d = xs.length → Ev (fun k => spec_SameWords.l0 k xs xs j) true := by
  induction d with
  | zero =>
    intro j hj
    refine Ev.step (f := fun _ => some true) (fun k => ?_) (Ev.now _)
    simp only [spec_SameWords.l0]
    rw [if_neg (by omega)]
  | succ d ih =>
    intro j hj
    refine Ev.step (fun k => ?_) (ih (j + 1) (by omega))
    simp only [spec_SameWords.l0]
    rw [if_pos (by omega), if_pos (by omega), if_pos (by omega), if_pos (by first | rfl | trivial), w1 j (by omega)]
theorem same_words (l : List ByteArray) (hl : l.length ≤ 1099511627776) : Ev (fun k => spec_SameWords.f k l l) true := by
  obtain ⟨r, hr, K1, h1⟩ := rise_ev l hl
  obtain ⟨K2, h2⟩ := same_words_row r (by omega) r.length 0 (Nat.zero_add _)
  refine ⟨K1 + K2, fun k hk => ?_⟩
  have h1' : spec_Rising.f k l = some r := h1 k (by omega)
  have h2' : spec_SameWords.l0 k r r ((0 : Nat) : Int) = some true := h2 k (by omega)
  show spec_SameWords.f k l l = some true
  unfold spec_SameWords.f
  rw [h1', Option.bind_some, Option.bind_some, if_pos rfl]
  exact h2'
/-- What KeysWithPrefix tells, of any head. -/
theorem keysOf_eq {i : Nat} {t : TriePure.T} (h : Trie.Okt i t) (s : ByteArray) : Trie.keysOf t s = ((TriePure.heads (TriePure.T.words t)).filter (TriePure.T.pre (Trie.wd s))).map Trie.st := by
  unfold Trie.keysOf
  split
  · rename_i h0
    rw [Trie.wd_nil h0]
    unfold Trie.keysT Trie.texts TriePure.heads
    rw [List.filter_eq_self.2 (fun p _ => by simp [TriePure.T.pre]), List.map_map]
    rfl
  · rename_i h0
    obtain ⟨k, ks, e⟩ := Trie.wd_cons h0
    rw [e, TriePure.T.from_words t k ks h.ord]
theorem wd_st (p : TriePure.W) : Trie.wd (Trie.st p) = p := by simp [Trie.wd, Trie.st]
theorem pre_app : ∀ (a b t : TriePure.W), TriePure.T.pre (a ++ b) t = true → TriePure.T.pre a t = true
  | [], _, t, _ => by simp [TriePure.T.pre]
  | x :: a, b, [], h => by simp [TriePure.T.pre] at h
  | x :: a, b, y :: t, h => by
    simp only [List.cons_append, TriePure.T.pre, Bool.and_eq_true] at h ⊢
    exact ⟨h.1, pre_app a b t h.2⟩
theorem wd_app (a b : ByteArray) : Trie.wd (a ++ b) = Trie.wd a ++ Trie.wd b := by simp [Trie.wd]
theorem narrow {i : Nat} {t : TriePure.T} (h : Trie.Okt i t) (a b : ByteArray) : (Trie.keysOf t a).filter (fun x => TriePure.T.pre (Trie.wd (a ++ b)) (Trie.wd x)) = Trie.keysOf t (a ++ b) := by
  rw [keysOf_eq h, keysOf_eq h, List.filter_map, List.filter_filter]
  congr 1
  refine List.filter_congr (fun p _ => ?_)
  simp only [Function.comp_apply, wd_st, wd_app]
  cases q : TriePure.T.pre (Trie.wd a ++ Trie.wd b) p with
  | false => rfl
  | true => rw [pre_app _ _ _ q]; rfl
theorem FnTrieNarrow (l : List S30) (a b : ByteArray) : ∃ k, laws_FnTrieNarrow.f k l a b = some true := by
  have out : ∀ k, laws_FnTrieNarrow.j0 (k + 1) l a b true = some true := fun k => by simp only [laws_FnTrieNarrow.j0, if_true]
  by_cases hl : l.length ≤ 2147483647
  · obtain ⟨K0, h0⟩ := fits6_ev l hl
    cases hq : short l with
    | false =>
      refine ⟨K0 + 1, ?_⟩
      have h0' : laws_zzFits6.f (K0 + 1) l = some false := by rw [← hq]; exact h0 _ (by omega)
      unfold laws_FnTrieNarrow.f
      rw [h0', Option.bind_some, if_neg (by simp), out]
    | true =>
      have hs : ∀ x ∈ l, x.f1.size ≤ 2147483647 := fun x hx => by simpa using List.all_eq_true.1 hq x hx
      by_cases ha : (a.size : Int) > 2147483647
      · refine ⟨K0 + 1, ?_⟩
        have h0' : laws_zzFits6.f (K0 + 1) l = some true := by rw [← hq]; exact h0 _ (by omega)
        unfold laws_FnTrieNarrow.f
        rw [h0', Option.bind_some, if_pos rfl, if_pos ha, out]
      by_cases hb : (b.size : Int) > 2147483647
      · refine ⟨K0 + 1, ?_⟩
        have h0' : laws_zzFits6.f (K0 + 1) l = some true := by rw [← hq]; exact h0 _ (by omega)
        unfold laws_FnTrieNarrow.f
        rw [h0', Option.bind_some, if_pos rfl, if_neg ha, decide_eq_true hb, out]
      have hab : (a ++ b).size = a.size + b.size := ByteArray.size_append
      have hk := run_okt l (fun x hx => by have := hs x hx; omega)
      have e1 := wordLast_ev l [] ⟨5, a, 0⟩ (by simp; omega) (fun y hy => by
        simp only [List.append_nil, List.mem_append, List.mem_singleton] at hy
        rcases hy with hy | rfl
        · have := hs y hy; omega
        · show a.size ≤ _; omega)
      have e2 := wordLast_ev l [] ⟨5, a ++ b, 0⟩ (by simp; omega) (fun y hy => by
        simp only [List.append_nil, List.mem_append, List.mem_singleton] at hy
        rcases hy with hy | rfl
        · have := hs y hy; omega
        · show (a ++ b).size ≤ _; omega)
      rw [List.append_nil, List.nil_append] at e1 e2
      have f1 : (Trie.tellT (run l) (word_of ⟨5, a, 0⟩)).2.2.2 = Trie.keysOf (run l).2 a := rfl
      have f2 : (Trie.tellT (run l) (word_of ⟨5, a ++ b, 0⟩)).2.2.2 = Trie.keysOf (run l).2 (a ++ b) := rfl
      have l1 : (Trie.keysOf (run l).2 a).length ≤ 1099511627776 := by have := Trie.keysOf_len hk a; omega
      have l2 : (Trie.keysOf (run l).2 (a ++ b)).length ≤ 1099511627776 := by have := Trie.keysOf_len hk (a ++ b); omega
      obtain ⟨K1, h1⟩ := with_ev (Trie.keysOf (run l).2 a) (a ++ b) l1
      obtain ⟨K2, h2⟩ := same_words (Trie.keysOf (run l).2 (a ++ b)) l2
      refine ⟨K0 + K1 + K2 + 1, ?_⟩
      have h0' : laws_zzFits6.f (K0 + K1 + K2 + 1) l = some true := by rw [← hq]; exact h0 _ (by omega)
      have h1' : spec_With.f (K0 + K1 + K2) (Trie.keysOf (run l).2 a) (a ++ b) = some (Trie.keysOf (run l).2 (a ++ b)) := by rw [← narrow hk]; exact h1 _ (by omega)
      have h2' : spec_SameWords.f (K0 + K1 + K2) (Trie.keysOf (run l).2 (a ++ b)) (Trie.keysOf (run l).2 (a ++ b)) = some true := h2 _ (by omega)
      unfold laws_FnTrieNarrow.f
      rw [h0', Option.bind_some, if_pos rfl, if_neg ha, decide_eq_false hb]
      simp only [laws_FnTrieNarrow.j0]
      rw [if_neg (by simp), e1, Option.bind_some, if_pos (by omega), e2, Option.bind_some]
      dsimp only
      rw [if_pos rfl, if_pos rfl, f1, f2, h1', Option.bind_some, h2', Option.bind_some]
  · refine ⟨1, ?_⟩
    unfold laws_FnTrieNarrow.f
    rw [fits6_long l hl, Option.bind_some, if_neg (by simp)]
    exact out 0
end Go.Proofs.Ytkgbflcbeeghoaa.Pure
