/- The row of a law, and what it stands on: for the inputs that its statement speaks of. -/
import Derived.Test.YtkgbflcbeeghoaaCkFnTrieKeys5
import Derived.IntWalk
import Derived.Deep.Slices
import Derived.Deep.Strs
import Derived.Lib.SmallJoins
import Derived.Carry
import Derived.OpenShut
import Derived.ShutString
import Derived.WideShapes
import Derived.ChangeOld
import Derived.Test.YtkgbflcbeeghoaaRows
import Derived.WalkKit
import Derived.ProofKit
import Derived.Below
import Derived.SizedLaws
namespace Go.Proofs.Ytkgbflcbeeghoaa.Pure
open Go Go.RowKit Go.IntWalk Go.Proofs.Ytkgbflcbeeghoaa.QFnTrieKeys Go.Proofs.YtkgbflcbeeghoaaW.PrintWords Go.Proofs.YtkgbflcbeeghoaaW.PrintLast
theorem w1 (q : Nat) (h : q ≤ 1099511627776) : wrap64 ((q : Int) + 1) = ((q + 1 : Nat) : Int) := by rw [wrap64_in _ (by omega)]; rfl
theorem wm (q : Nat) (h : q ≤ 1099511627776) : wrap64 (((q + 1 : Nat) : Int) - 1) = (q : Int) := by rw [wrap64_in _ (by omega)]; omega
theorem rd_word {l : List S30} {i : Nat} {x : S30} (h : l[i]? = some x) : rd_T30 l (i : Int) = x := by simp [rd_T30, List.getD_eq_getElem?_getD, h]
theorem rd_str {l : List ByteArray} {i : Nat} (h : i < l.length) : rdOf ByteArray.empty l (i : Int) = l[i] := by simp [rdOf, List.getD_eq_getElem?_getD, h]
/-- All texts of a script are short. -/
def short (l : List S30) : Bool := l.all fun x => decide (x.f1.size ≤ 2147483647)
theorem fits6_row (l : List S30) (hl : l.length ≤ 2147483647) (d : Nat) : ∀ j : Nat, j + d = l.length → Ev (fun k => laws_zzFits6.l0 k l (l.length : Int) (j : Int)) (short (l.drop j)) := by
  induction d with
  | zero =>
    intro j hj
    refine Ev.step (f := fun _ => some (short (l.drop j))) (fun k => ?_) (Ev.now _)
    simp only [laws_zzFits6.l0]
    rw [if_neg (by omega), List.drop_eq_nil_of_le (by omega)]
    rfl
  | succ d ih =>
    intro j hj
    have hjl : j < l.length := by omega
    have hx : l[j]? = some l[j] := List.getElem?_eq_getElem hjl
    have hd : l.drop j = l[j] :: l.drop (j + 1) := List.drop_eq_getElem_cons hjl
    generalize l[j] = x at hx hd
    by_cases q : x.f1.size ≤ 2147483647
    · have e : short (l.drop j) = short (l.drop (j + 1)) := by rw [hd]; simp [short, q]
      rw [e]
      refine Ev.step (fun k => ?_) (ih (j + 1) (by omega))
      simp only [laws_zzFits6.l0]
      rw [if_pos (by omega), if_pos (by omega), if_pos (by omega), rd_word hx]
      unfold laws_zzFits7.f
      rw [if_neg (by omega), Option.bind_some, if_pos rfl, w1 j (by omega)]
    · have e : short (l.drop j) = false := by rw [hd]; simp [short, q]
      rw [e]
      refine Ev.step (f := fun _ => some false) (fun k => ?_) (Ev.now _)
      simp only [laws_zzFits6.l0]
      rw [if_pos (by omega), if_pos (by omega), if_pos (by omega), rd_word hx]
      unfold laws_zzFits7.f
      rw [if_pos (by omega), Option.bind_some, if_neg (by simp)]
theorem fits6_ev (l : List S30) (hl : l.length ≤ 2147483647) : Ev (fun k => laws_zzFits6.f k l) (short l) := by
  refine Ev.congr (fun k => ?_) (fits6_row l hl l.length 0 (Nat.zero_add _))
  unfold laws_zzFits6.f
  rw [if_neg (by omega)]
  rfl
theorem fits6_long (l : List S30) (hl : ¬ l.length ≤ 2147483647) (k : Nat) : laws_zzFits6.f k l = some false := by
  unfold laws_zzFits6.f
  rw [if_pos (by omega)]
theorem toList_wd (s : ByteArray) : s.toList = Trie.wd s := ByteArray.toList_eq s
theorem pre_take : ∀ (h t : TriePure.W), TriePure.T.pre h t = decide (t.take h.length = h)
  | [], t => by simp [TriePure.T.pre]
  | a :: h, [] => by simp [TriePure.T.pre]
  | a :: h, b :: t => by
    have := pre_take h t
    simp only [TriePure.T.pre, List.length_cons, List.take_succ_cons, List.cons.injEq]
    rw [this]
    by_cases q : a = b
    · subst q; simp
    · simp [q, Ne.symm q]
theorem begins_ev (a b : ByteArray) : spec_Begins.f a b = some (TriePure.T.pre (Trie.wd b) (Trie.wd a)) := by
  unfold spec_Begins.f
  by_cases q : b.size ≤ a.size
  · rw [if_pos (by omega), if_pos (by omega), if_pos (by omega), pre_take]
    have h1 : (a.extract 0 ((b.size : Int)).toNat).toList = (Trie.wd a).take (Trie.wd b).length := by
      rw [toList_wd]
      simp [Trie.wd]
    rw [h1, toList_wd]
    congr 1
    rw [Bool.eq_iff_iff, beq_iff_eq, decide_eq_true_iff]
  · rw [if_neg (by omega), pre_take]
    congr 1
    symm
    rw [decide_eq_false_iff_not]
    intro e
    have := congrArg List.length e
    simp [Trie.wd] at this
    omega
theorem with_row (l : List ByteArray) (h : ByteArray) (hl : l.length ≤ 1099511627776) (d : Nat) : ∀ (j : Nat) (o : List ByteArray), j + d = l.length → o.length ≤ j → Ev (fun k => spec_With.l0 k l h o (j : Int)) (o ++ (l.drop j).filter (fun t => TriePure.T.pre (Trie.wd h) (Trie.wd t))) := by
  induction d with
  | zero =>
    intro j o hj _
    refine Ev.step (f := fun _ => some (o ++ (l.drop j).filter (fun t => TriePure.T.pre (Trie.wd h) (Trie.wd t)))) (fun k => ?_) (Ev.now _)
    simp only [spec_With.l0]
    rw [if_neg (by omega), List.drop_eq_nil_of_le (by omega)]
    simp
  | succ d ih =>
    intro j o hj ho
    have hjl : j < l.length := by omega
    have hd : l.drop j = l[j] :: l.drop (j + 1) := List.drop_eq_getElem_cons hjl
    cases q : TriePure.T.pre (Trie.wd h) (Trie.wd l[j]) with
    | true =>
      have e : o ++ (l.drop j).filter (fun t => TriePure.T.pre (Trie.wd h) (Trie.wd t)) = (o ++ [l[j]]) ++ (l.drop (j + 1)).filter (fun t => TriePure.T.pre (Trie.wd h) (Trie.wd t)) := by rw [hd, List.filter_cons_of_pos (p := fun t => TriePure.T.pre (Trie.wd h) (Trie.wd t)) q, List.append_assoc]; rfl
      rw [e]
      refine Ev.step (fun k => ?_) (ih (j + 1) (o ++ [l[j]]) (by omega) (by simp; omega))
      simp only [spec_With.l0]
      rw [if_pos (by omega), if_pos (by omega), rd_str hjl, begins_ev, Option.bind_some, q, if_pos rfl, if_pos (by omega), w1 j (by omega)]
    | false =>
      have e : o ++ (l.drop j).filter (fun t => TriePure.T.pre (Trie.wd h) (Trie.wd t)) = o ++ (l.drop (j + 1)).filter (fun t => TriePure.T.pre (Trie.wd h) (Trie.wd t)) := by rw [hd, List.filter_cons_of_neg (by rw [q]; simp)]
      rw [e]
      refine Ev.step (fun k => ?_) (ih (j + 1) o (by omega) (by omega))
      simp only [spec_With.l0]
      rw [if_pos (by omega), if_pos (by omega), rd_str hjl, begins_ev, Option.bind_some, q, if_neg (by simp), w1 j (by omega)]
theorem with_ev (l : List ByteArray) (h : ByteArray) (hl : l.length ≤ 1099511627776) : Ev (fun k => spec_With.f k l h) (l.filter (fun t => TriePure.T.pre (Trie.wd h) (Trie.wd t))) := with_row l h hl l.length 0 [] (Nat.zero_add _) (Nat.zero_le _)
theorem wd_st (p : TriePure.W) : Trie.wd (Trie.st p) = p := by simp [Trie.wd, Trie.st]
abbrev ks (l : TriePure.R) : List ByteArray := l.map (fun p => Trie.st p.1)
abbrev vs (l : TriePure.R) : List Int := l.map (fun p => p.2)
theorem less_lt : ∀ x y : List UInt8, Op.bytesLess x y = TriePure.lt x y
  | [], [] => rfl
  | _ :: _, [] => rfl
  | [], _ :: _ => rfl
  | a :: x, b :: y => by
    simp only [Op.bytesLess, TriePure.lt]
    rw [less_lt x y]
    by_cases h : a < b
    · simp [h]
    · by_cases k : b < a
      · have e : (a == b) = false := beq_eq_false_iff_ne.2 (TriePure.u_ne k).symm
        simp [h, k, e]
      · have e := TriePure.u_same h k
        subst e
        simp [h]
theorem less_st (p : TriePure.W) (s : ByteArray) : Op.bytesLess (Trie.st p).toList s.toList = TriePure.lt p (Trie.wd s) := by rw [toList_wd, toList_wd, wd_st, less_lt]
theorem same_st (p : TriePure.W) (s : ByteArray) : ((Trie.st p).toList == s.toList) = decide (p = Trie.wd s) := by
  rw [toList_wd, toList_wd, wd_st, Bool.eq_iff_iff, beq_iff_eq, decide_eq_true_iff]
/-- How many words stand ahead of one, and whether it stands there. -/
def rank (w : TriePure.W) : TriePure.R → Nat
  | [] => 0
  | p :: l => if TriePure.lt p.1 w = true then rank w l + 1 else 0
def here (w : TriePure.W) : TriePure.R → Bool
  | [] => false
  | p :: l => if TriePure.lt p.1 w = true then here w l else decide (p.1 = w)
theorem rank_le (w : TriePure.W) : ∀ l : TriePure.R, rank w l ≤ l.length
  | [] => Nat.le_refl _
  | p :: l => by
    have := rank_le w l
    simp only [rank, List.length_cons]
    split <;> omega
theorem rank_lt (w : TriePure.W) : ∀ l : TriePure.R, here w l = true → rank w l < l.length
  | [], h => by simp [here] at h
  | p :: l, h => by
    simp only [rank, here, List.length_cons] at h ⊢
    split
    · rename_i q
      rw [if_pos q] at h
      have := rank_lt w l h
      omega
    · omega
theorem ins_here (w : TriePure.W) (v : Int) : ∀ l : TriePure.R, here w l = true → ks (TriePure.ins w v l) = ks l ∧ vs (TriePure.ins w v l) = (vs l).take (rank w l) ++ v :: (vs l).drop (rank w l + 1)
  | [], h => by simp [here] at h
  | p :: l, h => by
    simp only [here, rank, TriePure.ins] at h ⊢
    split
    · rename_i q
      rw [if_pos q] at h
      obtain ⟨a, b⟩ := ins_here w v l h
      simp only [ks, vs, List.map_cons, List.take_succ_cons, List.drop_succ_cons, List.cons_append] at a b ⊢
      exact ⟨by rw [a], by rw [b]⟩
    · rename_i q
      rw [if_neg q] at h
      rw [if_pos (of_decide_eq_true h)]
      exact ⟨rfl, rfl⟩
theorem ins_new (w : TriePure.W) (v : Int) : ∀ l : TriePure.R, here w l = false → ks (TriePure.ins w v l) = (ks l).take (rank w l) ++ Trie.st w :: (ks l).drop (rank w l) ∧ vs (TriePure.ins w v l) = (vs l).take (rank w l) ++ v :: (vs l).drop (rank w l)
  | [], _ => ⟨rfl, rfl⟩
  | p :: l, h => by
    simp only [here, rank, TriePure.ins] at h ⊢
    split
    · rename_i q
      rw [if_pos q] at h
      obtain ⟨a, b⟩ := ins_new w v l h
      simp only [ks, vs, List.map_cons, List.take_succ_cons, List.drop_succ_cons, List.cons_append] at a b ⊢
      exact ⟨by rw [a], by rw [b]⟩
    · rename_i q
      rw [if_neg q] at h
      rw [if_neg (of_decide_eq_false h)]
      exact ⟨rfl, rfl⟩
theorem rest_ne {w : TriePure.W} {p : TriePure.W × Int} {l : TriePure.R} (hu : TriePure.Up (p :: l)) (q : ¬ TriePure.lt p.1 w = true) : ∀ x ∈ l, x.1 ≠ w := fun x hx e => by
  have h := (List.pairwise_cons.1 hu).1 x hx
  rw [e] at h
  exact q h
theorem out_here (w : TriePure.W) : ∀ l : TriePure.R, TriePure.Up l → here w l = true → TriePure.out w l = l.take (rank w l) ++ l.drop (rank w l + 1)
  | [], _, h => by simp [here] at h
  | p :: l, hu, h => by
    simp only [here, rank] at h ⊢
    split
    · rename_i q
      rw [if_pos q] at h
      have e : TriePure.out w (p :: l) = p :: TriePure.out w l := List.filter_cons_of_pos (by simpa using TriePure.lt_ne q)
      rw [e, out_here w l (List.pairwise_cons.1 hu).2 h]
      rfl
    · rename_i q
      rw [if_neg q] at h
      have e : TriePure.out w (p :: l) = TriePure.out w l := List.filter_cons_of_neg (by simpa using of_decide_eq_true h)
      rw [e, TriePure.out_none (rest_ne hu q)]
      rfl
theorem out_not (w : TriePure.W) : ∀ l : TriePure.R, TriePure.Up l → here w l = false → TriePure.out w l = l
  | [], _, _ => rfl
  | p :: l, hu, h => by
    simp only [here] at h
    split at h
    · rename_i q
      have e : TriePure.out w (p :: l) = p :: TriePure.out w l := List.filter_cons_of_pos (by simpa using TriePure.lt_ne q)
      rw [e, out_not w l (List.pairwise_cons.1 hu).2 h]
    · rename_i q
      refine TriePure.out_none (fun x hx => ?_)
      rcases List.mem_cons.1 hx with e | hx
      · rw [e]; exact of_decide_eq_false h
      · exact rest_ne hu q x hx
theorem look_rank (w : TriePure.W) : ∀ l : TriePure.R, TriePure.Up l → TriePure.look w l = if here w l = true then (vs l)[rank w l]? else none
  | [], _ => rfl
  | p :: l, hu => by
    by_cases q : TriePure.lt p.1 w = true
    · have e : TriePure.look w (p :: l) = TriePure.look w l := by
        unfold TriePure.look
        rw [List.find?_cons_of_neg (by simpa using TriePure.lt_ne q)]
      have e1 : here w (p :: l) = here w l := if_pos q
      have e2 : rank w (p :: l) = rank w l + 1 := if_pos q
      rw [e, look_rank w l (List.pairwise_cons.1 hu).2, e1, e2]
      rfl
    · have e1 : here w (p :: l) = decide (p.1 = w) := if_neg q
      have e2 : rank w (p :: l) = 0 := if_neg q
      rw [e1, e2]
      by_cases h : p.1 = w
      · unfold TriePure.look
        rw [List.find?_cons_of_pos (by simpa using h), decide_eq_true h, if_pos rfl]
        rfl
      · have e : TriePure.look w (p :: l) = TriePure.look w l := by
          unfold TriePure.look
          rw [List.find?_cons_of_neg (by simpa using h)]
        rw [e, decide_eq_false h, if_neg (by simp)]
        unfold TriePure.look
        rw [List.find?_eq_none.2 (fun x hx => by simpa using rest_ne hu q x hx)]
        rfl
theorem at_row (l : TriePure.R) (s : ByteArray) (hl : l.length ≤ 1099511627776) (d : Nat) : ∀ j : Nat, j + d = l.length → Ev (fun k => spec_Words_at.l0 k s (j : Int) (ks l) (vs l)) (((j + rank (Trie.wd s) (l.drop j) : Nat) : Int), here (Trie.wd s) (l.drop j)) := by
  have hk : (ks l).length = l.length := List.length_map ..
  induction d with
  | zero =>
    intro j hj
    refine Ev.step (f := fun _ => some (((j + rank (Trie.wd s) (l.drop j) : Nat) : Int), here (Trie.wd s) (l.drop j))) (fun k => ?_) (Ev.now _)
    simp only [spec_Words_at.l0]
    rw [if_neg (by omega), List.drop_eq_nil_of_le (by omega)]
    rfl
  | succ d ih =>
    intro j hj
    have hjl : j < l.length := by omega
    have hd : l.drop j = l[j] :: l.drop (j + 1) := List.drop_eq_getElem_cons hjl
    have hr : rdOf ByteArray.empty (ks l) (j : Int) = Trie.st l[j].1 := by rw [rd_str (by omega)]; exact List.getElem_map ..
    by_cases q : TriePure.lt l[j].1 (Trie.wd s) = true
    · have e : (((j + rank (Trie.wd s) (l.drop j) : Nat) : Int), here (Trie.wd s) (l.drop j)) = (((j + 1 + rank (Trie.wd s) (l.drop (j + 1)) : Nat) : Int), here (Trie.wd s) (l.drop (j + 1))) := by
        rw [hd]
        simp only [rank, here, if_pos q]
        congr 2
        omega
      rw [e]
      refine Ev.step (fun k => ?_) (ih (j + 1) (by omega))
      simp only [spec_Words_at.l0]
      rw [if_pos (by omega), if_pos (by omega), hr, less_st, if_pos q, w1 j (by omega)]
    · refine Ev.step (f := fun _ => some (((j + rank (Trie.wd s) (l.drop j) : Nat) : Int), here (Trie.wd s) (l.drop j))) (fun k => ?_) (Ev.now _)
      simp only [spec_Words_at.l0]
      rw [if_pos (by omega), if_pos (by omega), hr, less_st, if_neg q, same_st, hd]
      simp only [rank, here, if_neg q]
      rfl
theorem at_ev (l : TriePure.R) (s : ByteArray) (hl : l.length ≤ 1099511627776) : Ev (fun k => spec_Words_at.f k (ks l) (vs l) s) ((rank (Trie.wd s) l : Int), here (Trie.wd s) l) := by
  have h := at_row l s hl l.length 0 (Nat.zero_add _)
  rw [List.drop_zero, Nat.zero_add] at h
  exact h
def tell (o : Option Int) : Int × Bool := match o with
  | none => (0, false)
  | some v => (v, true)
theorem get_ev (l : TriePure.R) (s : ByteArray) (hl : l.length ≤ 1099511627776) (hu : TriePure.Up l) : Ev (fun k => spec_Words_Get.f k (ks l) (vs l) s) (tell (TriePure.look (Trie.wd s) l)) := by
  obtain ⟨K, h⟩ := at_ev l s hl
  refine ⟨K, fun k hk => ?_⟩
  have h' : spec_Words_at.f k (ks l) (vs l) s = some ((rank (Trie.wd s) l : Int), here (Trie.wd s) l) := h k hk
  show spec_Words_Get.f k (ks l) (vs l) s = _
  unfold spec_Words_Get.f
  rw [h', Option.bind_some, look_rank _ l hu]
  have hv : (vs l).length = l.length := List.length_map ..
  cases q : here (Trie.wd s) l with
  | false =>
    rw [if_neg (by simp), if_neg (by simp)]
    rfl
  | true =>
    have hr := rank_lt _ l q
    rw [if_pos rfl, if_pos rfl, if_pos (by omega), if_pos (by omega), List.getElem?_eq_getElem (by omega)]
    simp [tell, rd, List.getD_eq_getElem?_getD, hr]
theorem cut_ev (l : List Int) (i : Nat) (hi : i < l.length) (hl : l.length ≤ 1099511627776) : spec_cut.f l (i : Int) = some (l.take i ++ l.drop (i + 1)) := by
  unfold spec_cut.f
  rw [Option.bind_some, if_pos (by omega), if_pos (by omega), if_pos (by simp; omega), Option.bind_some, w1 i (by omega), if_pos (by omega), if_pos (by omega), if_pos (by simp; omega)]
  rfl
theorem put_ev (l : List Int) (i : Nat) (v : Int) (hi : i ≤ l.length) (hl : l.length ≤ 1099511627776) : spec_put.f l (i : Int) v = some (l.take i ++ v :: l.drop i) := by
  unfold spec_put.f
  rw [Option.bind_some, if_pos (by omega), if_pos (by omega), if_pos (by simp; omega), Option.bind_some, if_pos (by simp; omega), Option.bind_some, if_pos (by simp; omega)]
  simp
/-- What Put makes of words by definition. -/
def putW (s : ByteArray) (v : Int) (l : TriePure.R) : TriePure.R := if s.size = 0 then l else TriePure.ins (Trie.wd s) v l
theorem toList_nil (s : ByteArray) : s.toList = [] ↔ s.size = 0 := by
  rw [toList_wd]
  constructor
  · intro h
    simpa [Trie.wd] using congrArg List.length h
  · exact fun h => Trie.wd_nil h
theorem putW_ev (l : TriePure.R) (s : ByteArray) (v : Int) (hl : l.length ≤ 1099511627776) : Ev (fun k => spec_Words_Put.f k (ks l) (vs l) s v) (ks (putW s v l), vs (putW s v l)) := by
  obtain ⟨K, h⟩ := at_ev l s hl
  refine ⟨K, fun k hk => ?_⟩
  have h' : spec_Words_at.f k (ks l) (vs l) s = some ((rank (Trie.wd s) l : Int), here (Trie.wd s) l) := h k hk
  show spec_Words_Put.f k (ks l) (vs l) s v = _
  unfold spec_Words_Put.f putW
  rw [h', Option.bind_some]
  have hv : (vs l).length = l.length := List.length_map ..
  have hkl : (ks l).length = l.length := List.length_map ..
  by_cases z : s.size = 0
  · rw [if_pos ((toList_nil s).2 z), if_pos z]
  · rw [if_neg (fun e => z ((toList_nil s).1 e)), if_neg z]
    cases q : here (Trie.wd s) l with
    | true =>
      have hr := rank_lt _ l q
      obtain ⟨e1, e2⟩ := ins_here (Trie.wd s) v l q
      dsimp only
      rw [if_pos rfl, cut_ev _ _ (by omega) (by omega), Option.bind_some, put_ev _ _ _ (by simp; omega) (by simp; omega), Option.bind_some, e1, e2]
      have hm : min (rank (Trie.wd s) l) (vs l).length = rank (Trie.wd s) l := by omega
      rw [List.take_append_of_le_length (by simp; omega), List.take_take, Nat.min_self, List.drop_append_of_le_length (by simp; omega), List.drop_eq_nil_of_le (by simp; omega), List.nil_append]
    | false =>
      have hr := rank_le (Trie.wd s) l
      obtain ⟨e1, e2⟩ := ins_new (Trie.wd s) v l q
      dsimp only
      rw [if_neg (by simp), Option.bind_some, if_pos (by omega), if_pos (by omega), Option.bind_some, Int.toNat_natCast, if_pos (by simp; omega), Option.bind_some, if_pos (by simp; omega), Option.bind_some, Option.bind_some, if_pos (by simp; omega), put_ev _ _ _ (by omega) (by omega), Option.bind_some, e1, e2]
      simp [Trie.st, Trie.wd]
theorem remW_ev (l : TriePure.R) (s : ByteArray) (hl : l.length ≤ 1099511627776) (hu : TriePure.Up l) : Ev (fun k => spec_Words_Remove.f k (ks l) (vs l) s) (ks (TriePure.out (Trie.wd s) l), vs (TriePure.out (Trie.wd s) l)) := by
  obtain ⟨K, h⟩ := at_ev l s hl
  refine ⟨K, fun k hk => ?_⟩
  have h' : spec_Words_at.f k (ks l) (vs l) s = some ((rank (Trie.wd s) l : Int), here (Trie.wd s) l) := h k hk
  show spec_Words_Remove.f k (ks l) (vs l) s = _
  unfold spec_Words_Remove.f
  rw [h', Option.bind_some]
  have hv : (vs l).length = l.length := List.length_map ..
  have hkl : (ks l).length = l.length := List.length_map ..
  cases q : here (Trie.wd s) l with
  | true =>
    have hr := rank_lt _ l q
    dsimp only
    rw [if_pos rfl, Option.bind_some, if_pos (by omega), if_pos (by omega), Option.bind_some, Int.toNat_natCast, if_pos (by simp; omega), Option.bind_some, w1 _ (by omega), if_pos (by omega), if_pos (by omega), Option.bind_some, Int.toNat_natCast, if_pos (by simp; omega), cut_ev _ _ (by omega) (by omega), Option.bind_some, out_here _ l hu q]
    simp [ks, vs, List.map_take, List.map_drop]
  | false =>
    dsimp only
    rw [if_neg (by simp), out_not _ l hu q]
theorem st_size (p : TriePure.W) : (Trie.st p).size = p.length := by
  show p.toArray.size = _
  simp
theorem most_cons (q p : TriePure.W) (l : List TriePure.W) : TriePure.T.most q (p :: l) = if TriePure.T.pre p q = true then max p.length (TriePure.T.most q l) else TriePure.T.most q l := by
  unfold TriePure.T.most
  by_cases h : TriePure.T.pre p q = true
  · rw [if_pos h, List.filter_cons_of_pos (p := fun p => TriePure.T.pre p q) h]
    rfl
  · rw [if_neg h, List.filter_cons_of_neg (p := fun p => TriePure.T.pre p q) h]
theorem long_row (l : TriePure.R) (s : ByteArray) (hl : l.length ≤ 1099511627776) (d : Nat) : ∀ (j m : Nat) (b : Bool), j + d = l.length → m ≤ (Trie.wd s).length → (b = false → m = 0) →
    ∃ b', Ev (fun k => spec_Longest.l0 k (ks l) s (Trie.st ((Trie.wd s).take m)) b (j : Int)) (Trie.st ((Trie.wd s).take (max m (TriePure.T.most (Trie.wd s) (TriePure.heads (l.drop j))))), b') := by
  have hk : (ks l).length = l.length := List.length_map ..
  have hw : (Trie.wd s).length = s.size := by simp [Trie.wd]
  induction d with
  | zero =>
    intro j m b hj hm _
    refine ⟨b, Ev.step (f := fun _ => some (Trie.st ((Trie.wd s).take (max m (TriePure.T.most (Trie.wd s) (TriePure.heads (l.drop j))))), b)) (fun k => ?_) (Ev.now _)⟩
    simp only [spec_Longest.l0]
    rw [if_neg (by omega), List.drop_eq_nil_of_le (by omega)]
    simp [TriePure.heads, TriePure.T.most]
  | succ d ih =>
    intro j m b hj hm hb
    have hjl : j < l.length := by omega
    have hd : TriePure.heads (l.drop j) = l[j].1 :: TriePure.heads (l.drop (j + 1)) := congrArg TriePure.heads (List.drop_eq_getElem_cons hjl)
    have hr : rdOf ByteArray.empty (ks l) (j : Int) = Trie.st l[j].1 := by rw [rd_str (by omega)]; exact List.getElem_map ..
    rw [hd, most_cons]
    generalize l[j].1 = p at hr
    by_cases q : TriePure.T.pre p (Trie.wd s) = true
    · have hp : (Trie.wd s).take p.length = p := by rw [pre_take] at q; exact of_decide_eq_true q
      have hpl : p.length ≤ (Trie.wd s).length := by
        have := congrArg List.length hp
        rw [List.length_take] at this
        omega
      have hsz : (Trie.st p).size = p.length := st_size p
      have hsm : (Trie.st ((Trie.wd s).take m)).size = m := by rw [st_size, List.length_take]; omega
      rw [if_pos q]
      have new : m ≤ p.length → (∀ k, spec_Longest.l0 (k + 1) (ks l) s (Trie.st ((Trie.wd s).take m)) b (j : Int) = spec_Longest.l0 k (ks l) s (Trie.st p) true ((j + 1 : Nat) : Int)) → ∃ b', Ev (fun k => spec_Longest.l0 k (ks l) s (Trie.st ((Trie.wd s).take m)) b (j : Int)) (Trie.st ((Trie.wd s).take (max m (max p.length (TriePure.T.most (Trie.wd s) (TriePure.heads (l.drop (j + 1))))))), b') := fun hle hst => by
        obtain ⟨b', hE⟩ := ih (j + 1) p.length true (by omega) hpl (fun e => by cases e)
        refine ⟨b', ?_⟩
        rw [show max m (max p.length (TriePure.T.most (Trie.wd s) (TriePure.heads (l.drop (j + 1))))) = max p.length (TriePure.T.most (Trie.wd s) (TriePure.heads (l.drop (j + 1)))) by omega]
        rw [hp] at hE
        exact Ev.step hst hE
      cases b with
      | false =>
        refine new (by rw [hb rfl]; omega) (fun k => ?_)
        simp only [spec_Longest.l0]
        rw [if_pos (by omega), if_pos (by omega), hr, begins_ev, Option.bind_some, wd_st, if_pos q, if_neg (by simp), w1 j (by omega)]
      | true =>
        by_cases c : p.length > m
        · refine new (by omega) (fun k => ?_)
          simp only [spec_Longest.l0]
          rw [if_pos (by omega), if_pos (by omega), hr, begins_ev, Option.bind_some, wd_st, if_pos q, if_pos trivial, hsz, hsm, if_pos (by omega), w1 j (by omega)]
        · obtain ⟨b', hE⟩ := ih (j + 1) m true (by omega) hm hb
          refine ⟨b', ?_⟩
          rw [show max m (max p.length (TriePure.T.most (Trie.wd s) (TriePure.heads (l.drop (j + 1))))) = max m (TriePure.T.most (Trie.wd s) (TriePure.heads (l.drop (j + 1)))) by omega]
          refine Ev.step (fun k => ?_) hE
          simp only [spec_Longest.l0]
          rw [if_pos (by omega), if_pos (by omega), hr, begins_ev, Option.bind_some, wd_st, if_pos q, if_pos trivial, hsz, hsm, if_neg (by omega), w1 j (by omega)]
    · rw [if_neg q]
      obtain ⟨b', hE⟩ := ih (j + 1) m b (by omega) hm hb
      refine ⟨b', Ev.step (fun k => ?_) hE⟩
      simp only [spec_Longest.l0]
      rw [if_pos (by omega), if_pos (by omega), hr, begins_ev, Option.bind_some, wd_st, if_neg q, w1 j (by omega)]
theorem long_ev (l : TriePure.R) (s : ByteArray) (hl : l.length ≤ 1099511627776) : ∃ b, Ev (fun k => spec_Longest.f k (ks l) s) (Trie.st ((Trie.wd s).take (TriePure.T.most (Trie.wd s) (TriePure.heads l))), b) := by
  obtain ⟨b, h⟩ := long_row l s hl l.length 0 0 false (Nat.zero_add _) (Nat.zero_le _) (fun _ => rfl)
  rw [List.drop_zero, Nat.zero_max] at h
  exact ⟨b, h⟩
abbrev run (l : List S30) : Int × TriePure.T := Trie.runT (0, .nil) (l.map word_of)
theorem toldT_app : ∀ (a b : List Trie.Wd3) (p : Int × TriePure.T), Trie.toldT p (a ++ b) = Trie.toldT p a ++ Trie.toldT (Trie.runT p a) b
  | [], _, _ => rfl
  | x :: a, b, p => congrArg (Trie.tellT p x :: ·) (toldT_app a b _)
theorem toldT_len : ∀ (a : List Trie.Wd3) (p : Int × TriePure.T), (Trie.toldT p a).length = a.length
  | [], _ => rfl
  | _ :: a, _ => congrArg (· + 1) (toldT_len a _)
/-- What a trie is behind a script. -/
theorem okt_run : ∀ (l : List Trie.Wd3) (i : Nat) (n : Int) (t : TriePure.T), Trie.Okt i t → (-(i : Int) ≤ n ∧ n ≤ i) → (∀ a ∈ l, a.2.1.size ≤ 1099511627776) → Trie.Okt (i + l.length) (Trie.runT (n, t) l).2 ∧ -((i + l.length : Nat) : Int) ≤ (Trie.runT (n, t) l).1 ∧ (Trie.runT (n, t) l).1 ≤ ((i + l.length : Nat) : Int)
  | [], i, n, t, h, hn, _ => ⟨h, hn⟩
  | (d, s, v) :: l, i, n, t, h, hn, hs => by
    have hs0 : s.size ≤ 1099511627776 := hs _ List.mem_cons_self
    obtain ⟨n', t', e, h1, h2⟩ : ∃ n' t', Trie.stepT (n, t) (d, s, v) = (n', t') ∧ Trie.Okt (i + 1) t' ∧ (-((i + 1 : Nat) : Int) ≤ n' ∧ n' ≤ ((i + 1 : Nat) : Int)) := by
      unfold Trie.stepT
      dsimp only
      split
      · obtain ⟨a, b, c⟩ := h.put (v := v) hn hs0
        exact ⟨(Trie.putT s v (n, t)).1, (Trie.putT s v (n, t)).2, rfl, a, by omega, by omega⟩
      · split
        · obtain ⟨a, b, c⟩ := h.rem (s := s) hn
          exact ⟨(Trie.remT s (n, t)).1, (Trie.remT s (n, t)).2, rfl, a, by omega, by omega⟩
        · exact ⟨_, _, rfl, h.more, by omega, by omega⟩
    have hr := okt_run l (i + 1) n' t' h1 h2 (fun a ha => hs a (List.mem_cons_of_mem _ ha))
    rw [show i + ((d, s, v) :: l).length = i + 1 + l.length by simp only [List.length_cons]; omega]
    show Trie.Okt _ (Trie.runT (Trie.stepT (n, t) (d, s, v)) l).2 ∧ _ ≤ (Trie.runT (Trie.stepT (n, t) (d, s, v)) l).1 ∧ (Trie.runT (Trie.stepT (n, t) (d, s, v)) l).1 ≤ _
    rw [e]
    exact hr
theorem okt_nil : Trie.Okt 0 .nil := ⟨trivial, trivial, fun p hp => by simp [TriePure.T.words] at hp, Nat.le_refl _⟩
theorem run_okt (l : List S30) (hs : ∀ x ∈ l, x.f1.size ≤ 1099511627776) : Trie.Okt l.length (run l).2 := by
  have h := okt_run (l.map word_of) 0 0 .nil okt_nil (by simp) (fun a ha => by
    obtain ⟨x, hx, rfl⟩ := List.mem_map.1 ha
    exact hs x hx)
  rw [List.length_map, Nat.zero_add] at h
  exact h.1
/-- What the last step behind a script tells. -/
theorem wordLast_ev (l pre : List S30) (x : S30) (hl : l.length + pre.length + 1 ≤ 1099511627776) (hs : ∀ y ∈ l ++ pre ++ [x], y.f1.size ≤ 1099511627776) :
    laws_wordLast.f l (pre ++ [x]) = some ((Trie.tellT (run (l ++ pre)) (word_of x)).1, (Trie.tellT (run (l ++ pre)) (word_of x)).2.1, (Trie.tellT (run (l ++ pre)) (word_of x)).2.2.1, (Trie.tellT (run (l ++ pre)) (word_of x)).2.2.2, true) := by
  have e : l ++ (pre ++ [x]) = l ++ pre ++ [x] := (List.append_assoc ..).symm
  have hn : (l ++ pre ++ [x]).length = l.length + pre.length + 1 := by simp; omega
  have hf : impl_TrieRun.f (l ++ pre ++ [x]) = some ((Trie.toldT (0, .nil) ((l ++ pre ++ [x]).map word_of)).map say_of) := by
    unfold impl_TrieRun.f
    rw [if_pos ⟨by omega, List.all_eq_true.2 (fun y hy => by simpa using hs y hy)⟩]
  have hlen : ((Trie.toldT (0, .nil) ((l ++ pre ++ [x]).map word_of)).map say_of).length = l.length + pre.length + 1 := by rw [List.length_map, toldT_len, List.length_map, hn]
  have hat : rd_T26 ((Trie.toldT (0, .nil) ((l ++ pre ++ [x]).map word_of)).map say_of) ((l.length + pre.length : Nat) : Int) = say_of (Trie.tellT (run (l ++ pre)) (word_of x)) := by
    rw [List.map_append, toldT_app, List.map_append]
    unfold rd_T26
    rw [Int.toNat_natCast, List.getD_eq_getElem?_getD, List.getElem?_append_right (by rw [List.length_map, toldT_len, List.length_map, List.length_append]; exact Nat.le_refl _)]
    rw [List.length_map, toldT_len, List.length_map, List.length_append, Nat.sub_self]
    rfl
  unfold laws_wordLast.f
  rw [Option.bind_some, if_pos (by rw [List.length_nil]; omega), Option.bind_some, if_pos (by rw [List.nil_append, List.length_append, List.length_singleton]; omega), Option.bind_some, List.nil_append, e, hf, Option.bind_some]
  generalize (Trie.toldT (0, .nil) ((l ++ pre ++ [x]).map word_of)).map say_of = tt at hlen hat
  rw [if_pos (by rw [hlen, hn]), if_neg (by omega), hlen, wm _ (by omega), if_pos (by omega), if_pos (by omega), hat]
  rfl
/-- What a step makes of the words, and what it tells, by definition. -/
def newW (x : S30) (l : TriePure.R) : TriePure.R := if x.f0 = 0 then putW x.f1 x.f2 l else if x.f0 = 1 then TriePure.out (Trie.wd x.f1) l else l
def sayW (x : S30) (l : TriePure.R) : Trie.Say4 :=
  if x.f0 = 2 then ((tell (TriePure.look (Trie.wd x.f1) l)).1, (tell (TriePure.look (Trie.wd x.f1) l)).2, (⟨#[]⟩ : ByteArray), []) else if x.f0 = 3 then (0, (tell (TriePure.look (Trie.wd x.f1) l)).2, (⟨#[]⟩ : ByteArray), []) else if x.f0 = 4 then (0, false, (⟨#[]⟩ : ByteArray), ks l)
  else if x.f0 = 5 then (0, false, (⟨#[]⟩ : ByteArray), (ks l).filter (fun t => TriePure.T.pre (Trie.wd x.f1) (Trie.wd t))) else if x.f0 = 6 then (0, false, Trie.st ((Trie.wd x.f1).take (TriePure.T.most (Trie.wd x.f1) (TriePure.heads l))), []) else if x.f0 = 7 then ((l.length : Int), false, (⟨#[]⟩ : ByteArray), []) else (0, false, (⟨#[]⟩ : ByteArray), [])
theorem up_out (w : TriePure.W) {l : TriePure.R} (h : TriePure.Up l) : TriePure.Up (TriePure.out w l) := List.Pairwise.filter _ h
theorem no_empty (t : TriePure.T) : ∀ p ∈ TriePure.T.words t, p.1 ≠ [] := fun p hp e => by
  obtain ⟨k, ks, e1, _⟩ := TriePure.T.words_head t p hp
  rw [e] at e1
  cases e1
theorem words_put (n : Int) {t : TriePure.T} (ho : TriePure.T.Ord t) (s : ByteArray) (v : Int) : TriePure.T.words (Trie.putT s v (n, t)).2 = putW s v (TriePure.T.words t) := by
  unfold Trie.putT putW
  by_cases z : s.size = 0
  · rw [if_pos z, if_pos z]
  · rw [if_neg z, if_neg z]
    obtain ⟨k, ks, e⟩ := Trie.wd_cons z
    show TriePure.T.words (TriePure.T.put v t (Trie.wd s)) = _
    rw [e, TriePure.T.words_put v t k ks ho]
theorem words_rem (n : Int) {t : TriePure.T} (ho : TriePure.T.Ord t) (s : ByteArray) : TriePure.T.words (Trie.remT s (n, t)).2 = TriePure.out (Trie.wd s) (TriePure.T.words t) := by
  unfold Trie.remT
  by_cases z : s.size = 0
  · rw [if_pos z, Trie.wd_nil z, TriePure.out_none (no_empty t)]
  · rw [if_neg z]
    obtain ⟨k, ks, e⟩ := Trie.wd_cons z
    show TriePure.T.words (TriePure.T.rem t (Trie.wd s)) = _
    rw [e, (TriePure.T.rem_all t k ks ho).1]
theorem words_new (n : Int) {t : TriePure.T} (ho : TriePure.T.Ord t) (x : S30) : TriePure.T.words (Trie.stepT (n, t) (word_of x)).2 = newW x (TriePure.T.words t) := by
  unfold Trie.stepT newW
  show TriePure.T.words (if x.f0 = 0 then Trie.putT x.f1 x.f2 (n, t) else if x.f0 = 1 then Trie.remT x.f1 (n, t) else (n, t)).2 = _
  split
  · exact words_put n ho _ _
  · split
    · exact words_rem n ho _
    · rfl
theorem look_empty {l : TriePure.R} (h : ∀ p ∈ l, p.1 ≠ []) : TriePure.look [] l = none := by
  unfold TriePure.look
  rw [List.find?_eq_none.2 (fun x hx => by simpa using h x hx)]
  rfl
theorem got_tell {t : TriePure.T} (ho : TriePure.T.Ord t) (s : ByteArray) : Trie.got t (Trie.wd s) = tell (TriePure.look (Trie.wd s) (TriePure.T.words t)) := by
  have h : TriePure.T.find t (Trie.wd s) = TriePure.look (Trie.wd s) (TriePure.T.words t) := by
    by_cases z : s.size = 0
    · rw [Trie.wd_nil z, Trie.find_nil, look_empty (no_empty t)]
    · obtain ⟨k, ks, e⟩ := Trie.wd_cons z
      rw [e, TriePure.T.find_look t k ks ho]
  unfold Trie.got tell
  rw [h]
  cases TriePure.look (Trie.wd s) (TriePure.T.words t) <;> rfl
theorem ks_words (t : TriePure.T) : Trie.keysT t = ks (TriePure.T.words t) := by
  unfold Trie.keysT Trie.texts
  exact List.map_congr_left (fun p _ => by simp)
/-- All texts that are removed are there then. -/
def goneW : TriePure.R → List S30 → Bool
  | _, [] => true
  | l, x :: xs => if x.f0 = 1 ∧ (tell (TriePure.look (Trie.wd x.f1) l)).2 = false then false else goneW (newW x l) xs
theorem out_len {w : TriePure.W} : ∀ {l : TriePure.R}, TriePure.Up l → (tell (TriePure.look w l)).2 = true → (TriePure.out w l).length + 1 = l.length := fun {l} hu h => by
  rw [look_rank w l hu] at h
  cases q : here w l with
  | false => rw [q, if_neg (by simp)] at h; cases h
  | true =>
    have := rank_lt w l q
    rw [out_here w l hu q, List.length_append, List.length_take, List.length_drop]
    omega
theorem ins_len {w : TriePure.W} {v : Int} {l : TriePure.R} (hu : TriePure.Up l) : (TriePure.ins w v l).length = if (tell (TriePure.look w l)).2 = true then l.length else l.length + 1 := by
  have hlen : (ks (TriePure.ins w v l)).length = (TriePure.ins w v l).length := List.length_map ..
  have hk : (ks l).length = l.length := List.length_map ..
  have hv : (vs l).length = l.length := List.length_map ..
  rw [look_rank w l hu]
  cases q : here w l with
  | false =>
    have := rank_le w l
    rw [if_neg (show ¬ (false = true) by simp)]
    show _ = if false = true then _ else _
    rw [if_neg (by simp), ← hlen, (ins_new w v l q).1, List.length_append, List.length_cons, List.length_take, List.length_drop]
    omega
  | true =>
    have := rank_lt w l q
    rw [if_pos rfl, List.getElem?_eq_getElem (by omega)]
    show _ = if true = true then _ else _
    rw [if_pos rfl, ← hlen, (ins_here w v l q).1, hk]
theorem count_new {t : TriePure.T} (ho : TriePure.T.Ord t) (n : Int) (x : S30) (hn : n = ((TriePure.T.words t).length : Int)) (hx : ¬ (x.f0 = 1 ∧ (tell (TriePure.look (Trie.wd x.f1) (TriePure.T.words t))).2 = false)) :
    (Trie.stepT (n, t) (word_of x)).1 = ((newW x (TriePure.T.words t)).length : Int) := by
  have hu := TriePure.T.up_words ho
  unfold Trie.stepT newW
  show (if x.f0 = 0 then Trie.putT x.f1 x.f2 (n, t) else if x.f0 = 1 then Trie.remT x.f1 (n, t) else (n, t)).1 = _
  by_cases q : x.f0 = 0
  · rw [if_pos q, if_pos q]
    unfold Trie.putT putW
    by_cases z : x.f1.size = 0
    · rw [if_pos z, if_pos z]; exact hn
    · rw [if_neg z, if_neg z, ins_len hu, got_tell ho]
      show (if _ then n else n + 1) = _
      split
      · exact hn
      · rw [hn]; rfl
  · rw [if_neg q, if_neg q]
    by_cases q1 : x.f0 = 1
    · rw [if_pos q1, if_pos q1]
      have hg : (tell (TriePure.look (Trie.wd x.f1) (TriePure.T.words t))).2 = true := by
        cases e : (tell (TriePure.look (Trie.wd x.f1) (TriePure.T.words t))).2 with
        | true => rfl
        | false => exact absurd ⟨q1, e⟩ hx
      have hl := out_len hu hg
      unfold Trie.remT
      by_cases z : x.f1.size = 0
      · rw [Trie.wd_nil z, look_empty (no_empty t)] at hg
        cases hg
      · rw [if_neg z]
        show n - 1 = _
        omega
    · rw [if_neg q1, if_neg q1]; exact hn
theorem okt_step {i : Nat} {n : Int} {t : TriePure.T} (h : Trie.Okt i t) (hn : -(i : Int) ≤ n ∧ n ≤ i) (x : S30) (hs : x.f1.size ≤ 1099511627776) :
    Trie.Okt (i + 1) (Trie.stepT (n, t) (word_of x)).2 ∧ -((i + 1 : Nat) : Int) ≤ (Trie.stepT (n, t) (word_of x)).1 ∧ (Trie.stepT (n, t) (word_of x)).1 ≤ ((i + 1 : Nat) : Int) := by
  have := okt_run [word_of x] i n t h hn (fun a ha => by rw [List.mem_singleton] at ha; subst ha; exact hs)
  exact this
theorem step_ev (l : TriePure.R) (x : S30) (hl : l.length ≤ 1099511627776) (hu : TriePure.Up l) : Ev (fun k => spec_Words_Step.f k (ks l) (vs l) x.f0 x.f1 x.f2) (ks (newW x l), vs (newW x l), sayW x l) := by
  have hkl : (ks l).length = l.length := List.length_map ..
  unfold newW sayW
  by_cases q0 : x.f0 = 0
  · obtain ⟨K, h⟩ := putW_ev l x.f1 x.f2 hl
    refine ⟨K, fun k hk => ?_⟩
    have h' : spec_Words_Put.f k (ks l) (vs l) x.f1 x.f2 = _ := h k hk
    show spec_Words_Step.f k (ks l) (vs l) x.f0 x.f1 x.f2 = _
    unfold spec_Words_Step.f
    rw [if_pos q0, h', Option.bind_some, if_pos q0, q0]
    rfl
  by_cases q1 : x.f0 = 1
  · obtain ⟨K, h⟩ := remW_ev l x.f1 hl hu
    refine ⟨K, fun k hk => ?_⟩
    have h' : spec_Words_Remove.f k (ks l) (vs l) x.f1 = _ := h k hk
    show spec_Words_Step.f k (ks l) (vs l) x.f0 x.f1 x.f2 = _
    unfold spec_Words_Step.f
    rw [if_neg q0, if_pos q1, h', Option.bind_some, if_neg q0, if_pos q1, q1]
    rfl
  rw [if_neg q0, if_neg q1]
  by_cases q2 : x.f0 = 2
  · obtain ⟨K, h⟩ := get_ev l x.f1 hl hu
    refine ⟨K, fun k hk => ?_⟩
    have h' : spec_Words_Get.f k (ks l) (vs l) x.f1 = _ := h k hk
    show spec_Words_Step.f k (ks l) (vs l) x.f0 x.f1 x.f2 = _
    unfold spec_Words_Step.f
    rw [if_neg q0, if_neg q1, if_pos q2, h', Option.bind_some, if_pos q2]
  by_cases q3 : x.f0 = 3
  · obtain ⟨K, h⟩ := get_ev l x.f1 hl hu
    refine ⟨K, fun k hk => ?_⟩
    have h' : spec_Words_Get.f k (ks l) (vs l) x.f1 = _ := h k hk
    show spec_Words_Step.f k (ks l) (vs l) x.f0 x.f1 x.f2 = _
    unfold spec_Words_Step.f
    rw [if_neg q0, if_neg q1, if_neg q2, if_pos q3, h', Option.bind_some, if_neg q2, if_pos q3]
  by_cases q4 : x.f0 = 4
  · refine ⟨0, fun k _ => ?_⟩
    show spec_Words_Step.f k (ks l) (vs l) x.f0 x.f1 x.f2 = _
    unfold spec_Words_Step.f
    rw [if_neg q0, if_neg q1, if_neg q2, if_neg q3, if_pos q4, if_neg q2, if_neg q3, if_pos q4]
  by_cases q5 : x.f0 = 5
  · obtain ⟨K, h⟩ := with_ev (ks l) x.f1 (by omega)
    refine ⟨K, fun k hk => ?_⟩
    have h' : spec_With.f k (ks l) x.f1 = _ := h k hk
    show spec_Words_Step.f k (ks l) (vs l) x.f0 x.f1 x.f2 = _
    unfold spec_Words_Step.f
    rw [if_neg q0, if_neg q1, if_neg q2, if_neg q3, if_neg q4, if_pos q5, h', Option.bind_some, if_neg q2, if_neg q3, if_neg q4, if_pos q5]
  by_cases q6 : x.f0 = 6
  · obtain ⟨b, K, h⟩ := long_ev l x.f1 hl
    refine ⟨K, fun k hk => ?_⟩
    have h' : spec_Longest.f k (ks l) x.f1 = _ := h k hk
    show spec_Words_Step.f k (ks l) (vs l) x.f0 x.f1 x.f2 = _
    unfold spec_Words_Step.f
    rw [if_neg q0, if_neg q1, if_neg q2, if_neg q3, if_neg q4, if_neg q5, if_pos q6, h', Option.bind_some, if_neg q2, if_neg q3, if_neg q4, if_neg q5, if_pos q6]
  refine ⟨0, fun k _ => ?_⟩
  show spec_Words_Step.f k (ks l) (vs l) x.f0 x.f1 x.f2 = _
  unfold spec_Words_Step.f
  rw [if_neg q0, if_neg q1, if_neg q2, if_neg q3, if_neg q4, if_neg q5, if_neg q6, if_neg q2, if_neg q3, if_neg q4, if_neg q5, if_neg q6]
  by_cases q7 : x.f0 = 7
  · rw [if_pos q7, if_pos q7, hkl]
  · rw [if_neg q7, if_neg q7]
theorem up_ins {w : TriePure.W} {v : Int} : ∀ {l : TriePure.R}, TriePure.Up l → TriePure.Up (TriePure.ins w v l)
  | [], _ => by simp [TriePure.ins, TriePure.Up]
  | p :: l, h => by
    obtain ⟨h1, h2⟩ := List.pairwise_cons.1 h
    simp only [TriePure.ins]
    split
    · rename_i q
      refine List.pairwise_cons.2 ⟨fun y hy => ?_, up_ins h2⟩
      rcases Trie.ins_mem w v l y hy with e | ⟨z, hz, e⟩
      · rw [e]; exact q
      · rw [← e]; exact h1 z hz
    · split
      · exact List.pairwise_cons.2 ⟨h1, h2⟩
      · rename_i q q2
        have hl : TriePure.lt w p.1 = true := TriePure.lt_tot _ _ (by simpa using q) q2
        refine List.pairwise_cons.2 ⟨fun y hy => ?_, h⟩
        rcases List.mem_cons.1 hy with e | hy
        · rw [e]; exact hl
        · exact TriePure.lt_tr _ _ _ hl (h1 y hy)
theorem up_new (x : S30) {l : TriePure.R} (h : TriePure.Up l) : TriePure.Up (newW x l) := by
  unfold newW putW
  split
  · split
    · exact h
    · exact up_ins h
  · split
    · exact up_out _ h
    · exact h
theorem len_new (x : S30) (l : TriePure.R) : (newW x l).length ≤ l.length + 1 := by
  unfold newW putW
  split
  · split
    · omega
    · exact Trie.ins_len _ _ _
  · split
    · exact Nat.le_succ_of_le (List.length_filter_le _ _)
    · omega
theorem gone_row (xs : List S30) (hl : xs.length ≤ 2147483647) (d : Nat) : ∀ (j : Nat) (l : TriePure.R), j + d = xs.length → l.length ≤ j → TriePure.Up l → Ev (fun k => spec_Removed.l0 k xs (j : Int) (ks l) (vs l)) (goneW l (xs.drop j)) := by
  induction d with
  | zero =>
    intro j l hj _ _
    refine Ev.step (f := fun _ => some (goneW l (xs.drop j))) (fun k => ?_) (Ev.now _)
    simp only [spec_Removed.l0]
    rw [if_neg (by omega), List.drop_eq_nil_of_le (by omega)]
    rfl
  | succ d ih =>
    intro j l hj hlj hu
    have hjl : j < xs.length := by omega
    have hx : xs[j]? = some xs[j] := List.getElem?_eq_getElem hjl
    have hd : xs.drop j = xs[j] :: xs.drop (j + 1) := List.drop_eq_getElem_cons hjl
    generalize xs[j] = x at hx hd
    have hn := len_new x l
    obtain ⟨K0, h0⟩ := get_ev l x.f1 (by omega) hu
    obtain ⟨K1, h1⟩ := step_ev l x (by omega) hu
    obtain ⟨K2, h2⟩ := ih (j + 1) (newW x l) (by omega) (by omega) (up_new x hu)
    refine ⟨K0 + K1 + K2 + 1, fun k hk => ?_⟩
    obtain ⟨m, rfl⟩ : ∃ m, k = m + 1 := ⟨k - 1, by omega⟩
    have h0' : spec_Words_Get.f m (ks l) (vs l) x.f1 = _ := h0 m (by omega)
    have h1' : spec_Words_Step.f m (ks l) (vs l) x.f0 x.f1 x.f2 = _ := h1 m (by omega)
    have h2' : spec_Removed.l0 m xs ((j + 1 : Nat) : Int) (ks (newW x l)) (vs (newW x l)) = _ := h2 m (by omega)
    show spec_Removed.l0 (m + 1) xs (j : Int) (ks l) (vs l) = _
    simp only [spec_Removed.l0]
    rw [if_pos (by omega), if_pos (by omega), rd_word hx, h0', Option.bind_some, hd]
    simp only [goneW]
    by_cases q : x.f0 = 1
    · rw [if_pos q]
      cases g : (tell (TriePure.look (Trie.wd x.f1) l)).2 with
      | true => rw [if_pos rfl, h1', Option.bind_some, w1 j (by omega), if_neg (by simp)]; exact h2'
      | false => rw [if_neg (by simp), if_pos ⟨q, rfl⟩]
    · rw [if_neg q, h1', Option.bind_some, w1 j (by omega), if_neg (fun e => q e.1)]; exact h2'
theorem gone_ev (xs : List S30) (hl : xs.length ≤ 2147483647) : Ev (fun k => spec_Removed.f k xs) (goneW [] xs) := gone_row xs hl xs.length 0 [] (Nat.zero_add _) (Nat.le_refl _) List.Pairwise.nil
theorem count_run : ∀ (xs : List S30) (i : Nat) (n : Int) (t : TriePure.T), Trie.Okt i t → (-(i : Int) ≤ n ∧ n ≤ i) → (∀ x ∈ xs, x.f1.size ≤ 1099511627776) → n = ((TriePure.T.words t).length : Int) → goneW (TriePure.T.words t) xs = true →
    (Trie.runT (n, t) (xs.map word_of)).1 = ((TriePure.T.words (Trie.runT (n, t) (xs.map word_of)).2).length : Int)
  | [], _, _, _, _, _, _, hn, _ => hn
  | x :: xs, i, n, t, h, hb, hs, hn, hg => by
    have hk := okt_step h hb x (hs x List.mem_cons_self)
    have hw := words_new n h.ord x
    unfold goneW at hg
    by_cases q : x.f0 = 1 ∧ (tell (TriePure.look (Trie.wd x.f1) (TriePure.T.words t))).2 = false
    · rw [if_pos q] at hg; cases hg
    · rw [if_neg q] at hg
      exact count_run xs (i + 1) (Trie.stepT (n, t) (word_of x)).1 (Trie.stepT (n, t) (word_of x)).2 hk.1 hk.2 (fun a ha => hs a (List.mem_cons_of_mem _ ha)) (by rw [hw]; exact count_new h.ord n x hn q) (by rw [hw]; exact hg)
theorem look_any (w : TriePure.W) (l : TriePure.R) : (tell (TriePure.look w l)).2 = l.any (fun p => decide (p.1 = w)) := by
  induction l with
  | nil => rfl
  | cons p l ih =>
    unfold TriePure.look at ih ⊢
    rw [List.any_cons]
    by_cases h : p.1 = w
    · rw [List.find?_cons_of_pos (by simpa using h), decide_eq_true h]
      rfl
    · rw [List.find?_cons_of_neg (by simpa using h), decide_eq_false h, Bool.false_or]
      exact ih
theorem any_ks (a : ByteArray) (l : TriePure.R) : (ks l).any (fun s => s.toList == a.toList) = (tell (TriePure.look (Trie.wd a) l)).2 := by
  rw [look_any, List.any_map]
  congr 1
  funext p
  exact same_st p.1 a
theorem any_take {α : Type} (p : α → Bool) (l : List α) (j : Nat) (hj : j < l.length) : (l.take (j + 1)).any p = ((l.take j).any p || p l[j]) := by
  rw [List.take_succ_eq_append_getElem hj, List.any_append]
  simp
theorem keys_row (l : List S30) (a : ByteArray) (hl : l.length ≤ 2147483647) (hs : ∀ x ∈ l, x.f1.size ≤ 2147483647) (ha : a.size ≤ 2147483647) (z0 : Int) (z1 : Bool) (z2 : ByteArray) (d : Nat) :
    ∀ (j : Nat), j + d = (ks (TriePure.T.words (run l).2)).length → Ev (fun k => laws_FnTrieKeys.l0 k l a (((ks (TriePure.T.words (run l).2)).take j).any (fun s => s.toList == a.toList)) (j : Int) z0 z1 z2 (ks (TriePure.T.words (run l).2))) true := by
  have hk := run_okt l (fun x hx => by have := hs x hx; omega)
  have hlen : (ks (TriePure.T.words (run l).2)).length ≤ 2147483647 := by
    have h1 : (ks (TriePure.T.words (run l).2)).length = (TriePure.T.words (run l).2).length := List.length_map ..
    have := hk.many
    omega
  have last : ∀ (d : Int) (s : ByteArray), s.size ≤ 1099511627776 → laws_wordLast.f l [⟨d, s, 0⟩] = some ((Trie.tellT (run l) (d, s, 0)).1, (Trie.tellT (run l) (d, s, 0)).2.1, (Trie.tellT (run l) (d, s, 0)).2.2.1, (Trie.tellT (run l) (d, s, 0)).2.2.2, true) := fun d s h => by
    have e := wordLast_ev l [] ⟨d, s, 0⟩ (by simp; omega) (fun y hy => by
      simp only [List.append_nil, List.mem_append, List.mem_singleton] at hy
      rcases hy with hy | rfl
      · have := hs y hy; omega
      · exact h)
    rw [List.append_nil, List.nil_append] at e
    exact e
  have t3 : ∀ s, (Trie.tellT (run l) (3, s, 0)).2.1 = (tell (TriePure.look (Trie.wd s) (TriePure.T.words (run l).2))).2 := fun s => by rw [← got_tell hk.ord]; rfl
  have t2 : ∀ s, (Trie.tellT (run l) (2, s, 0)).2.1 = (tell (TriePure.look (Trie.wd s) (TriePure.T.words (run l).2))).2 := fun s => by rw [← got_tell hk.ord]; rfl
  induction d with
  | zero =>
    intro j hj
    refine Ev.step (f := fun _ => some true) (fun k => ?_) (Ev.now _)
    simp only [laws_FnTrieKeys.l0]
    rw [if_neg (by omega), last 3 a (by omega), Option.bind_some, last 2 a (by omega), Option.bind_some, List.take_of_length_le (by omega), any_ks]
    dsimp only
    rw [t3, t2]
    simp
  | succ d ih =>
    intro j hj
    have hjl : j < (ks (TriePure.T.words (run l).2)).length := by omega
    have hjw : j < (TriePure.T.words (run l).2).length := by rw [List.length_map] at hjl; exact hjl
    have hr : rdOf ByteArray.empty (ks (TriePure.T.words (run l).2)) (j : Int) = Trie.st (TriePure.T.words (run l).2)[j].1 := by rw [rd_str hjl]; exact List.getElem_map ..
    have hin : (TriePure.T.words (run l).2)[j] ∈ TriePure.T.words (run l).2 := List.getElem_mem hjw
    have hsz : (Trie.st (TriePure.T.words (run l).2)[j].1).size ≤ 1099511627776 := by rw [st_size]; exact hk.long _ hin
    have hat : (tell (TriePure.look (Trie.wd (Trie.st (TriePure.T.words (run l).2)[j].1)) (TriePure.T.words (run l).2))).2 = true := by
      rw [look_any, wd_st]
      exact List.any_eq_true.2 ⟨_, hin, by simp⟩
    have hi := ih (j + 1) (by omega)
    rw [any_take _ _ _ hjl] at hi
    have hg : (ks (TriePure.T.words (run l).2))[j] = Trie.st (TriePure.T.words (run l).2)[j].1 := List.getElem_map ..
    rw [hg] at hi
    obtain ⟨K, h⟩ := hi
    refine ⟨K + 2, fun k hk2 => ?_⟩
    obtain ⟨m, rfl⟩ : ∃ m, k = m + 1 + 1 := ⟨k - 2, by omega⟩
    have h' := h m (by omega)
    dsimp only at h'
    have third : ∀ b, laws_FnTrieKeys.j3 (m + 1) l a b (j : Int) z0 z1 z2 (ks (TriePure.T.words (run l).2)) = laws_FnTrieKeys.l0 m l a b ((j + 1 : Nat) : Int) z0 z1 z2 (ks (TriePure.T.words (run l).2)) := fun b => by
      simp only [laws_FnTrieKeys.j3]
      rw [if_pos (by omega), if_pos (by omega), hr, last 3 _ hsz, Option.bind_some, last 2 _ hsz, Option.bind_some]
      dsimp only
      rw [t3, t2, hat, w1 j (by omega)]
      simp
    show laws_FnTrieKeys.l0 (m + 1 + 1) _ _ _ _ _ _ _ _ = _
    rw [laws_FnTrieKeys.l0, if_pos (by omega)]
    cases q : ((ks (TriePure.T.words (run l).2)).take j).any (fun s => s.toList == a.toList) with
    | true =>
      rw [q, Bool.true_or] at h'
      rw [if_pos rfl, third]
      exact h'
    | false =>
      rw [q, Bool.false_or] at h'
      rw [if_neg (by simp), if_pos (by omega), hr, third]
      exact h'
theorem FnTrieKeys (l : List S30) (a : ByteArray) : ∃ k, laws_FnTrieKeys.f k l a = some true := by
  have out : ∀ k, laws_FnTrieKeys.j0 (k + 1) l a true = some true := fun k => by simp only [laws_FnTrieKeys.j0, if_true]
  by_cases hl : l.length ≤ 2147483647
  · obtain ⟨K0, h0⟩ := fits6_ev l hl
    cases hq : short l with
    | false =>
      refine ⟨K0 + 1, ?_⟩
      have h0' : laws_zzFits6.f (K0 + 1) l = some false := by rw [← hq]; exact h0 _ (by omega)
      unfold laws_FnTrieKeys.f
      rw [h0', Option.bind_some, if_neg (by simp), out]
    | true =>
      have hs : ∀ x ∈ l, x.f1.size ≤ 2147483647 := fun x hx => by simpa using List.all_eq_true.1 hq x hx
      by_cases ha : (a.size : Int) > 2147483647
      · refine ⟨K0 + 1, ?_⟩
        have h0' : laws_zzFits6.f (K0 + 1) l = some true := by rw [← hq]; exact h0 _ (by omega)
        unfold laws_FnTrieKeys.f
        rw [h0', Option.bind_some, if_pos rfl, decide_eq_true ha, out]
      have hk := run_okt l (fun x hx => by have := hs x hx; omega)
      have e1 := wordLast_ev l [] ⟨4, (⟨#[]⟩ : ByteArray), 0⟩ (by simp; omega) (fun y hy => by
        simp only [List.append_nil, List.mem_append, List.mem_singleton] at hy
        rcases hy with hy | rfl
        · have := hs y hy; omega
        · exact Nat.zero_le _)
      have e2 := wordLast_ev l [] ⟨7, (⟨#[]⟩ : ByteArray), 0⟩ (by simp; omega) (fun y hy => by
        simp only [List.append_nil, List.mem_append, List.mem_singleton] at hy
        rcases hy with hy | rfl
        · have := hs y hy; omega
        · exact Nat.zero_le _)
      rw [List.append_nil, List.nil_append] at e1 e2
      have f1 : (Trie.tellT (run l) (word_of ⟨4, (⟨#[]⟩ : ByteArray), 0⟩)).2.2.2 = ks (TriePure.T.words (run l).2) := ks_words _
      have f2 : (Trie.tellT (run l) (word_of ⟨7, (⟨#[]⟩ : ByteArray), 0⟩)).1 = (run l).1 := rfl
      obtain ⟨K1, h1⟩ := gone_ev l hl
      obtain ⟨K2, h2⟩ := keys_row l a hl hs (by omega) (Trie.tellT (run l) (word_of ⟨4, (⟨#[]⟩ : ByteArray), 0⟩)).1 (Trie.tellT (run l) (word_of ⟨4, (⟨#[]⟩ : ByteArray), 0⟩)).2.1 (Trie.tellT (run l) (word_of ⟨4, (⟨#[]⟩ : ByteArray), 0⟩)).2.2.1 _ 0 (Nat.zero_add _)
      refine ⟨K0 + K1 + K2 + 2, ?_⟩
      have h0' : laws_zzFits6.f (K0 + K1 + K2 + 2) l = some true := by rw [← hq]; exact h0 _ (by omega)
      have h1' := h1 (K0 + K1 + K2 + 1) (by omega)
      have h2' := h2 (K0 + K1 + K2) (by omega)
      dsimp only at h1' h2'
      have fin : laws_FnTrieKeys.j1 (K0 + K1 + K2 + 1) l a false (Trie.tellT (run l) (word_of ⟨4, (⟨#[]⟩ : ByteArray), 0⟩)).1 (Trie.tellT (run l) (word_of ⟨4, (⟨#[]⟩ : ByteArray), 0⟩)).2.1 (Trie.tellT (run l) (word_of ⟨4, (⟨#[]⟩ : ByteArray), 0⟩)).2.2.1 (ks (TriePure.T.words (run l).2)) = some true := by
        simp only [laws_FnTrieKeys.j1]
        rw [if_neg (by simp)]
        exact h2'
      unfold laws_FnTrieKeys.f
      rw [h0', Option.bind_some, if_pos rfl, decide_eq_false ha]
      rw [laws_FnTrieKeys.j0, if_neg (by simp), e1, Option.bind_some, e2, Option.bind_some]
      dsimp only
      rw [if_pos rfl, if_pos rfl, h1', Option.bind_some, f1, f2]
      cases g : goneW [] l with
      | false => rw [if_neg (by simp)]; exact fin
      | true =>
        have hn : (run l).1 = ((ks (TriePure.T.words (run l).2)).length : Int) := by
          rw [List.length_map]
          exact count_run l 0 0 .nil okt_nil (by simp) (fun x hx => by have := hs x hx; omega) rfl g
        rw [if_pos rfl, hn]
        have e : ((((ks (TriePure.T.words (run l).2)).length : Int)) != ((ks (TriePure.T.words (run l).2)).length : Int)) = false := by simp
        rw [e]
        exact fin
  · refine ⟨1, ?_⟩
    unfold laws_FnTrieKeys.f
    rw [fits6_long l hl, Option.bind_some, if_neg (by simp)]
    exact out 0
end Go.Proofs.Ytkgbflcbeeghoaa.Pure

namespace Go.Proofs.Ytkgbflcbeeghoaa.Open
open Go Go.Deep Go.Joins Go.ChangeShapes Go.WideShapes Go.ChangeAt Go.RowKit Go.Proofs.YtkgbflcbeeghoaaW.PrintWords Go.Proofs.YtkgbflcbeeghoaaW.PrintLast Go.Proofs.YtkgbflcbeeghoaaW.PrintMore
/-- What lies as_ data of type e reads as_ a kind says; ok: what is known of it besides. -/
def Reads (P : Program) (e : TypeId) {α : Type} (d : Kd α) (ok : α → Prop) : Prop :=
  P.cellsOf e = d.sz ∧ ∀ {H : Type} (enc : TypeId × Value → H) (w : World) (base : Nat) (spare : Nat → Bool) (held : Bool) (n : Nat) (cs : List Value) (x : DataW H × List MemPlace),
    DataW.trod enc P w base spare held n e cs = some x → ∃ a, d.K w a cs ∧ ok a
section
variable {P : Program} {α β γ δ ε : Type} {t e : TypeId}
theorem reads_int {k : IntKind} (ht : P.underlying e = some (.int k)) (hc : P.cellsOf e = 1) : Reads P e (Kd.int k) (fun n => (Lit.int k n).wf = true) :=
  ⟨hc, fun _ _ _ _ _ _ _ _ h => by
    obtain ⟨n, rfl, _, hw⟩ := DataW.trod_int ht h
    exact ⟨n, rfl, hw⟩⟩
theorem reads_string (ht : P.underlying e = some .string) (hc : P.cellsOf e = 1) : Reads P e Kd.string (fun s => s.size ≤ maxLen) :=
  ⟨hc, fun _ _ _ _ _ _ _ _ h => by
    obtain ⟨s, rfl, _, hw⟩ := DataW.trod_string ht h
    exact ⟨s, rfl, hw⟩⟩
theorem rows_of {p : Nat → α → Prop} : ∀ n : Nat, (∀ i, i < n → ∃ a, p i a) → ∃ xs : List α, xs.length = n ∧ ∀ j a, xs[j]? = some a → p j a
  | 0, _ => ⟨[], rfl, fun j a h => by simp at h⟩
  | n + 1, h => by
    obtain ⟨xs, hl, hx⟩ := rows_of n (fun i hi => h i (by omega))
    obtain ⟨a, ha⟩ := h n (Nat.lt_succ_self n)
    refine ⟨xs ++ [a], by simp [hl], fun j b hb => ?_⟩
    rcases Nat.lt_or_ge j xs.length with hj | hj
    · rw [List.getElem?_append_left hj] at hb
      exact hx j b hb
    · rw [List.getElem?_append_right hj] at hb
      have : j = n := by
        rcases Nat.eq_zero_or_pos (j - xs.length) with h0 | h0
        · omega
        · rw [List.getElem?_eq_none (by simp; omega)] at hb; cases hb
      subst this
      rw [hl, Nat.sub_self] at hb
      simp at hb
      exact hb ▸ ha
theorem open_C {d : Kd α} {ok : α → Prop} (hd : Reads P e d ok) (ht : P.underlying t = some (.slice e)) {H : Type} {enc : TypeId × Value → H} {w : World} {base : Nat} {spare : Nat → Bool} {held : Bool} {fuel : Nat} {cs : List Value} {x : DataW H × List MemPlace}
    (h : DataW.trod enc P w base spare held fuel t cs = some x) : ∃ A c xs, cs = [.slice A xs.length c] ∧ xs.length ≤ c ∧ c ≤ maxLen ∧ d.C w A xs.length xs ∧ ∀ a ∈ xs, ok a := by
  rcases open_slice ht h with ⟨rfl, _⟩ | ⟨a, len, cap, m, n, D, Pl, rfl, _, hl, hm, hmm, _, hx⟩
  · exact ⟨none, 0, [], rfl, Nat.le_refl _, by simp [maxLen], Kd.C_nil d w, fun a ha => by simp at ha⟩
  · have hle : len ≤ m := by rw [hmm]; split <;> omega
    obtain ⟨xs, hxl, hxs⟩ := rows_of (p := fun i (y : α) => ok y ∧ ∃ c, c.length = d.sz ∧ d.K w y c ∧ ∀ k u, c[k]? = some u → w.cell? (a.add (i * d.sz + k)) = some u) len (fun i hi => by
      obtain ⟨cs', h1, h2⟩ := hx i (by omega)
      obtain ⟨y, hy, hok⟩ := hd.2 _ _ _ _ _ _ _ _ h2
      obtain ⟨_, hlen, hcell⟩ := World.cells?_some h1
      rw [hd.1] at hlen hcell
      refine ⟨y, hok, cs', hlen, hy, fun k u hu => ?_⟩
      have hk : k < d.sz := by
        rw [← hlen]
        exact (List.getElem?_eq_some_iff.1 hu).1
      rw [← Go.Deep.add_add, hcell k hk, hu])
    subst hxl
    refine ⟨some a, cap, xs, rfl, hl, hm, ⟨rfl, by unfold maxLen at hm; omega, fun _ => ⟨a, rfl, fun j p hj => ?_⟩⟩, fun b hb => ?_⟩
    · exact (hxs j p hj).2
    · obtain ⟨j, hj, rfl⟩ := List.getElem_of_mem hb
      exact (hxs j _ (List.getElem?_eq_getElem hj)).1
/-- An argument of a slice's type, of whatever elements. -/
theorem open_arg {d : Kd α} {ok : α → Prop} (hd : Reads P e d ok) (ht : P.underlying t = some (.slice e)) {H : Type} {enc : TypeId × Value → H} {w : World} {base b2 : Nat} {spare : Nat → Bool} {held : Bool} {r : Reach} {v : Value} {x : DataW H} {ps : List MemPlace}
    (hv : Value.okWide P w r b2 t v) (h : DataW.Trod enc P w base spare held t v x ps) : ∃ A c xs, v = .slice A xs.length c ∧ xs.length ≤ c ∧ c ≤ maxLen ∧ d.C w A xs.length xs ∧ ∀ a ∈ xs, ok a := by
  obtain ⟨A, len, cap, rfl⟩ := okWide_slice ht hv
  obtain ⟨fuel, hf⟩ := h
  obtain ⟨A', c, xs, he, hl, hm, hC, hok⟩ := open_C hd ht hf
  simp only [Value.cells] at he
  injection he with he
  exact ⟨A', c, xs, he, hl, hm, hC, hok⟩
theorem trod_blocks {H : Type} {enc : TypeId × Value → H} {w : World} {base : Nat} {spare : Nat → Bool} {held : Bool} {v : Value} {x : DataW H} {ps : List MemPlace} (h : DataW.Trod enc P w base spare held t v x ps) : ∀ y ∈ ps, y.block < w.heap.size := by
  obtain ⟨m, hm⟩ := h
  exact DataW.trod_lt m _ _ _ hm
end
end Go.Proofs.Ytkgbflcbeeghoaa.Open

namespace Go.Proofs.Ytkgbflcbeeghoaa.fnTrieKeys
open Go Go.ChangeShapes Go.WideShapes Go.ChangeAt Go.RowKit Go.Proofs.YtkgbflcbeeghoaaW.PrintWords Go.Proofs.Ytkgbflcbeeghoaa.QFnTrieKeys
open Go.ChangeMaps (open_string shut_string)
set_option linter.unusedVariables false
set_option linter.unusedSimpArgs false
theorem own : ownKnob Try.prog.godebug = none := by kernel_rfl
theorem laidOut : laidOutB Try.prog = true := by kernel_rfl
set_option maxRecDepth 100000 in
theorem reads_T30 : Open.Reads Try.prog 30 k30 (fun x => (Lit.int .i64 x.f0).wf = true ∧ x.f1.size ≤ maxLen ∧ (Lit.int .i64 x.f2).wf = true) :=
  ⟨by kernel_rfl, fun enc w base spare held _ cs _ h => by
    obtain ⟨xs, n_, _, _, hl, hlen, hf⟩ := DataW.trod_struct Try.underlying30 h
    have hc : Try.prog.cellsOf 30 = 3 := by kernel_rfl
    rw [hc] at hl
    obtain ⟨c0, c1, c2, rfl⟩ : ∃ c0 c1 c2, cs = [c0, c1, c2] := by
      match cs, hl with
      | [c0, c1, c2], _ => exact ⟨c0, c1, c2, rfl⟩
    obtain ⟨y0, y1, y2, rfl⟩ : ∃ y0 y1 y2, xs = [y0, y1, y2] := by
      match xs, hlen with
      | [y0, y1, y2], _ => exact ⟨y0, y1, y2, rfl⟩
    have hc3 : Try.prog.cellsOf 3 = 1 := by kernel_rfl
    have hc9 : Try.prog.cellsOf 9 = 1 := by kernel_rfl
    have h0 : DataW.trod enc Try.prog w base spare held n_ 3 [c0] = some y0 := by
      have := hf 0 _ rfl
      simp only [List.getElem_toArray, List.getElem_cons_zero, List.getElem_cons_succ, hc3] at this
      exact this
    obtain ⟨a0, k0_, o0⟩ := ((Open.reads_int Try.underlying3 (by kernel_rfl))).2 _ _ _ _ _ _ _ _ h0
    replace k0_ : ((Kd.int .i64)).K w a0 [c0] := k0_
    have h1 : DataW.trod enc Try.prog w base spare held n_ 9 [c1] = some y1 := by
      have := hf 1 _ rfl
      simp only [List.getElem_toArray, List.getElem_cons_zero, List.getElem_cons_succ, hc9] at this
      exact this
    obtain ⟨a1, k1_, o1⟩ := ((Open.reads_string Try.underlying9 (by kernel_rfl))).2 _ _ _ _ _ _ _ _ h1
    replace k1_ : (Kd.string).K w a1 [c1] := k1_
    have h2 : DataW.trod enc Try.prog w base spare held n_ 3 [c2] = some y2 := by
      have := hf 2 _ rfl
      simp only [List.getElem_toArray, List.getElem_cons_zero, List.getElem_cons_succ, hc3] at this
      exact this
    obtain ⟨a2, k2_, o2⟩ := ((Open.reads_int Try.underlying3 (by kernel_rfl))).2 _ _ _ _ _ _ _ _ h2
    replace k2_ : ((Kd.int .i64)).K w a2 [c2] := k2_
    exact ⟨⟨a0, a1, a2⟩, ⟨[c0], [c1, c2], rfl, k0_, ⟨[c1], [c2], rfl, k1_, k2_⟩⟩, o0, o1, o2⟩⟩
set_option maxRecDepth 100000 in
theorem lifted (os : Os) (started : os.Started) (H : Type) (enc : TypeId × Value → H) :
    ReturnsInHanded {} Try.checked os 3 .any (Rows.fnTrieKeysSpec.pre6 enc Try.prog Try.f3 Rows.fnTrieKeysRow.domain false) (Rows.fnTrieKeysSpec.post enc Try.prog Try.f3 false true false false) := by
  refine returnsInHanded_of_change_sized (C := Try.checked) own started (by kernel_rfl) Try.func3
    (ChangeSpec.witness6 (enc := enc) (C := Try.checked) false ⟨#[], #[.slice none 0 0, .string ByteArray.empty], []⟩ 8 (by kernel_rfl) (by kernel_rfl) (by kernel_rfl) (by kernel_rfl)) ?_
  intro W base args ds gs before hval0 hW hcnd hsz0 _
  have hsz : (DataW.weightsEach Try.prog (Try.f3.params.toList ++ Rows.fnTrieKeysSpec.plain.varTypes Try.prog) (ds ++ gs)).all (· ≤ reachBytes) = true := hsz0
  have hval : ∀ (j : Nat) t v, Try.f3.params[j]? = some t → args[j]? = some v → Value.okWide Try.prog W .any base t v := hval0
  have hW' := hW
  obtain ⟨p, q, hA0, hV, rfl, hfz, hnd⟩ := hW
  have hA : DataW.TrodAll enc Try.prog W 0 (fun _ => true) true Try.f3.params.toList args.toList ds p := hA0
  rw [Try.params3] at hA hval hsz
  obtain ⟨v0, vs0, d0, ds0, p0, q0, hargs, rfl, rfl, h0, r0⟩ := trodAll_cons hA
  obtain ⟨v1, vs1, d1, ds1, p1, q1, rfl, rfl, rfl, h1, r1⟩ := trodAll_cons r0
  obtain ⟨rfl, rfl, rfl⟩ := trodAll_nil r1
  obtain rfl : args = #[v0, v1] := by cases args; simp_all
  obtain ⟨rfl, rfl⟩ := trodVars_none hV
  have k0 := h0
  have lt0 := Open.trod_blocks k0
  obtain ⟨A0, c0, l0, rfl, hc0, hm0, hr0, ok0⟩ := Open.open_arg (d := k30) reads_T30 Try.underlying22 (hval 0 22 v0 rfl rfl) h0
  obtain ⟨a1, rfl, rfl, rfl, y1⟩ := open_string Try.underlying9 (hval 1 9 v1 rfl rfl) h1
  have w1 : a1.size ≤ 140737488351232 := by
    have z := sized_string hsz (j := 1) (t := 9) rfl rfl
    rw [Array.length_toList] at z
    exact z
  clear hA0 hval0 hsz0 hsz
  obtain ⟨kk_, hk_⟩ := (Pure.FnTrieKeys l0 a1 )
  refine (laws_FnTrieKeys.calls kk_ A0 c0 l0 a1 true W hr0 hc0 hk_).mono fun e W' ⟨he, bel0⟩ => ?_
  have bel : Below W.heap.size W W' := bel0
  subst he
  exact ⟨_, rfl, _, _, _, [], _, [], hW', trodAll_mk1 (shut_bool Try.underlying4 _), (trodAll_cons_mk (Below.trod laidOut (by kernel_rfl) (of_decide_eq_true (by kernel_rfl)) k0 bel lt0) (trodAll_cons_mk (shut_string Try.underlying9 y1) trodAll_mk0)), rfl, bel.frame _, fun h => by cases h⟩
theorem over : Rows.fnTrieKeysRow.holds Try.pinned (OpenSpec.ofChange Rows.fnTrieKeysSpec) :=
  OpenClaim.holds_of_wide 3 Try.f3 rfl rfl rfl rfl rfl rfl rfl ⟨rfl, rfl, rfl, rfl, rfl⟩ rfl rfl rfl rfl rfl (by kernel_rfl) Try.func3 (by kernel_rfl)
    (of_decide_eq_true (by kernel_rfl)) (by unfold Func.isWrapper; first | (rw [if_pos (by decide +kernel)]; kernel_rfl) | (rw [if_neg (by decide +kernel)]; exact ⟨rfl, rfl⟩))
    (fun os started H enc _ => lifted os started H enc)
theorem proved : Rows.FnTrieKeysSaid := over
end Go.Proofs.Ytkgbflcbeeghoaa.fnTrieKeys
namespace Go.Proofs.Ytkgbflcbeeghoaa
/-- The row, under a short name, for the claim. -/
theorem fnTrieKeys_holds : Rows.FnTrieKeysSaid := fnTrieKeys.proved
end Go.Proofs.Ytkgbflcbeeghoaa
