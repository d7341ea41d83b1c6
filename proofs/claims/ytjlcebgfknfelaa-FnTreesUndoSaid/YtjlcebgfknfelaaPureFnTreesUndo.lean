/- Behind any script a key that is put and removed again leaves the tree's rows and size as they were, if it was not there: for every table, every script, both trees. -/
import Derived.Test.YtjlcebgfknfelaaQFnTreesUndox2
import Derived.IntWalk
namespace Go.Proofs.Ytjlcebgfknfelaa.TreesUndoPure
open Go.RowKit Go.IntWalk Go.Proofs.Ytjlcebgfknfelaa.QFnTreesUndo Go.Proofs.YtjlcebgfknfelaaW.PrintWords Go.Proofs.YtjlcebgfknfelaaW.PrintLast Go.Proofs.Ytjlcebgfknfelaa.Less
/-! ### What a script tells at its beginning, and how much -/
theorem avl_take (tb : List Int) : ∀ (l : List Avl.Act3) (t : AvlPure.T) (n : Nat), Avl.toldT tb t (l.take n) = (Avl.toldT tb t l).take n
  | [], t, n => by simp [Avl.toldT]
  | a :: l, t, 0 => by simp [Avl.toldT]
  | a :: l, t, n + 1 => by simp [Avl.toldT, avl_take tb l]
theorem bt_take (tb : List Int) : ∀ (l : List Avl.Act3) (t : List BtPure.E) (n : Nat), Bt.toldT tb t (l.take n) = (Bt.toldT tb t l).take n
  | [], t, n => by simp [Bt.toldT]
  | a :: l, t, 0 => by simp [Bt.toldT]
  | a :: l, t, n + 1 => by simp [Bt.toldT, bt_take tb l]
theorem avl_step_size (tb : List Int) (t : AvlPure.T) (a : Avl.Act3) : (Avl.stepT tb t a).size ≤ t.size + 1 := by
  unfold Avl.stepT
  split
  · exact AvlPure.T.size_ins _ _ _ t
  · split
    · have := AvlPure.T.size_rem (rankOf tb) t a.2.1; omega
    · omega
theorem avl_small (tb : List Int) : ∀ (l : List Avl.Act3) (t : AvlPure.T) (y : Avl.Told4), y ∈ Avl.toldT tb t l → (y.2.2.1.length : Int) ≤ t.size + l.length ∧ y.2.2.2.length = y.2.2.1.length
  | [], _, y, h => by simp [Avl.toldT] at h
  | a :: l, t, y, h => by
    have hs := AvlPure.T.size_nonneg t
    rcases List.mem_cons.1 h with rfl | h
    · have hk := Avl.keys_length t
      have hv := Avl.vals_length t
      unfold Avl.tellT
      repeat' split
      all_goals refine ⟨?_, ?_⟩
      all_goals first | exact hv | rfl | (simp only [List.length_cons, List.length_nil]; omega)
    · obtain ⟨h1, h2⟩ := avl_small tb l _ y h
      have := avl_step_size tb t a
      simp only [List.length_cons]
      exact ⟨by omega, h2⟩
theorem bt_step_len (tb : List Int) (t : List BtPure.E) (a : Avl.Act3) : (Bt.stepT tb t a).length ≤ t.length + 1 := by
  unfold Bt.stepT
  split
  · exact BtPure.len_insL.1
  · split
    · split
      · exact BtPure.len_insL.1
      · omega
    · omega
theorem bt_small (tb : List Int) : ∀ (l : List Avl.Act3) (t : List BtPure.E) (y : Avl.Told4), y ∈ Bt.toldT tb t l → y.2.2.1.length ≤ t.length + l.length ∧ y.2.2.2.length = y.2.2.1.length
  | [], _, y, h => by simp [Bt.toldT] at h
  | a :: l, t, y, h => by
    rcases List.mem_cons.1 h with rfl | h
    · have hk : (Bt.keysV t).length ≤ t.length := by rw [Bt.keysV, List.length_map]; exact List.length_filter_le ..
      have hv := Bt.valsV_len t
      unfold Bt.tellT
      repeat' split
      all_goals refine ⟨?_, ?_⟩
      all_goals first | exact hv | rfl | (simp only [List.length_cons, List.length_nil]; omega)
    · obtain ⟨h1, h2⟩ := bt_small tb l _ y h
      have := bt_step_len tb t a
      simp only [List.length_cons]
      exact ⟨by omega, h2⟩
theorem same_loop (l : List Int) (hl : l.length ≤ 140737488351232) : ∀ (d : Nat) (i : Int), 0 ≤ i → ((l.length : Int) - i).toNat ≤ d → Ev (fun k => spec_Same.l0 k l l i) true := by
  intro d
  induction d with
  | zero => intro i h0 hd; exact Ev.step (f := fun _ => some true) (fun k => by simp only [spec_Same.l0]; rw [if_neg (by omega)]) (Ev.now _)
  | succ d ih =>
    intro i h0 hd
    by_cases hi : i < (l.length : Int)
    · exact Ev.step (fun k => by simp only [spec_Same.l0]; rw [if_pos hi, if_pos h0, if_pos hi, if_pos trivial, wrap64_in _ (by omega)]) (ih (i + 1) (by omega) (by omega))
    · exact Ev.step (f := fun _ => some true) (fun k => by simp only [spec_Same.l0]; rw [if_neg hi]) (Ev.now _)
theorem same_ev (l : List Int) (hl : l.length ≤ 140737488351232) : Ev (fun k => spec_Same.f k l l) true := by
  unfold spec_Same.f
  exact Ev.congr (fun k => if_pos rfl) (same_loop l hl l.length 0 (by omega) (by omega))
/-! ### A key put and removed, in a row of pairs -/
section
open AvlPure.T (putL remL getL)
variable {rk : Int → Int} {k v : Int}
theorem get_put : ∀ L : List (Int × Int), ∃ p, getL rk k (putL rk k v L) = some p ∧ p.2 = v
  | [] => ⟨(k, v), by simp [putL, getL], rfl⟩
  | (a, b) :: L => by
    simp only [putL]
    by_cases c : rk a < rk k
    · rw [if_pos c]; simp only [getL]; rw [if_pos c]; exact get_put L
    · rw [if_neg c]
      by_cases c2 : rk k < rk a
      · rw [if_pos c2]; exact ⟨(k, v), by simp [getL], rfl⟩
      · rw [if_neg c2]; exact ⟨(a, v), by simp only [getL]; rw [if_neg c, if_neg c2], rfl⟩
theorem get_high' {M : List (Int × Int)} (h : ∀ x ∈ M, rk k < rk x.1) : getL rk k M = none := by
  cases M with
  | nil => rfl
  | cons x M => have := h x List.mem_cons_self; simp only [getL]; rw [if_neg (by omega), if_pos this]
theorem get_gone : ∀ {L : List (Int × Int)}, AvlPure.T.Up rk L → getL rk k (remL rk k L) = none
  | [], _ => rfl
  | (a, b) :: L, hu => by
    obtain ⟨h1, h2⟩ := List.pairwise_cons.1 hu
    simp only [remL]
    by_cases c : rk a < rk k
    · rw [if_pos c]; simp only [getL]; rw [if_pos c]; exact get_gone h2
    · rw [if_neg c]
      by_cases c2 : rk k < rk a
      · rw [if_pos c2]; simp only [getL]; rw [if_neg c, if_pos c2]
      · rw [if_neg c2]
        exact get_high' (fun x hx => by have : rk a < rk x.1 := h1 x hx; omega)
theorem put_none : ∀ {L : List (Int × Int)}, getL rk k L = none → (putL rk k v L).length = L.length + 1 ∧ remL rk k (putL rk k v L) = L
  | [], _ => ⟨rfl, by simp [putL, remL]⟩
  | (a, b) :: L, h => by
    simp only [getL] at h
    simp only [putL]
    by_cases c : rk a < rk k
    · rw [if_pos c] at h ⊢
      obtain ⟨e1, e2⟩ := put_none h
      refine ⟨by rw [List.length_cons, e1, List.length_cons], ?_⟩
      simp only [remL]
      rw [if_pos c, e2]
    · rw [if_neg c] at h ⊢
      by_cases c2 : rk k < rk a
      · rw [if_pos c2]
        refine ⟨rfl, ?_⟩
        simp [remL]
      · rw [if_neg c2] at h; cases h
theorem put_some' : ∀ {L : List (Int × Int)} {p : Int × Int}, getL rk k L = some p → (putL rk k v L).length = L.length ∧ (remL rk k (putL rk k v L)).length + 1 = L.length
  | [], _, h => by cases h
  | (a, b) :: L, p, h => by
    simp only [getL] at h
    simp only [putL]
    by_cases c : rk a < rk k
    · rw [if_pos c] at h ⊢
      obtain ⟨e1, e2⟩ := put_some' h
      refine ⟨by rw [List.length_cons, e1, List.length_cons], ?_⟩
      simp only [remL]
      rw [if_pos c, List.length_cons, List.length_cons, e2]
    · rw [if_neg c] at h ⊢
      by_cases c2 : rk k < rk a
      · rw [if_pos c2] at h; cases h
      · rw [if_neg c2]
        refine ⟨rfl, ?_⟩
        simp only [remL]
        rw [if_neg c, if_neg c2, List.length_cons]
end
section
open BtPure (E insL findL tell)
variable {r : Int → Int} {k v : Int} {ok : Bool}
theorem find_ins : ∀ raw : List E, tell (findL r k (insL r k v ok raw)) = (v, ok)
  | [] => by simp [insL, findL, tell]
  | e :: l => by
    simp only [insL]
    by_cases c : r k = r e.1
    · rw [if_pos c]; simp [findL, tell, c]
    · rw [if_neg c]
      by_cases c2 : r k < r e.1
      · rw [if_pos c2]; simp [findL, tell]
      · rw [if_neg c2]
        have := find_ins l
        unfold findL at this ⊢
        rw [List.find?_cons_of_neg (by simpa using c)]
        exact this
theorem undo_row : ∀ {raw : List E}, (tell (findL r k raw)).2 = false → (insL r k 0 false (insL r k v true raw)).filter (·.2.2) = raw.filter (·.2.2)
  | [], _ => by simp [insL]
  | e :: l, h => by
    simp only [insL]
    by_cases c : r k = r e.1
    · have he : e.2.2 = false := by
        unfold findL at h
        rw [List.find?_cons_of_pos (by simpa using c)] at h
        exact h
      rw [if_pos c]
      simp only [insL]
      rw [if_pos c]
      simp [he]
    · rw [if_neg c]
      by_cases c2 : r k < r e.1
      · rw [if_pos c2]
        simp only [insL]
        rw [if_pos trivial]
        simp [List.filter_cons]
      · rw [if_neg c2]
        simp only [insL]
        rw [if_neg c, if_neg c2]
        have hl : (tell (findL r k l)).2 = false := by
          unfold findL at h ⊢
          rw [List.find?_cons_of_neg (by simpa using c)] at h
          exact h
        rw [List.filter_cons, List.filter_cons, undo_row hl]
end
/-! ### The nine steps -/
abbrev trip (x : S66) : Avl.Act3 := (x.f0, x.f1, x.f2)
def nine (k v : Int) : List S66 := [⟨4, 0, 0⟩, ⟨2, k, 0⟩, ⟨0, k, v⟩, ⟨2, k, 0⟩, ⟨3, 0, 0⟩, ⟨1, k, 0⟩, ⟨2, k, 0⟩, ⟨4, 0, 0⟩, ⟨3, 0, 0⟩]
structure Good (kind v : Int) (y : List S46) : Prop where
  len : y.length = 9
  got : (rd_T46 y 3).f1 = true ∧ (rd_T46 y 3).f0 = v
  gone : (rd_T46 y 6).f1 = false
  small : (rd_T46 y 0).f2.length ≤ 4294967296 ∧ (rd_T46 y 0).f3.length ≤ 4294967296
  was : kind = 0 → (rd_T46 y 1).f1 = true → (rd_T46 y 4).f0 = ((rd_T46 y 0).f2.length : Int) ∧ (rd_T46 y 8).f0 = ((rd_T46 y 0).f2.length : Int) - 1
  new : (rd_T46 y 1).f1 ≠ true → (rd_T46 y 7).f2 = (rd_T46 y 0).f2 ∧ (rd_T46 y 7).f3 = (rd_T46 y 0).f3 ∧ (kind = 0 → (rd_T46 y 4).f0 = ((rd_T46 y 0).f2.length : Int) + 1 ∧ (rd_T46 y 8).f0 = ((rd_T46 y 0).f2.length : Int))
theorem avl_app (tb : List Int) : ∀ (l m : List Avl.Act3) (t : AvlPure.T), Avl.toldT tb t (l ++ m) = Avl.toldT tb t l ++ Avl.toldT tb (Avl.runT tb t l) m
  | [], _, _ => rfl
  | a :: l, m, t => congrArg (Avl.tellT tb t a :: ·) (avl_app tb l m _)
theorem bt_app (tb : List Int) : ∀ (l m : List Avl.Act3) (t : List BtPure.E), Bt.toldT tb t (l ++ m) = Bt.toldT tb t l ++ Bt.toldT tb (Bt.runT tb t l) m
  | [], _, _ => rfl
  | a :: l, m, t => congrArg (Bt.tellT tb t a :: ·) (bt_app tb l m _)
theorem avl_up (tb : List Int) : ∀ (l : List Avl.Act3) (t : AvlPure.T), AvlPure.T.Up (rankOf tb) t.list → AvlPure.T.Up (rankOf tb) (Avl.runT tb t l).list ∧ (Avl.runT tb t l).size ≤ t.size + l.length
  | [], t, h => ⟨h, by simp [Avl.runT]⟩
  | a :: l, t, hu => by
    have hs : AvlPure.T.Up (rankOf tb) (Avl.stepT tb t a).list := by
      unfold Avl.stepT
      by_cases h0 : a.1 = 0
      · rw [if_pos h0, AvlPure.T.list_ins hu]; exact AvlPure.T.up_putL hu
      · rw [if_neg h0]
        by_cases h1 : a.1 = 1
        · rw [if_pos h1, AvlPure.T.list_rem _ hu]; exact AvlPure.T.up_remL hu
        · rw [if_neg h1]; exact hu
    have := avl_up tb l _ hs
    have h2 := avl_step_size tb t a
    refine ⟨this.1, ?_⟩
    have h3 := this.2
    simp only [Avl.runT, List.length_cons] at h3 ⊢
    omega
theorem bt_len (tb : List Int) : ∀ (l : List Avl.Act3) (t : List BtPure.E), (Bt.runT tb t l).length ≤ t.length + l.length
  | [], _ => Nat.le_refl _
  | a :: l, t => by have := bt_len tb l (Bt.stepT tb t a); have := bt_step_len tb t a; simp only [Bt.runT, List.length_cons]; omega
theorem avl_good (tb : List Int) (t : AvlPure.T) (hu : AvlPure.T.Up (rankOf tb) t.list) (hs : t.size ≤ 2147483647) (k v : Int) : Good 0 v ((Avl.toldT tb t ((nine k v).map trip)).map told_of) := by
  have u1 : AvlPure.T.Up (rankOf tb) (AvlPure.T.ins (rankOf tb) k v t).list := by rw [AvlPure.T.list_ins hu]; exact AvlPure.T.up_putL hu
  have g0 : Avl.got tb t k = match AvlPure.T.getL (rankOf tb) k t.list with | none => (0, false) | some p => (p.2, true) := by unfold Avl.got; rw [AvlPure.T.find_list hu]; cases AvlPure.T.getL (rankOf tb) k t.list <;> rfl
  have g1 : Avl.got tb (AvlPure.T.ins (rankOf tb) k v t) k = (v, true) := by
    unfold Avl.got
    rw [AvlPure.T.find_list u1, AvlPure.T.list_ins hu]
    obtain ⟨p, e, ev⟩ := get_put (rk := rankOf tb) (k := k) (v := v) t.list
    rw [e]
    simp [ev]
  have l2 : (AvlPure.T.rem (rankOf tb) (AvlPure.T.ins (rankOf tb) k v t) k).list = AvlPure.T.remL (rankOf tb) k (AvlPure.T.putL (rankOf tb) k v t.list) := by rw [AvlPure.T.list_rem _ u1, AvlPure.T.list_ins hu]
  have u2 : AvlPure.T.Up (rankOf tb) (AvlPure.T.rem (rankOf tb) (AvlPure.T.ins (rankOf tb) k v t) k).list := by rw [AvlPure.T.list_rem _ u1]; exact AvlPure.T.up_remL u1
  have g2 : Avl.got tb (AvlPure.T.rem (rankOf tb) (AvlPure.T.ins (rankOf tb) k v t) k) k = (0, false) := by
    unfold Avl.got
    rw [AvlPure.T.find_list u2, AvlPure.T.list_rem _ u1, get_gone u1]
  have s0 := Avl.keys_length t
  have v0 := Avl.vals_length t
  have s1 : (AvlPure.T.ins (rankOf tb) k v t).size = ((AvlPure.T.putL (rankOf tb) k v t.list).length : Int) := by rw [AvlPure.T.size_list, AvlPure.T.list_ins hu]
  have s2 : (AvlPure.T.rem (rankOf tb) (AvlPure.T.ins (rankOf tb) k v t) k).size = ((AvlPure.T.remL (rankOf tb) k (AvlPure.T.putL (rankOf tb) k v t.list)).length : Int) := by rw [AvlPure.T.size_list, l2]
  have kl : (Avl.keys t).length = t.list.length := by unfold Avl.keys; rw [List.length_map]
  refine ⟨rfl, ⟨congrArg Prod.snd g1, congrArg Prod.fst g1⟩, congrArg Prod.snd g2, ⟨?_, ?_⟩, fun _ hw => ?_, fun hw => ?_⟩
  · show (Avl.keys t).length ≤ _; omega
  · show (Avl.vals t).length ≤ _; omega
  · have hw' : (Avl.got tb t k).2 = true := hw
    rw [g0] at hw'
    cases hg : AvlPure.T.getL (rankOf tb) k t.list with
    | none => rw [hg] at hw'; cases hw'
    | some p =>
      obtain ⟨e1, e2⟩ := put_some' (v := v) hg
      refine ⟨?_, ?_⟩
      · show (AvlPure.T.ins (rankOf tb) k v t).size = ((Avl.keys t).length : Int)
        omega
      · show (AvlPure.T.rem (rankOf tb) (AvlPure.T.ins (rankOf tb) k v t) k).size = ((Avl.keys t).length : Int) - 1
        omega
  · have hw' : (Avl.got tb t k).2 ≠ true := hw
    rw [g0] at hw'
    cases hg : AvlPure.T.getL (rankOf tb) k t.list with
    | some p => rw [hg] at hw'; exact absurd rfl hw'
    | none =>
      obtain ⟨e1, e2⟩ := put_none (v := v) hg
      rw [e2] at l2 s2
      refine ⟨?_, ?_, fun _ => ⟨?_, ?_⟩⟩
      · show Avl.keys (AvlPure.T.rem (rankOf tb) (AvlPure.T.ins (rankOf tb) k v t) k) = Avl.keys t
        unfold Avl.keys; rw [l2]
      · show Avl.vals (AvlPure.T.rem (rankOf tb) (AvlPure.T.ins (rankOf tb) k v t) k) = Avl.vals t
        unfold Avl.vals; rw [l2]
      · show (AvlPure.T.ins (rankOf tb) k v t).size = ((Avl.keys t).length : Int) + 1
        omega
      · show (AvlPure.T.rem (rankOf tb) (AvlPure.T.ins (rankOf tb) k v t) k).size = ((Avl.keys t).length : Int)
        omega
theorem bt_good (tb : List Int) (t : List BtPure.E) (hs : t.length ≤ 2147483647) (k v : Int) : Good 1 v ((Bt.toldT tb t ((nine k v).map trip)).map told_of) := by
  have g1 : BtPure.tell (BtPure.findL (rankOf tb) k (BtPure.insL (rankOf tb) k v true t)) = (v, true) := find_ins t
  have e2 : Bt.stepT tb (BtPure.insL (rankOf tb) k v true t) (1, k, 0) = BtPure.insL (rankOf tb) k 0 false (BtPure.insL (rankOf tb) k v true t) := by
    unfold Bt.stepT
    rw [if_neg (by simp), if_pos rfl]
    dsimp only
    rw [g1]
    rfl
  have g2 : (BtPure.tell (BtPure.findL (rankOf tb) k (Bt.stepT tb (BtPure.insL (rankOf tb) k v true t) (1, k, 0)))).2 = false := by rw [e2, find_ins]
  have hk : (Bt.keysV t).length ≤ t.length := by rw [Bt.keysV, List.length_map]; exact List.length_filter_le ..
  have hv := Bt.valsV_len t
  refine ⟨rfl, ⟨congrArg Prod.snd g1, congrArg Prod.fst g1⟩, g2, ⟨?_, ?_⟩, fun h => absurd h (by decide), fun hw => ⟨?_, ?_, fun h => absurd h (by decide)⟩⟩
  · show (Bt.keysV t).length ≤ _; omega
  · show (Bt.valsV t).length ≤ _; omega
  · have hw' : (BtPure.tell (BtPure.findL (rankOf tb) k t)).2 ≠ true := hw
    show Bt.keysV (Bt.stepT tb (BtPure.insL (rankOf tb) k v true t) (1, k, 0)) = Bt.keysV t
    rw [e2]
    unfold Bt.keysV
    rw [undo_row (by simpa using hw')]
  · have hw' : (BtPure.tell (BtPure.findL (rankOf tb) k t)).2 ≠ true := hw
    show Bt.valsV (Bt.stepT tb (BtPure.insL (rankOf tb) k v true t) (1, k, 0)) = Bt.valsV t
    rw [e2]
    unfold Bt.valsV
    rw [undo_row (by simpa using hw')]
/-! ### The law's own loops -/
theorem j3_ev (tb : List Int) (l1 x9 : List S66) (a3 kind : Int) (y : List S46) (h : Good kind a3 y) (hn : Ev (fun k => laws_FnTreesUndo.l0 k tb l1 a3 x9 (wrap64 (kind + 1))) true) :
    Ev (fun k => laws_FnTreesUndo.j3 k tb l1 a3 x9 kind y ((rd_T46 y 0).f2.length : Int) false) true := by
  have hl := h.len
  by_cases h1 : (rd_T46 y 1).f1 = true
  · refine Ev.step (fun k => ?_) hn
    simp only [laws_FnTreesUndo.j3]
    rw [if_neg (by decide), if_pos (by omega), if_pos h1]
  · obtain ⟨e1, e2, e3⟩ := h.new h1
    have s1 := same_ev (rd_T46 y 0).f2 (by have := h.small; omega)
    have s2 := same_ev (rd_T46 y 0).f3 (by have := h.small; omega)
    refine Ev.step (f := fun k => (spec_Same.f k (rd_T46 y 0).f2 (rd_T46 y 0).f2).bind fun b => if b = true then (spec_Same.f k (rd_T46 y 0).f3 (rd_T46 y 0).f3).bind fun b => if b = true then laws_FnTreesUndo.l0 k tb l1 a3 x9 (wrap64 (kind + 1)) else none else none) (fun k => ?_)
      (Ev.bind s1 (Ev.congr (fun k => if_pos rfl) (Ev.bind s2 (Ev.congr (fun k => if_pos rfl) hn))))
    simp only [laws_FnTreesUndo.j3]
    rw [if_neg (by decide), if_pos (by omega), if_neg h1]
    by_cases h0 : kind = 0
    · obtain ⟨e4, e5⟩ := e3 h0
      have hs := h.small
      rw [if_pos h0, if_pos (by omega), if_pos (by rw [e4, wrap64_in _ (by omega)]), if_pos (by omega), if_pos e5, if_pos (by omega), if_pos (by omega), e1, e2]
    · rw [if_neg h0, if_pos (by omega), if_pos (by omega), e1, e2]
theorem j2_ev (tb : List Int) (l1 x9 : List S66) (a3 kind x11 : Int) (T : List S46) (hf : impl_BtreeRun.f x11 tb x9 = some T) (hT : T.length = x9.length) (hl : l1.length ≤ x9.length) (h : Good kind a3 (T.drop l1.length)) (hn : Ev (fun k => laws_FnTreesUndo.l0 k tb l1 a3 x9 (wrap64 (kind + 1))) true) :
    Ev (fun k => laws_FnTreesUndo.j2 k tb l1 a3 x9 kind x11) true := by
  have hs := h.small
  refine Ev.step (fun k => ?_) (j3_ev tb l1 x9 a3 kind _ h hn)
  simp only [laws_FnTreesUndo.j2]
  rw [hf, Option.bind_some, if_pos (by omega), if_pos (by omega), if_pos (by omega), Option.bind_some, Int.toNat_natCast]
  generalize T.drop l1.length = y at h hs
  have hy := h.len
  rw [if_pos (by omega), if_pos (by omega), if_pos h.got.1, if_pos h.got.2, if_pos (by omega), if_neg (by rw [h.gone]; decide)]
  by_cases h0 : kind = 0
  · rw [if_pos h0, if_pos (by omega)]
    by_cases h1 : (rd_T46 y 1).f1 = true
    · obtain ⟨e1, e2⟩ := h.was h0 h1
      rw [if_pos h1, if_pos (by omega), if_pos e1, if_pos (by omega), e2, wrap64_in _ (by omega)]
      simp
    · rw [if_neg h1]
  · rw [if_neg h0]
theorem FnTreesUndo (tb : List Int) (l1 : List S66) (a2 a3 : Int) : ∃ k, laws_FnTreesUndo.f k tb l1 a2 a3 = some true := by
  refine Ev.rounds (g := fun k => laws_FnTreesUndo.f k tb l1 a2 a3) ?_
  have hyes : Ev (fun k => laws_FnTreesUndo.j0 k tb l1 a2 a3 true) true := Ev.step (f := fun _ => some true) (fun k => by simp only [laws_FnTreesUndo.j0]; rfl) (Ev.now _)
  unfold laws_FnTreesUndo.f
  by_cases h0 : (tb.length : Int) > 2147483647
  · exact Ev.congr (fun k => if_pos h0) hyes
  refine Ev.congr (fun k => if_neg h0) ?_
  by_cases h1 : (l1.length : Int) > 2147483647
  · rw [decide_eq_true h1]; exact hyes
  rw [decide_eq_false h1]
  have ht : tb.length ≤ 2147483647 := by omega
  have hl : l1.length ≤ 2147483647 := by omega
  have l9 : (l1 ++ nine a2 a3).length = l1.length + 9 := by rw [List.length_append]; rfl
  have f1 : impl_BtreeRun.f 33 tb (l1 ++ nine a2 a3) = some ((Bt.toldT tb [] ((l1 ++ nine a2 a3).map trip)).map told_of) := by unfold impl_BtreeRun.f; rw [if_pos ht, if_pos (by omega), if_pos rfl]
  have f2 : impl_BtreeRun.f 23 tb (l1 ++ nine a2 a3) = some ((Avl.toldT tb .nil ((l1 ++ nine a2 a3).map trip)).map told_of) := by unfold impl_BtreeRun.f; rw [if_pos ht, if_pos (by omega), if_neg (by decide)]
  have d1 : ((Bt.toldT tb [] ((l1 ++ nine a2 a3).map trip)).map told_of).drop l1.length = (Bt.toldT tb (Bt.runT tb [] (l1.map trip)) ((nine a2 a3).map trip)).map told_of := by
    rw [List.map_append, bt_app, List.map_append, List.drop_left' (by rw [List.length_map, Bt.toldT_length, List.length_map])]
  have d2 : ((Avl.toldT tb .nil ((l1 ++ nine a2 a3).map trip)).map told_of).drop l1.length = (Avl.toldT tb (Avl.runT tb .nil (l1.map trip)) ((nine a2 a3).map trip)).map told_of := by
    rw [List.map_append, avl_app, List.map_append, List.drop_left' (by rw [List.length_map, Avl.toldT_length, List.length_map])]
  have u := avl_up tb (l1.map trip) .nil List.Pairwise.nil
  have b := bt_len tb (l1.map trip) []
  rw [List.length_map] at u b
  have hend : Ev (fun k => laws_FnTreesUndo.l0 k tb l1 a3 (l1 ++ nine a2 a3) (wrap64 (1 + 1))) true := by
    refine Ev.step (f := fun _ => some true) (fun k => ?_) (Ev.now _)
    simp only [laws_FnTreesUndo.l0]
    rw [show wrap64 (1 + 1) = 2 from wrap64_in _ (by omega), if_neg (by omega)]
  have hone : Ev (fun k => laws_FnTreesUndo.l0 k tb l1 a3 (l1 ++ nine a2 a3) (wrap64 (0 + 1))) true := by
    refine Ev.step (fun k => ?_) (j2_ev tb l1 (l1 ++ nine a2 a3) a3 1 33 _ f1 (by rw [List.length_map, Bt.toldT_length, List.length_map]) (by omega) (by rw [d1]; exact bt_good tb _ (by simp only [List.length_nil] at b; omega) a2 a3) hend)
    simp only [laws_FnTreesUndo.l0]
    rw [show wrap64 (0 + 1) = 1 from wrap64_in _ (by omega), if_pos (by omega), if_pos rfl]
  have hzero : Ev (fun k => laws_FnTreesUndo.l0 k tb l1 a3 (l1 ++ nine a2 a3) 0) true := by
    refine Ev.step (fun k => ?_) (j2_ev tb l1 (l1 ++ nine a2 a3) a3 0 23 _ f2 (by rw [List.length_map, Avl.toldT_length, List.length_map]) (by omega) (by rw [d2]; exact avl_good tb _ u.1 (by have := u.2; simp only [AvlPure.T.size] at this; omega) a2 a3) hone)
    simp only [laws_FnTreesUndo.l0]
    rw [if_pos (by omega), if_neg (by omega)]
  refine Ev.step (fun k => ?_) hzero
  simp only [laws_FnTreesUndo.j0]
  rw [if_neg (by decide), Option.bind_some, if_pos (by simp; omega), Option.bind_some, Option.bind_some, List.nil_append, if_pos (by simp; omega)]
  rfl
end Go.Proofs.Ytjlcebgfknfelaa.TreesUndoPure
