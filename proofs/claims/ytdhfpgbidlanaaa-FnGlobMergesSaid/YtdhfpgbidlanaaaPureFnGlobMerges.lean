/- Two parts of a list that rise, of which the second one is not empty, and which have no text in common, are merged; what stands ahead stays: no condition. -/
import Derived.Test.YtdhfpgbidlanaaaQFnGlobMergesx4
import Derived.IntWalk
namespace Go.Proofs.Ytdhfpgbidlanaaa.Merges
open Go Go.RowKit Go.IntWalk Go.Proofs.Ytdhfpgbidlanaaa.QFnGlobMerges Go.Proofs.YtdhfpgbidlanaaaW.PrintWords Go.Proofs.YtdhfpgbidlanaaaW.PrintLast

theorem bl_irrefl : ∀ l, Op.bytesLess l l = false
  | [] => rfl
  | a :: x => by simp [Op.bytesLess, bl_irrefl x]
theorem bl_trans : ∀ {a b c}, Op.bytesLess a b = true → Op.bytesLess b c = true → Op.bytesLess a c = true
  | _, [], _, h, _ => by simp [Op.bytesLess] at h
  | _, _ :: _, [], _, h => by simp [Op.bytesLess] at h
  | [], _ :: _, _ :: _, _, _ => rfl
  | a :: x, b :: y, c :: z, h, k => by
    simp only [Op.bytesLess, Bool.or_eq_true, Bool.and_eq_true, decide_eq_true_eq, beq_iff_eq] at h k ⊢
    rcases h with h | ⟨rfl, h⟩
    · rcases k with k | ⟨rfl, k⟩
      · exact .inl (UInt8.lt_trans h k)
      · exact .inl h
    · rcases k with k | ⟨rfl, k⟩
      · exact .inl k
      · exact .inr ⟨rfl, bl_trans h k⟩
theorem bl_tri : ∀ {a b}, Op.bytesLess a b = false → Op.bytesLess b a = false → a = b
  | [], [], _, _ => rfl
  | [], _ :: _, h, _ => by simp [Op.bytesLess] at h
  | _ :: _, [], _, h => by simp [Op.bytesLess] at h
  | a :: x, b :: y, h, k => by
    simp only [Op.bytesLess, Bool.or_eq_false_iff, Bool.and_eq_false_iff, decide_eq_false_iff_not] at h k
    have e : a = b := by
      have h1 := h.1; have k1 := k.1
      rw [UInt8.lt_iff_toNat_lt] at h1 k1
      exact UInt8.toNat_inj.1 (by omega)
    subst e
    simp only [beq_self_eq_true, Bool.true_eq_false, false_or] at h k
    rw [bl_tri h.2 k.2]

def lt (a b : ByteArray) : Bool := Op.bytesLess a.toList b.toList
theorem lt_trans {a b c : ByteArray} (h : lt a b = true) (k : lt b c = true) : lt a c = true := bl_trans h k
theorem lt_irrefl (a : ByteArray) : lt a a = false := bl_irrefl _
theorem lt_asymm {a b : ByteArray} (h : lt a b = true) : lt b a = false := by
  cases k : lt b a
  · rfl
  · rw [← lt_irrefl a]; exact (lt_trans h k).symm
theorem lt_ne {a b : ByteArray} (h : lt a b = true) : a.toList ≠ b.toList := fun e => by
  unfold lt at h; rw [e, bl_irrefl] at h; cases h
theorem tri {a b : ByteArray} (h : lt a b = false) (k : a.toList ≠ b.toList) : lt b a = true := by
  cases q : lt b a
  · exact absurd (bl_tri h q) k
  · rfl

def Up (l : List ByteArray) : Prop := l.Pairwise (fun a b => lt a b = true)
def Apart (a b : List ByteArray) : Prop := ∀ x ∈ a, ∀ y ∈ b, x.toList ≠ y.toList

def ins (x : ByteArray) : List ByteArray → List ByteArray
  | [] => [x]
  | y :: r => if lt y x = true then y :: ins x r else x :: y :: r
def mg (a b : List ByteArray) : List ByteArray := a.foldr ins b

theorem len_ins (x : ByteArray) : ∀ l, (ins x l).length = l.length + 1
  | [] => rfl
  | y :: r => by unfold ins; split <;> simp [len_ins x r]
theorem mem_ins {x z : ByteArray} : ∀ {l}, z ∈ ins x l → z = x ∨ z ∈ l
  | [], h => by simp [ins] at h; exact .inl h
  | y :: r, h => by
    unfold ins at h
    split at h
    · rcases List.mem_cons.1 h with h | h
      · exact .inr (by simp [h])
      · rcases mem_ins h with h | h
        · exact .inl h
        · exact .inr (by simp [h])
    · rcases List.mem_cons.1 h with h | h
      · exact .inl h
      · exact .inr h
theorem ins_head {x : ByteArray} : ∀ {l}, (∀ y ∈ l, lt x y = true) → ins x l = x :: l
  | [], _ => rfl
  | y :: r, h => by unfold ins; rw [if_neg (by rw [lt_asymm (h y (by simp))]; decide)]
theorem mem_mg {z : ByteArray} : ∀ {a b}, z ∈ mg a b → z ∈ a ∨ z ∈ b
  | [], _, h => .inr h
  | x :: a, b, h => by
    rcases mem_ins (l := mg a b) h with h | h
    · exact .inl (by simp [h])
    · rcases mem_mg h with h | h
      · exact .inl (by simp [h])
      · exact .inr h
theorem mg_left {x : ByteArray} {a b : List ByteArray} (h : ∀ y ∈ a, lt x y = true) (k : ∀ y ∈ b, lt x y = true) : mg (x :: a) b = x :: mg a b :=
  ins_head (l := mg a b) (fun y hy => (mem_mg hy).elim (h y) (k y))
theorem mg_right {y : ByteArray} {b : List ByteArray} : ∀ {a : List ByteArray}, (∀ x ∈ a, lt y x = true) → mg a (y :: b) = y :: mg a b
  | [], _ => rfl
  | x :: a, h => by
    show ins x (mg a (y :: b)) = y :: ins x (mg a b)
    rw [mg_right (fun z hz => h z (by simp [hz]))]
    show (if lt y x = true then _ else _) = _
    rw [if_pos (h x (by simp))]
theorem ins_comm {x z : ByteArray} (h : lt x z = true) : ∀ l, ins z (ins x l) = ins x (ins z l)
  | [] => by simp only [ins]; rw [if_pos h, if_neg (by rw [lt_asymm h]; decide)]
  | w :: l => by
    by_cases c : lt w x = true
    · have c2 := lt_trans c h
      simp only [ins]; rw [if_pos c, if_pos c2]; simp only [ins]; rw [if_pos c, if_pos c2, ins_comm h l]
    · simp only [ins]; rw [if_neg c]
      by_cases d : lt w z = true
      · rw [if_pos d]; simp only [ins]; rw [if_neg c, if_pos h, if_pos d]
      · rw [if_neg d]; simp only [ins]; rw [if_pos h, if_neg d, if_neg (by rw [lt_asymm h]; decide)]
theorem mg_ins {x : ByteArray} {b : List ByteArray} : ∀ {a : List ByteArray}, (∀ z ∈ a, lt x z = true) → mg a (ins x b) = ins x (mg a b)
  | [], _ => rfl
  | z :: a, h => by
    show ins z (mg a (ins x b)) = ins x (ins z (mg a b))
    rw [mg_ins (fun y hy => h y (by simp [hy])), ins_comm (h z (by simp))]
theorem up_ins {x : ByteArray} : ∀ {l : List ByteArray}, Up l → (∀ y ∈ l, x.toList ≠ y.toList) → Up (ins x l)
  | [], _, _ => by simp [ins, Up]
  | y :: r, hu, hn => by
    obtain ⟨h1, h2⟩ := List.pairwise_cons.1 hu
    unfold ins
    split
    · rename_i c
      refine List.pairwise_cons.2 ⟨fun z hz => ?_, up_ins h2 (fun w hw => hn w (by simp [hw]))⟩
      rcases mem_ins hz with rfl | hz
      · exact c
      · exact h1 z hz
    · rename_i c
      have q : lt x y = true := tri (by simpa using c) (fun e => hn y (by simp) e.symm)
      refine List.pairwise_cons.2 ⟨fun z hz => ?_, hu⟩
      rcases List.mem_cons.1 hz with rfl | hz
      · exact q
      · exact lt_trans q (h1 z hz)
theorem len_mg : ∀ a b : List ByteArray, (mg a b).length = a.length + b.length
  | [], b => by simp [mg]
  | x :: a, b => by show (ins x (mg a b)).length = _; rw [len_ins, len_mg a b]; simp <;> omega

theorem at_mid {A M : List ByteArray} {x : ByteArray} {i : Int} (h : i = A.length) : rdOf ByteArray.empty (A ++ x :: M) i = x := by
  subst h; simp [rdOf, List.getD_eq_getElem?_getD]
theorem set_mid {A M : List ByteArray} {x y : ByteArray} {i : Int} (h : i = A.length) : (A ++ x :: M).set i.toNat y = A ++ y :: M := by
  subst h; simp

theorem both_ev : ∀ (n : Nat) (a b out : List ByteArray), a.length + b.length = n → Up a → Up b → out.length + n ≤ 8589934592 →
    ∃ r, Ev (fun k => spec_GlobBoth.l0 k a b out) (out ++ r) ∧ r.length ≤ n ∧ (r.length = n → r = mg a b ∧ Apart a b) := by
  intro n
  induction n using Nat.strongRecOn with
  | ind n ih =>
    intro a b out hn ha hb ho
    have hj2 : ∀ (t : Bool) (r : List ByteArray), Ev (fun k => spec_GlobBoth.j2 k a b out t) r → ((b.length : Int) = 0 ∧ t = true ∨ ¬ (b.length : Int) = 0 ∧ (a.length : Int) > 0 ∧ t = Op.bytesLess ((rdOf ByteArray.empty a 0).toList) ((rdOf ByteArray.empty b 0).toList) ∨ ¬ (b.length : Int) = 0 ∧ ¬ (a.length : Int) > 0 ∧ t = false) → 0 < n →
        Ev (fun k => spec_GlobBoth.l0 k a b out) r := by
      intro t r hr ht hp
      refine Ev.step (f := fun k => spec_GlobBoth.j1 k a b out true) (fun k => ?_) (Ev.step (fun k => ?_) hr)
      · simp only [spec_GlobBoth.l0]
        by_cases h : (a.length : Int) > 0
        · rw [if_pos h]
        · rw [if_neg h]; rw [show decide ((b.length : Int) > 0) = true from decide_eq_true (by omega)]
      · simp only [spec_GlobBoth.j1]
        rw [if_pos trivial]
        rcases ht with ⟨h1, rfl⟩ | ⟨h1, h2, rfl⟩ | ⟨h1, h2, rfl⟩
        · rw [if_pos h1]
        · rw [if_neg h1, if_pos h2, if_pos h2, if_pos (by omega)]
        · rw [if_neg h1, if_neg h2]
    cases a with
    | nil =>
      cases b with
      | nil =>
        refine ⟨[], Ev.step (f := fun k => spec_GlobBoth.j1 k [] [] out false) (fun k => ?_) (Ev.step (f := fun _ => some (out ++ [])) (fun k => ?_) (Ev.now _)), by simp, fun _ => ⟨rfl, fun x hx => by simp at hx⟩⟩
        · simp only [spec_GlobBoth.l0]; rw [if_neg (by simp)]; simp
        · simp only [spec_GlobBoth.j1]; rw [if_neg (by simp)]; simp
      | cons y b =>
        simp only [List.length_nil, List.length_cons] at hn
        obtain ⟨r, hr, hl, hq⟩ := ih (n - 1) (by omega) [] b (out ++ [y]) (by simp <;> omega) (by simp [Up]) (List.pairwise_cons.1 hb).2 (by simp <;> omega)
        refine ⟨y :: r, hj2 false _ (Ev.step (fun k => ?_) (by simpa using hr)) (.inr (.inr ⟨by simp <;> omega, by simp, rfl⟩)) (by omega), by simp <;> omega, fun h => ?_⟩
        · simp only [spec_GlobBoth.j2]
          rw [if_neg (by simp), if_pos (by simp), if_pos (by simp <;> omega), if_pos (by omega), if_pos (by simp <;> omega)]
          simp [rdOf]
        · simp only [List.length_cons] at h
          obtain ⟨q1, q2⟩ := hq (by omega)
          exact ⟨by rw [q1]; rfl, fun x hx => by simp at hx⟩
    | cons x a =>
      cases b with
      | nil =>
        simp only [List.length_nil, List.length_cons] at hn
        obtain ⟨r, hr, hl, hq⟩ := ih (n - 1) (by omega) a [] (out ++ [x]) (by simp <;> omega) (List.pairwise_cons.1 ha).2 (by simp [Up]) (by simp <;> omega)
        refine ⟨x :: r, hj2 true _ (Ev.step (fun k => ?_) (by simpa using hr)) (.inl ⟨by simp, rfl⟩) (by omega), by simp <;> omega, fun h => ?_⟩
        · simp only [spec_GlobBoth.j2]
          rw [if_pos trivial, if_pos (by simp <;> omega), if_pos (by omega), if_pos (by simp <;> omega)]
          simp [rdOf]
        · simp only [List.length_cons] at h
          obtain ⟨q1, q2⟩ := hq (by omega)
          exact ⟨by rw [q1, mg_left (List.pairwise_cons.1 ha).1 (by simp)], fun x hx y hy => by simp at hy⟩
      | cons y b =>
        simp only [List.length_cons] at hn
        obtain ⟨ha1, ha2⟩ := List.pairwise_cons.1 ha
        obtain ⟨hb1, hb2⟩ := List.pairwise_cons.1 hb
        have e0 : rdOf ByteArray.empty (x :: a) 0 = x := by simp [rdOf]
        have e1 : rdOf ByteArray.empty (y :: b) 0 = y := by simp [rdOf]
        have hj := fun t r (h : Ev (fun k => spec_GlobBoth.j2 k (x :: a) (y :: b) out t) r) (ht : t = lt x y) => hj2 t r h (.inr (.inl ⟨by simp <;> omega, by simp <;> omega, by rw [e0, e1]; exact ht⟩)) (by omega)
        by_cases c : lt x y = true
        · obtain ⟨r, hr, hl, hq⟩ := ih (n - 1) (by omega) a (y :: b) (out ++ [x]) (by simp <;> omega) ha2 hb (by simp <;> omega)
          refine ⟨x :: r, hj true _ (Ev.step (fun k => ?_) (by simpa using hr)) c.symm, by simp <;> omega, fun h => ?_⟩
          · simp only [spec_GlobBoth.j2]
            rw [if_pos trivial, if_pos (by simp <;> omega), if_pos (by omega), if_pos (by simp <;> omega), e0]
            simp
          · simp only [List.length_cons] at h
            obtain ⟨q1, q2⟩ := hq (by omega)
            have hx : ∀ z ∈ y :: b, lt x z = true := fun z hz => by
              rcases List.mem_cons.1 hz with rfl | hz
              · exact c
              · exact lt_trans c (hb1 z hz)
            refine ⟨by rw [q1, mg_left ha1 hx], fun u hu z hz => ?_⟩
            rcases List.mem_cons.1 hu with rfl | hu
            · exact lt_ne (hx z hz)
            · exact q2 u hu z hz
        · by_cases d : lt y x = true
          · obtain ⟨r, hr, hl, hq⟩ := ih (n - 1) (by omega) (x :: a) b (out ++ [y]) (by simp <;> omega) ha hb2 (by simp <;> omega)
            refine ⟨y :: r, hj false _ (Ev.step (fun k => ?_) (by simpa using hr)) (by simpa using c), by simp <;> omega, fun h => ?_⟩
            · simp only [spec_GlobBoth.j2]
              have d' : Op.bytesLess ((rdOf ByteArray.empty (y :: b) 0).toList) ((rdOf ByteArray.empty (x :: a) 0).toList) = true := by rw [e0, e1]; exact d
              rw [if_neg (by simp), if_neg (by simp <;> omega), if_pos (by simp <;> omega), if_pos (by simp <;> omega), if_pos d', if_pos (by omega), if_pos (by simp <;> omega), e1]
              simp
            · simp only [List.length_cons] at h
              obtain ⟨q1, q2⟩ := hq (by omega)
              have hy : ∀ z ∈ x :: a, lt y z = true := fun z hz => by
                rcases List.mem_cons.1 hz with rfl | hz
                · exact d
                · exact lt_trans d (ha1 z hz)
              refine ⟨by rw [q1, mg_right hy], fun u hu z hz => ?_⟩
              rcases List.mem_cons.1 hz with rfl | hz
              · exact fun e => lt_ne (hy u hu) e.symm
              · exact q2 u hu z hz
          · obtain ⟨r, hr, hl, hq⟩ := ih (n - 2) (by omega) a b (out ++ [x]) (by omega) ha2 hb2 (by simp <;> omega)
            refine ⟨x :: r, hj false _ (Ev.step (fun k => ?_) (by simpa using hr)) (by simpa using c), by simp <;> omega, fun h => ?_⟩
            · simp only [spec_GlobBoth.j2]
              have d' : ¬ Op.bytesLess ((rdOf ByteArray.empty (y :: b) 0).toList) ((rdOf ByteArray.empty (x :: a) 0).toList) = true := by rw [e0, e1]; exact d
              rw [if_neg (by simp), if_neg (by simp <;> omega), if_pos (by simp <;> omega), if_pos (by simp <;> omega), if_neg d', if_pos (by omega), if_pos (by simp <;> omega), if_pos (by simp <;> omega), e0]
              simp
            · simp only [List.length_cons] at h
              omega

/-- The loop that puts a text to its place behind the hole. -/
theorem put_ev {x2 x1 : Int} {a : ByteArray} {R : List ByteArray} : ∀ (M H : List ByteArray) (h : ByteArray) (x3 : Int), x3 = (H ++ h :: M).length → (H ++ h :: M).length ≤ 8589934592 →
    Ev (fun k => doublestar_sortAndRemoveDups.l0 k (H ++ ins a M) (wrap64 (x1 + 1)) x2 x3) R → Ev (fun k => doublestar_sortAndRemoveDups.l1 k (H ++ h :: M) x1 x2 x3 a ((H.length : Int) + 1)) R
  | M, H, h, x3, h3, hl, hr => by
    have w0 : wrap64 ((H.length : Int) + 1 - 1) = H.length := by rw [wrap64_in _ (by simp at hl; omega)]; omega
    simp only [List.length_append, List.length_cons] at h3 hl
    have hfin : Ev (fun k => doublestar_sortAndRemoveDups.l0 k ((H ++ h :: M).set ((wrap64 ((H.length : Int) + 1 - 1)) : Int).toNat a) (wrap64 (x1 + 1)) x2 x3) R → ((M = [] ∨ ∃ m M', M = m :: M' ∧ lt m a = false) → Ev (fun k => doublestar_sortAndRemoveDups.l1 k (H ++ h :: M) x1 x2 x3 a ((H.length : Int) + 1)) R) := by
      intro hr hm
      refine Ev.step (fun k => ?_) hr
      simp only [doublestar_sortAndRemoveDups.l1]
      rcases hm with rfl | ⟨m, M', rfl, hm⟩
      · rw [if_neg (by simp at h3; omega), if_pos (by rw [w0]; omega), if_pos (by rw [w0]; simp <;> omega)]
      · have e : rdOf ByteArray.empty (H ++ h :: m :: M') ((H.length : Int) + 1) = m := by
          have := at_mid (A := H ++ [h]) (M := M') (x := m) (i := (H.length : Int) + 1) (by simp)
          simpa using this
        rw [if_pos (by simp at h3; omega), if_pos (by omega), if_pos (by simp <;> omega), e, if_neg (by show ¬ lt m a = true; rw [hm]; decide), if_pos (by rw [w0]; omega), if_pos (by rw [w0]; simp <;> omega)]
    have hset : ∀ y, (H ++ h :: M).set ((wrap64 ((H.length : Int) + 1 - 1)) : Int).toNat y = H ++ y :: M := fun y => by rw [w0]; exact set_mid rfl
    cases M with
    | nil => exact hfin (by rw [hset]; exact hr) (.inl rfl)
    | cons m M =>
      by_cases c : lt m a = true
      · have hi : ins a (m :: M) = m :: ins a M := by unfold ins; rw [if_pos c]; cases M <;> rfl
        rw [hi] at hr
        have := put_ev (x2 := x2) (x1 := x1) (a := a) (R := R) M (H ++ [m]) m x3 (by simp at h3 ⊢; omega) (by simp at hl ⊢; omega) (by simpa using hr)
        refine Ev.step (fun k => ?_) this
        have e : rdOf ByteArray.empty (H ++ h :: m :: M) ((H.length : Int) + 1) = m := by
          have := at_mid (A := H ++ [h]) (M := M) (x := m) (i := (H.length : Int) + 1) (by simp)
          simpa using this
        simp only [doublestar_sortAndRemoveDups.l1]
        rw [if_pos (by simp at h3; omega), if_pos (by omega), if_pos (by simp <;> omega), e, if_pos (by exact c), if_pos (by rw [w0]; omega), if_pos (by rw [w0]; simp <;> omega), hset, wrap64_in ((H.length : Int) + 1 + 1) (by simp at hl; omega)]
        simp
      · have hi : ins a (m :: M) = a :: m :: M := by unfold ins; rw [if_neg c]
        rw [hi] at hr
        exact hfin (by rw [hset]; exact hr) (.inr ⟨m, M, rfl, by simpa using c⟩)

theorem sort_ev : ∀ (A pre B : List ByteArray), Up A → Up B → Apart A B → B ≠ [] → pre.length + A.length + B.length ≤ 8589934592 →
    Ev (fun k => doublestar_sortAndRemoveDups.l0 k (pre ++ A ++ B) (pre.length : Int) ((pre.length : Int) + A.length) ((pre.length : Int) + A.length + B.length)) (pre ++ mg A B)
  | [], pre, B, _, _, _, _, hl => by
    refine Ev.step (f := fun _ => some (pre ++ mg [] B)) (fun k => ?_) (Ev.now _)
    simp only [doublestar_sortAndRemoveDups.l0]
    rw [if_neg (by simp), if_pos (by simp <;> omega), if_pos (by simp)]
    have e : (((pre.length : Int) + ([] : List ByteArray).length + B.length : Int)).toNat = (pre ++ [] ++ B).length := by simp <;> omega
    rw [e, List.take_length]; simp [mg]
  | x :: A, pre, [], _, _, _, hB, _ => absurd rfl hB
  | x :: A, pre, y :: B, hA, hB, hap, _, hl => by
    obtain ⟨ha1, ha2⟩ := List.pairwise_cons.1 hA
    obtain ⟨hb1, hb2⟩ := List.pairwise_cons.1 hB
    simp only [List.length_cons] at hl
    have ex : rdOf ByteArray.empty (pre ++ (x :: A) ++ (y :: B)) (pre.length : Int) = x := by
      have := at_mid (A := pre) (M := A ++ y :: B) (x := x) (i := (pre.length : Int)) rfl
      simpa using this
    have ey : rdOf ByteArray.empty (pre ++ (x :: A) ++ (y :: B)) ((pre.length : Int) + (x :: A).length) = y :=
      at_mid (A := pre ++ x :: A) (M := B) (x := y) (by simp)
    have hw : wrap64 ((pre.length : Int) + 1) = pre.length + 1 := wrap64_in _ (by omega)
    by_cases c : lt x y = true
    · have hx : ∀ z ∈ y :: B, lt x z = true := fun z hz => by
        rcases List.mem_cons.1 hz with rfl | hz
        · exact c
        · exact lt_trans c (hb1 z hz)
      have := sort_ev A (pre ++ [x]) (y :: B) ha2 hB (fun u hu z hz => hap u (by simp [hu]) z hz) (by simp) (by simp <;> omega)
      rw [mg_left ha1 hx]
      have e1 : ((pre ++ [x]).length : Int) = (pre.length : Int) + 1 := by simp
      have e2 : (pre.length : Int) + 1 + (A.length : Int) = (pre.length : Int) + ((x :: A).length : Int) := by simp <;> omega
      rw [e1, e2, show pre ++ [x] ++ A ++ y :: B = pre ++ (x :: A) ++ (y :: B) by simp, show pre ++ [x] ++ mg A (y :: B) = pre ++ x :: mg A (y :: B) by simp] at this
      refine Ev.step (fun k => ?_) this
      simp only [doublestar_sortAndRemoveDups.l0]
      rw [if_pos (by simp <;> omega), if_pos (by omega), if_pos (by simp <;> omega), if_pos (by omega), if_pos (by simp <;> omega), ex, ey, if_pos (by exact c), hw]
    · have d : lt y x = true := tri (by simpa using c) (hap x (by simp) y (by simp))
      have hy : ∀ z ∈ x :: A, lt y z = true := fun z hz => by
        rcases List.mem_cons.1 hz with rfl | hz
        · exact d
        · exact lt_trans d (ha1 z hz)
      have hne : ∀ z ∈ B, x.toList ≠ z.toList := fun z hz => hap x (by simp) z (by simp [hz])
      have := sort_ev A (pre ++ [y]) (ins x B) ha2 (up_ins hb2 hne) (fun u hu z hz => by
        rcases mem_ins hz with rfl | hz
        · exact fun e => lt_ne (ha1 u hu) e.symm
        · exact hap u (by simp [hu]) z (by simp [hz])) (fun e => by have := len_ins x B; rw [e] at this; simp at this) (by rw [len_ins]; simp <;> omega)
      rw [mg_right hy]
      have em : mg (x :: A) B = mg A (ins x B) := (mg_ins ha1).symm
      rw [em]
      have hset : (pre ++ (x :: A) ++ (y :: B)).set ((pre.length : Int)).toNat y = (pre ++ y :: A) ++ y :: B := by
        have := set_mid (A := pre) (M := A ++ y :: B) (x := x) (y := y) (i := (pre.length : Int)) rfl
        simp
      have hput := put_ev (x2 := (pre.length : Int) + (x :: A).length) (x1 := (pre.length : Int)) (a := x) (R := pre ++ y :: mg A (ins x B)) B (pre ++ y :: A) y ((pre.length : Int) + (x :: A).length + (y :: B).length) (by simp <;> omega) (by simp <;> omega) (by
        rw [hw]
        rw [len_ins] at this
        simp only [List.append_assoc, List.cons_append, List.nil_append, List.length_cons, List.length_append, List.length_nil] at this ⊢
        have e1 : ((pre.length + (0 + 1) : Nat) : Int) = (pre.length : Int) + 1 := by omega
        have e2 : ((pre.length + (0 + 1) : Nat) : Int) + (A.length : Int) = (pre.length : Int) + ((A.length + 1 : Nat) : Int) := by omega
        rw [e2, e1] at this
        exact this)
      refine Ev.step (fun k => ?_) hput
      simp only [doublestar_sortAndRemoveDups.l0]
      rw [if_pos (by simp <;> omega), if_pos (by omega), if_pos (by simp <;> omega), if_pos (by omega), if_pos (by simp <;> omega), ex, ey, if_neg (by exact c), if_pos (by exact d), hset]
      have e3 : wrap64 ((pre.length : Int) + ((x :: A).length : Int) + 1) = ((pre ++ y :: A).length : Int) + 1 := by rw [wrap64_in _ (by simp <;> omega)]; simp
      rw [e3]

theorem dups_ev (pre A B : List ByteArray) (hA : Up A) (hB : Up B) (hap : Apart A B) (hne : B ≠ []) (hl : pre.length + A.length + B.length ≤ 8589934592) (i j : Int) (hi : i = pre.length) (hj : j = (pre.length : Int) + A.length) :
    Ev (fun k => impl_GlobMergeDups.f k (pre ++ A ++ B) i j) (pre ++ mg A B) := by
  subst hi hj
  have h := sort_ev A pre B hA hB hap hne hl
  unfold impl_GlobMergeDups.f doublestar_ZzSortAndRemoveDups.f doublestar_sortAndRemoveDups.f
  simp only [Option.bind_some, List.nil_append, List.length_nil, Nat.zero_add]
  have hlen : (((pre ++ A ++ B).length : Nat) : Int) = (pre.length : Int) + A.length + B.length := by simp <;> omega
  refine Ev.congr (f := fun k => (doublestar_sortAndRemoveDups.l0 k (pre ++ A ++ B) (pre.length : Int) ((pre.length : Int) + A.length) ((pre.length : Int) + A.length + B.length)).bind fun t181 => (if t181.length < 8796093022208 then (some t181) else none)) (fun k => ?_) (Ev.bind h ⟨0, fun _ _ => ?_⟩)
  · rw [if_pos (by simp <;> omega), hlen]
    cases doublestar_sortAndRemoveDups.l0 k (pre ++ A ++ B) (pre.length : Int) ((pre.length : Int) + A.length) ((pre.length : Int) + A.length + B.length) <;> rfl
  · rw [if_pos (by rw [List.length_append, len_mg]; omega)]

theorem fits_ev (l : List ByteArray) : ∃ b, Ev (fun k => laws_zzFits1.f k l) b ∧ (b = true → l.length ≤ 2147483647) := by
  by_cases h : (l.length : Int) > 2147483647
  · exact ⟨false, ⟨0, fun k _ => by show laws_zzFits1.f k l = _; unfold laws_zzFits1.f; rw [if_pos h]⟩, fun e => by cases e⟩
  · have key : ∀ (d : Nat) (i : Int), 0 ≤ i → ((l.length : Int) - i).toNat ≤ d → ∃ b, Ev (fun k => laws_zzFits1.l0 k l (l.length : Int) i) b := by
      intro d
      induction d with
      | zero =>
        intro i h0 hd
        exact ⟨true, Ev.step (f := fun _ => some true) (fun k => by simp only [laws_zzFits1.l0]; rw [if_neg (by omega)]) (Ev.now _)⟩
      | succ d ih =>
        intro i h0 hd
        by_cases hi : i < (l.length : Int)
        · by_cases hs : ((rdOf ByteArray.empty l i).size : Int) > 2147483647
          · exact ⟨false, Ev.step (f := fun _ => some false) (fun k => by simp only [laws_zzFits1.l0]; rw [if_pos hi, if_pos h0, if_pos hi, if_pos hs]) (Ev.now _)⟩
          · obtain ⟨b, hb⟩ := ih (i + 1) (by omega) (by omega)
            exact ⟨b, Ev.step (fun k => by simp only [laws_zzFits1.l0]; rw [if_pos hi, if_pos h0, if_pos hi, if_neg hs, wrap64_in _ (by omega)]) hb⟩
        · exact ⟨true, Ev.step (f := fun _ => some true) (fun k => by simp only [laws_zzFits1.l0]; rw [if_neg hi]) (Ev.now _)⟩
    obtain ⟨b, hb⟩ := key l.length 0 (by omega) (by omega)
    refine ⟨b, ?_, fun _ => by omega⟩
    unfold laws_zzFits1.f
    refine Ev.congr (fun k => ?_) hb
    rw [if_neg h]

theorem rises_loop : ∀ (M H : List ByteArray) (u : ByteArray), (H ++ u :: M).length ≤ 2147483647 → ∃ b, Ev (fun k => spec_GlobRises.l0 k (H ++ u :: M) ((H.length : Int) + 1)) b ∧ (b = true → Up (u :: M))
  | [], H, u, _ => ⟨true, Ev.step (f := fun _ => some true) (fun k => by simp only [spec_GlobRises.l0]; rw [if_neg (by simp)]) (Ev.now _), fun _ => by simp [Up]⟩
  | v :: M, H, u, hl => by
    have hl' := hl
    simp only [List.length_append, List.length_cons] at hl'
    have w0 : wrap64 ((H.length : Int) + 1 - 1) = H.length := by rw [wrap64_in _ (by omega)]; omega
    have eu : rdOf ByteArray.empty (H ++ u :: v :: M) (H.length : Int) = u := at_mid rfl
    have ev : rdOf ByteArray.empty (H ++ u :: v :: M) ((H.length : Int) + 1) = v := by
      have := at_mid (A := H ++ [u]) (M := M) (x := v) (i := (H.length : Int) + 1) (by simp)
      simpa using this
    by_cases c : lt u v = true
    · obtain ⟨b, hb, hq⟩ := rises_loop M (H ++ [u]) v (by simp <;> omega)
      refine ⟨b, Ev.step (fun k => ?_) (by simpa using hb), fun h => ?_⟩
      · simp only [spec_GlobRises.l0]
        rw [if_pos (by simp <;> omega), if_pos (by rw [w0]; omega), if_pos (by rw [w0]; simp <;> omega), if_pos (by omega), w0, eu, ev, if_pos (by exact c), wrap64_in _ (by omega)]
      · have hu := hq h
        refine List.pairwise_cons.2 ⟨fun z hz => ?_, hu⟩
        rcases List.mem_cons.1 hz with rfl | hz
        · exact c
        · exact lt_trans c ((List.pairwise_cons.1 hu).1 z hz)
    · refine ⟨false, Ev.step (f := fun _ => some false) (fun k => ?_) (Ev.now _), fun h => by cases h⟩
      simp only [spec_GlobRises.l0]
      rw [if_pos (by simp <;> omega), if_pos (by rw [w0]; omega), if_pos (by rw [w0]; simp <;> omega), if_pos (by omega), w0, eu, ev, if_neg (by exact c)]

theorem rises_ev (l : List ByteArray) (hl : l.length ≤ 2147483647) : ∃ b, Ev (fun k => spec_GlobRises.f k l) b ∧ (b = true → Up l) := by
  unfold spec_GlobRises.f
  cases l with
  | nil => exact ⟨true, Ev.step (f := fun _ => some true) (fun k => by simp only [spec_GlobRises.l0]; rw [if_neg (by simp)]) (Ev.now _), fun _ => by simp [Up]⟩
  | cons u M =>
    obtain ⟨b, hb, hq⟩ := rises_loop M [] u hl
    exact ⟨b, by simpa using hb, hq⟩

theorem same_loop (l l' : List ByteArray) (hl : l.length ≤ 17179869184) (hll : l'.length = l.length) (he : ∀ i : Int, (rdOf ByteArray.empty l i).toList = (rdOf ByteArray.empty l' i).toList) :
    ∀ (d : Nat) (i : Int), 0 ≤ i → ((l.length : Int) - i).toNat ≤ d → Ev (fun k => spec_GlobSame.l0 k l l' (l.length : Int) i) true := by
  intro d
  induction d with
  | zero => intro i h0 hd; exact Ev.step (f := fun _ => some true) (fun k => by simp only [spec_GlobSame.l0]; rw [if_neg (by omega)]) (Ev.now _)
  | succ d ih =>
    intro i h0 hd
    by_cases hi : i < (l.length : Int)
    · refine Ev.step (fun k => ?_) (ih (i + 1) (by omega) (by omega))
      simp only [spec_GlobSame.l0]
      rw [if_pos hi, if_pos h0, if_pos hi, if_pos (by omega), if_pos (he i), wrap64_in _ (by omega)]
    · exact Ev.step (f := fun _ => some true) (fun k => by simp only [spec_GlobSame.l0]; rw [if_neg hi]) (Ev.now _)
theorem same_ev (l l' : List ByteArray) (hl : l.length ≤ 17179869184) (hll : l'.length = l.length) (he : ∀ i : Int, (rdOf ByteArray.empty l i).toList = (rdOf ByteArray.empty l' i).toList) : Ev (fun k => spec_GlobSame.f k l l') true := by
  unfold spec_GlobSame.f
  refine Ev.congr (fun k => ?_) (same_loop l l' hl hll he l.length 0 (by omega) (by omega))
  rw [if_pos (by omega)]

theorem end_ev (l0 l1 l2 : List ByteArray) (h0 : l0.length ≤ 2147483647) (h1 : l1.length ≤ 2147483647) (h2 : l2.length ≤ 2147483647) (u1 : Up l1) (u2 : Up l2) (hne : l2 ≠ []) (hap : Apart l1 l2)
    (hb : Ev (fun k => spec_GlobBoth.f k l1 l2) (mg l1 l2)) : Ev (fun k => laws_FnGlobMerges.j1 k l0 l1 l2 false) true := by
  refine Ev.step (fun k => by simp only [laws_FnGlobMerges.j1]; rw [if_neg (by decide)]) ?_
  simp only [Option.bind_some, List.nil_append, List.length_nil, Nat.zero_add]
  have hm : (mg l1 l2).length = l1.length + l2.length := len_mg _ _
  simp only [show l0.length < 8796093022208 by omega, show l0.length + l1.length < 8796093022208 by omega, show (l0 ++ l1).length + l2.length < 8796093022208 by simp <;> omega, if_true]
  rw [wrap64_in _ (by omega)]
  have hd := dups_ev l0 l1 l2 u1 u2 hap hne (by omega) (l0.length : Int) ((l0.length : Int) + l1.length) rfl rfl
  refine Ev.bind hd ?_
  refine Ev.congr (f := fun k => (spec_GlobBoth.f k l1 l2).bind fun t218 => (if l0.length + t218.length < 8796093022208 then ((spec_GlobSame.f k (l0 ++ mg l1 l2) (l0 ++ t218)).bind fun t224 => (if t224 = true then ((impl_GlobMergeDups.f k (([(⟨#[98]⟩ : ByteArray), (⟨#[97]⟩ : ByteArray)] : List ByteArray)) 0 1).bind fun t228 => ((spec_GlobSame.f k t228 (([(⟨#[97]⟩ : ByteArray), (⟨#[98]⟩ : ByteArray)] : List ByteArray))).bind fun t234 => (some t234))) else (some false))) else (none))) (fun k => rfl) ?_
  refine Ev.bind hb ?_
  refine Ev.congr (fun k => if_pos (by omega)) ?_
  refine Ev.bind (same_ev _ _ (by simp <;> omega) rfl (fun _ => rfl)) ?_
  refine Ev.congr (fun k => if_pos rfl) ?_
  have hz : mg [(⟨#[98]⟩ : ByteArray)] [(⟨#[97]⟩ : ByteArray)] = [(⟨#[97]⟩ : ByteArray), (⟨#[98]⟩ : ByteArray)] := by
    show ins _ [_] = _
    unfold ins
    rw [if_pos (by show Op.bytesLess _ _ = true; simp [ByteArray.toList, ByteArray.toList.loop, Op.bytesLess, ByteArray.get!, ByteArray.size]; try decide)]
    rfl
  have hq := dups_ev [] [(⟨#[98]⟩ : ByteArray)] [(⟨#[97]⟩ : ByteArray)] (by simp [Up]) (by simp [Up]) (fun x hx y hy => by
    simp only [List.mem_singleton] at hx hy; subst hx hy
    simp [ByteArray.toList, ByteArray.toList.loop, ByteArray.get!, ByteArray.size]) (by simp) (by simp) 0 1 (by simp) (by simp)
  rw [hz] at hq
  refine Ev.bind hq ?_
  refine Ev.bind (same_ev _ _ (by simp) rfl (fun _ => rfl)) (Ev.now _)

/-- The law, in plain numbers and lists. -/
theorem merges (l0 l1 l2 : List ByteArray) : ∃ k, laws_FnGlobMerges.f k l0 l1 l2 = some true := by
  have hyes : Ev (fun k => laws_FnGlobMerges.j0 k l0 l1 l2 true) true := Ev.step (f := fun _ => some true) (fun k => by simp only [laws_FnGlobMerges.j0]; rw [if_pos trivial]) (Ev.now _)
  have hyes1 : Ev (fun k => laws_FnGlobMerges.j1 k l0 l1 l2 true) true := Ev.step (f := fun _ => some true) (fun k => by simp only [laws_FnGlobMerges.j1]; rw [if_pos trivial]) (Ev.now _)
  refine Ev.rounds (g := fun k => laws_FnGlobMerges.f k l0 l1 l2) ?_
  unfold laws_FnGlobMerges.f
  obtain ⟨b0, f0, q0⟩ := fits_ev l0
  obtain ⟨b1, f1, q1⟩ := fits_ev l1
  obtain ⟨b2, f2, q2⟩ := fits_ev l2
  refine Ev.bind f0 ?_
  cases b0 with
  | false => exact hyes
  | true =>
    refine Ev.congr (fun k => if_pos rfl) (Ev.bind f1 ?_)
    cases b1 with
    | false => exact hyes
    | true =>
      refine Ev.congr (fun k => if_pos rfl) (Ev.bind f2 ?_)
      cases b2 with
      | false => exact hyes
      | true =>
        have s0 := q0 rfl
        have s1 := q1 rfl
        have s2 := q2 rfl
        obtain ⟨c1, r1, u1⟩ := rises_ev l1 s1
        obtain ⟨c2, r2, u2⟩ := rises_ev l2 s2
        show Ev (fun k => laws_FnGlobMerges.j0 k l0 l1 l2 false) true
        refine Ev.step (fun k => by simp only [laws_FnGlobMerges.j0]; rw [if_neg (by decide)]) (Ev.bind r1 ?_)
        cases c1 with
        | false => exact hyes1
        | true =>
          refine Ev.congr (fun k => if_pos rfl) (Ev.bind r2 ?_)
          cases c2 with
          | false => exact hyes1
          | true =>
            refine Ev.congr (fun k => if_pos rfl) ?_
            by_cases hn : (l2.length : Int) = 0
            · exact Ev.congr (fun k => if_pos hn) hyes1
            · refine Ev.congr (fun k => if_neg hn) ?_
              obtain ⟨r, hr, hrl, hrq⟩ := both_ev (l1.length + l2.length) l1 l2 [] rfl (u1 rfl) (u2 rfl) (by simp <;> omega)
              rw [List.nil_append] at hr
              refine Ev.bind (g := fun k => spec_GlobBoth.f k l1 l2) hr ?_
              rw [wrap64_in _ (by omega)]
              by_cases hlt : (r.length : Int) < (l1.length : Int) + (l2.length : Int)
              · rw [decide_eq_true hlt]; exact hyes1
              · rw [decide_eq_false hlt]
                obtain ⟨e, hap⟩ := hrq (by omega)
                exact end_ev l0 l1 l2 s0 s1 s2 (u1 rfl) (u2 rfl) (fun h => by rw [h] at hn; simp at hn) hap (by rw [← e]; exact hr)
end Go.Proofs.Ytdhfpgbidlanaaa.Merges
