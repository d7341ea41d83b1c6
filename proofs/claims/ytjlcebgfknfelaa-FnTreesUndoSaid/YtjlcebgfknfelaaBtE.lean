/- B-trees in memory: the tree's own methods. For every tree that fits. -/
import Derived.Test.YtjlcebgfknfelaaBtD
import Derived.Test.YtjlcebgfknfelaaAvlH
import Derived.Test.YtjlcebgfknfelaaTie
namespace Go.Proofs.Ytjlcebgfknfelaa.Bt
open Go Go.RowKit Go.IntWalk Go.Proofs.Ytjlcebgfknfelaa.Hk Go.Proofs.Ytjlcebgfknfelaa.BtPure Go.Proofs.Ytjlcebgfknfelaa.Less Go.Proofs.YtjlcebgfknfelaaW.PrintWords Go.Proofs.YtjlcebgfknfelaaW.PrintLast Go.Proofs.YtjlcebgfknfelaaW.PrintMore
open Go.Proofs.Ytjlcebgfknfelaa.Avl (LessS Acc)

/-! ### A key that is there is put in its place -/
theorem insL_there {r : Int → Int} {k v : Int} {ok : Bool} : ∀ {es : List E}, Up r es → findL r k es ≠ none → (insL r k v ok es).length = es.length
  | [], _, h => absurd rfl h
  | e :: es, hu, h => by
    obtain ⟨h1, h2⟩ := List.pairwise_cons.1 hu
    unfold findL at h
    rw [insL]
    by_cases q : r k = r e.1
    · rw [if_pos q]; rfl
    · rw [List.find?_cons_of_neg (by simpa using q)] at h
      rw [if_neg q]
      by_cases q2 : r k < r e.1
      · refine absurd (List.find?_eq_none.2 (fun x hx => ?_)) h
        have := h1 x hx
        simp; omega
      · rw [if_neg q2, List.length_cons, List.length_cons, insL_there h2 h]
theorem insC_len {α : Type} {r : Int → Int} {f : α → α × Option α} {fst : α → Int} (k : Int) : ∀ {cs : List (Int × α)} {t : α}, pick r k cs = some t → (f t).2 = none → (insC r f fst k cs).length = cs.length
  | [], _, h, _ => by simp [pick] at h
  | [c], t, h, hn => by
    obtain rfl : c.2 = t := by simpa [pick] using h
    simp [insC, hn]
  | c :: c' :: l, t, h, hn => by
    rw [pick] at h
    rw [insC]
    split at h
    · rename_i q
      obtain rfl := Option.some.inj h
      rw [if_pos q, hn]
      simp
    · rename_i q
      rw [if_neg q, List.length_cons, List.length_cons, insC_len k h hn]
theorem ins_none {r : Int → Int} {k v : Int} {ok : Bool} : ∀ {h : Nat} {t : T h}, Row r h t → T.len h t ≤ 63 → T.find r k h t ≠ none → (T.ins r k v ok h t).2 = none
  | 0, es, hR, hl, hf => by
    have h1 := insL_there (v := v) (ok := ok) hR hf
    show (cutL (insL r k v ok es)).2 = none
    have hl' : es.length ≤ 63 := hl
    rw [cut_small (by omega)]
  | h + 1, (cs : List (Int × T h)), hR, hl, hf => by
    have hf' : (pick r k cs).bind (fun t => T.find r k h t) ≠ none := hf
    have hl' : List.length cs ≤ 63 := hl
    cases hp : pick r k cs with
    | none => rw [hp] at hf'; exact absurd rfl hf'
    | some t =>
      rw [hp] at hf'
      have hm : ∃ c ∈ (cs : List (Int × T h)), c.2 = t := by
        have hne : (cs : List (Int × T h)) ≠ [] := fun e => by rw [e] at hp; simp [pick] at hp
        obtain ⟨c, hc, e⟩ := pick_some (r := r) (k := k) hne
        rw [e] at hp
        exact ⟨c, hc, Option.some.inj hp⟩
      obtain ⟨c, hc, rfl⟩ := hm
      have hP := hR.1 c hc
      have ih := ins_none (v := v) (ok := ok) hP.1 hP.2.1 hf'
      show (cutL (insC r (T.ins r k v ok h) (T.first h) k cs)).2 = none
      rw [cut_small (by rw [insC_len k hp ih]; omega)]

/-! ### A tree with its own variable -/
structure M where
  h : Nat
  t : N h
def M.ids (m : M) : List Nat := N.ids m.h m.t
def M.raw (m : M) : List E := T.flat m.h (N.raw m.h m.t)
def M.blk (m : M) : Nat := N.blk m.h m.t
structure Tree (base R : Nat) (tb : List Int) (m : M) (w : World) : Prop where
  blk : ∃ n lv, Blk w R #[.pointer (some ⟨m.blk, 0, none⟩), .int .i64 m.h, .int .i64 n, lv] 115 ∧ LessS base w lv tb
  ge : base ≤ R
  notin : R ∉ m.ids
  good : Good base tb w m.t
theorem fit_row {r : Int → Int} : ∀ {h : Nat} {t : N h}, Row r h (N.raw h t) → T.len h (N.raw h t) ≤ 63 → (h ≠ 0 → 1 ≤ T.len h (N.raw h t)) → N.Fit h t
  | 0, _, _, hl, _ => hl
  | h + 1, (b, cs), hR, hl, h1 => by
    have hl' : (cs.map rawC).length ≤ 63 := hl
    have h1' : 1 ≤ (cs.map rawC).length := h1 (by omega)
    rw [List.length_map] at hl' h1'
    refine ⟨hl', h1', fun c hc => ?_⟩
    have hp : Part r (rawC c) := hR.1 (rawC c) (List.mem_map.2 ⟨c, hc, rfl⟩)
    exact fit_row hp.1 hp.2.1 (fun _ => hp.2.2)
theorem Good.fit {base : Nat} {tb : List Int} {w : World} {h : Nat} {t : N h} (G : Good base tb w t) : N.Fit h t := fit_row G.row G.len G.one
theorem Good.kept {base : Nat} {tb : List Int} {w w' : World} {h : Nat} {t : N h} (G : Good base tb w t) (hk : ∀ b ∈ N.ids h t, w'.heap[b]? = w.heap[b]?) : Good base tb w' t := ⟨G.mem.kept hk, G.nodup, G.above, G.row, G.len, G.one⟩
theorem Tree.kept {base R : Nat} {tb : List Int} {m : M} {w w' : World} (h : Tree base R tb m w) (hb : Below base w w') (hR : w'.heap[R]? = w.heap[R]?) (hk : ∀ b ∈ m.ids, w'.heap[b]? = w.heap[b]?) : Tree base R tb m w' := by
  obtain ⟨⟨n, lv, B, L⟩, g, ni, G⟩ := h
  exact ⟨⟨n, lv, hR.trans B, L.to hb⟩, g, ni, G.kept hk⟩
theorem Tree.lt {base R : Nat} {tb : List Int} {m : M} {w : World} (h : Tree base R tb m w) : R < w.heap.size ∧ ∀ b ∈ m.ids, b < w.heap.size := by
  obtain ⟨⟨n, lv, B, L⟩, g, ni, G⟩ := h
  exact ⟨B.lt, fun b hb => G.mem.lt b hb⟩
theorem Tree.below {base R : Nat} {tb : List Int} {m : M} {w w' : World} (h : Tree base R tb m w) (hb : Below w.heap.size w w') : Tree base R tb m w' :=
  h.kept (have hg := h.ge; have hl := h.lt.1; ⟨hb.os, hb.tape, hb.output, hb.size, fun k hk => hb.block k (by omega)⟩) (hb.block R h.lt.1) (fun b hx => hb.block b (h.lt.2 b hx))
/-- What is behind a call that turns the tree. -/
def Turned (base R : Nat) (tb : List Int) (m : M) (raw' : List E) (w w' : World) : Prop :=
  ∃ m', Tree base R tb m' w' ∧ m'.raw = raw' ∧ m'.h ≤ m.h + 1 ∧ Fr (fun b => b = R ∨ b ∈ m.ids) w w' ∧ ∀ b ∈ m'.ids, b ∈ m.ids ∨ w.heap.size ≤ b
section
variable {base R : Nat} {tb : List Int} {key val : Int} {ok : Bool} {w w1 w' : World} {h : Nat} {t t' u : N h}
theorem Out.good (G : Good base tb w t) (hb : base ≤ w.heap.size) (O : Out tb key val ok t t' none w w') : Good base tb w' t' ∧ T.flat h (N.raw h t') = insL (rankOf tb) key val ok (T.flat h (N.raw h t)) := by
  have hm := ins_made (k := key) (v := val) (ok := ok) G.row G.len G.one
  have hr := O.raw
  rw [← hr] at hm
  have hn := O.nodup
  simp only [uids, List.append_nil] at hn
  exact ⟨⟨O.mem, hn, fun b hb' => by
    rcases O.ids b (List.mem_append_left _ hb') with h1 | h1
    · exact G.above b h1
    · omega, hm.one.1, hm.one.2.1, fun _ => hm.one.2.2⟩, hm.none_ rfl⟩
/-- Two parts under a new root. -/
theorem Out.two (G : Good base tb w t) (hb : base ≤ w.heap.size) (O : Out tb key val ok t t' (some u) w w') {W : World} {c : Nat} {g : Nat → Q} (hf : Fr (· = R) w' W) (hRn : R ∉ N.ids h t' ++ N.ids h u) (hc : w'.heap.size ≤ c) (hN : Nd W c 2 g)
    (h0 : Rep1 (g 0) (T.first h (N.raw h t'), t')) (h1 : Rep1 (g 1) (T.first h (N.raw h u), u)) :
    Good base tb W (h := h + 1) ((c, [(T.first h (N.raw h t'), t'), (T.first h (N.raw h u), u)]) : Nat × List (Int × N h)) ∧
      T.flat (h + 1) (N.raw (h + 1) ((c, [(T.first h (N.raw h t'), t'), (T.first h (N.raw h u), u)]) : Nat × List (Int × N h))) = insL (rankOf tb) key val ok (T.flat h (N.raw h t)) := by
  have hm := ins_made (k := key) (v := val) (ok := ok) G.row G.len G.one
  have hr := O.raw
  rw [← hr] at hm
  obtain ⟨s1, s2, s3, s4⟩ := hm.some_ (N.raw h u) rfl
  have hn : (N.ids h t' ++ N.ids h u).Nodup := O.nodup
  have i1 : N.In W h t' := O.mem.fr hf (fun b hb' e => hRn (by rw [← e]; exact List.mem_append_left _ hb'))
  have i2 : N.In W h u := (O.memu u rfl).fr hf (fun b hb' e => hRn (by rw [← e]; exact List.mem_append_right _ hb'))
  have lt : ∀ b ∈ N.ids h t' ++ N.ids h u, b < w'.heap.size := fun b hb' => by
    rcases List.mem_append.1 hb' with hb' | hb'
    · exact O.mem.lt b hb'
    · exact (O.memu u rfl).lt b hb'
  have eids : N.ids (h + 1) ((c, [(T.first h (N.raw h t'), t'), (T.first h (N.raw h u), u)]) : Nat × List (Int × N h)) = c :: (N.ids h t' ++ N.ids h u) := by
    show c :: fids _ = _
    rw [fids_cons, fids_cons]
    simp [fids]
  refine ⟨⟨⟨⟨g, hN, fun i x hx => ?_⟩, fun d hd => ?_⟩, ?_, fun b hb' => ?_, ⟨fun d hd => ?_, ⟨s3, s4, trivial⟩⟩, by show 2 ≤ 63; omega, fun _ => by show 1 ≤ 2; omega⟩, ?_⟩
  · match i, hx with
    | 0, hx => obtain rfl := Option.some.inj hx; exact h0
    | 1, hx => obtain rfl := Option.some.inj hx; exact h1
    | _ + 2, hx => simp at hx
  · simp only [List.mem_cons, List.not_mem_nil, or_false] at hd
    rcases hd with rfl | rfl
    · exact i1
    · exact i2
  · rw [eids]
    exact List.nodup_cons.2 ⟨fun h => by have := lt c h; omega, hn⟩
  · rw [eids] at hb'
    have hs := O.fr.size
    rcases List.mem_cons.1 hb' with rfl | hb'
    · omega
    · rcases O.ids b hb' with h1 | h1
      · exact G.above b h1
      · omega
  · simp only [N.raw, List.map_cons, List.map_nil, List.mem_cons, List.not_mem_nil, or_false] at hd
    rcases hd with rfl | rfl
    · exact hm.one
    · exact s1
  · rw [← s2]
    show flatC [(T.first h (N.raw h t'), N.raw h t'), (T.first h (N.raw h u), N.raw h u)] = _
    rw [flatC_cons, flatC_cons]
    simp [flatC]
end

def get1.T : Bool × List (List Nat × List Nat) := (true, [([], []), ([], []), ([1], [1]), ([2], [2]), ([3], [3]), ([], []), ([], []), ([6], [6]), ([7], [7]), ([8], [8]), ([0, 4, 5, 9], [0, 4, 5, 9]), ([10], [10]), ([10], [10]), ([11, 10, 0, 1, 2, 3, 4, 5, 6, 7, 8, 9, 10, 11, 12], [11]), ([12, 13, 0, 1, 2, 3, 4, 5, 6, 7, 8, 9, 10, 11, 12, 13], [12])])
def get1.B : List Nat := [0, 0, 2, 6, 14, 0, 0, 64, 192, 448, 1023, 2047, 2047, 8191, 16383]
theorem get1.tab : rtab .any (opsOf Try.f74 1) = get1.T := by kernel_rfl
theorem get1.bits : waitsOk get1.T.2 get1.B = true := by kernel_rfl
set_option maxHeartbeats 4000000 in
set_option maxRecDepth 100000 in
theorem tGet_any (base R : Nat) (tb : List Int) (m : M) (key : Int) (w : World) (hT : Tree base R tb m w) (hh : m.h ≤ 1099511627776) :
    Calls Try.prog 74 #[.pointer (some ⟨R, 0, none⟩), .int .i64 key] w fun e w' => e = .returned (.tuple #[.int .i64 (tell (findL (rankOf tb) key m.raw)).1, .bool (tell (findL (rankOf tb) key m.raw)).2]) ∧ Below w.heap.size w w' := by
  obtain ⟨⟨n, lv, hB, hL⟩, g, ni, G⟩ := hT
  obtain ⟨h, t⟩ := m
  have hFF := find_flat (k := key) G.row
  have HF : Hid (findL (rankOf tb) key (T.flat h (N.raw h t)) = T.find (rankOf tb) key h (N.raw h t)) := hFF.symm
  have c0 : w.cell? ⟨R, 0, none⟩ = some (.pointer (some ⟨N.blk h t, 0, none⟩)) := hB.cell 0
  have c1 : w.cell? ⟨R, 1, none⟩ = some (.int .i64 h) := hB.cell 1
  have HB := hid (And.intro hB hL)
  have HG := hid G
  have HZ : Hid (base ≤ w.heap.size ∧ h ≤ 1099511627776) := ⟨by have := hB.lt; omega, hh⟩
  clear hB hL g ni G hFF hh
  show Calls Try.prog 74 #[.pointer (some ⟨R, 0, none⟩), .int .i64 key] w fun e w' => e = .returned (.tuple #[.int .i64 (tell (findL (rankOf tb) key (T.flat h (N.raw h t)))).1, .bool (tell (findL (rankOf tb) key (T.flat h (N.raw h t)))).2]) ∧ Below w.heap.size w w'
  rw [HF.out]
  go_enter Try.func74, Try.ntmps74
  go_upto_region 1 with fail
  refine start_ (n := 15) (S := fun w' => w'.cell? ⟨R, 0, none⟩ = some (.pointer (some ⟨N.blk h t, 0, none⟩)) ∧ w'.cell? ⟨R, 1, none⟩ = some (.int .i64 h)) (ds := [10]) #[false, false, false, false, false, false, false, false, false, false, false, false, false, false, false] (by kernel_rfl) rfl rfl ⟨c0, c1⟩ (fun hHeld => ?_)
  refine with_tabW get1.tab get1.bits (fun HT_ HW_ => ?_)
  refine pure_ (i := 0) (N := some 6) (v := ?_) (a' := ?_) #[true, false, false, false, false, false, false, false, false, false, false, false, false, false, false] rfl rfl (any_of HT_.out (by kernel_rfl)) (fun _ _ _ h => h) (Or.inl ⟨by rfl, ?_⟩) ?_ ?_
  rotate_left
  · intro w'
    go_simp
    with_reducible rfl
  rotate_left
  · simp only [Act.put, List.setIfInBounds_toArray, List.set_cons_zero, List.set_cons_succ]
    rfl
  refine pure_ (i := 1) (N := some 7) (v := ?_) (a' := ?_) #[true, true, false, false, false, false, false, false, false, false, false, false, false, false, false] rfl rfl (any_of HT_.out (by kernel_rfl)) (fun _ _ _ h => h) (Or.inl ⟨by rfl, ?_⟩) ?_ ?_
  rotate_left
  · intro w'
    go_simp
    with_reducible rfl
  rotate_left
  · simp only [Act.put, List.setIfInBounds_toArray, List.set_cons_zero, List.set_cons_succ]
    rfl
  refine pure_ (i := 2) (N := some 8) (v := ?_) (a' := ?_) #[true, true, true, false, false, false, false, false, false, false, false, false, false, false, false] rfl rfl (any_of HT_.out (by kernel_rfl)) (fun _ _ _ h => h) (Or.inl ⟨by rfl, ?_⟩) ?_ ?_
  rotate_left
  · intro w'
    go_simp
    with_reducible rfl
  rotate_left
  · simp only [Act.put, List.setIfInBounds_toArray, List.set_cons_zero, List.set_cons_succ]
    rfl
  refine pure_ (i := 3) (N := some 9) (v := ?_) (a' := ?_) #[true, true, true, true, false, false, false, false, false, false, false, false, false, false, false] rfl rfl (any_of HT_.out (by kernel_rfl)) (fun _ _ _ h => h) (Or.inl ⟨by rfl, ?_⟩) ?_ ?_
  rotate_left
  · intro w'
    go_simp
    with_reducible rfl
  rotate_left
  · simp only [Act.put, List.setIfInBounds_toArray, List.set_cons_zero, List.set_cons_succ]
    rfl
  refine take_ (i := 4) (N := some 10) (v := ?_) (a' := ?_) #[true, true, true, true, true, false, false, false, false, false, false, false, false, false, false] rfl rfl (take_ofW HT_.out HW_.out (by kernel_rfl)) (fun _ _ _ h => h) (Or.inl ⟨by rfl, ?_⟩) hHeld ?_ ?_
  rotate_left
  · intro w' s0
    obtain ⟨s1, s2⟩ := s0
    go_simp
    with_reducible rfl
  rotate_left
  · simp only [Act.put, List.setIfInBounds_toArray, List.set_cons_zero, List.set_cons_succ]
    rfl
  refine pure_ (i := 5) (N := some 11) (v := ?_) (a' := ?_) #[true, true, true, true, true, true, false, false, false, false, false, false, false, false, false] rfl rfl (any_of HT_.out (by kernel_rfl)) (fun _ _ _ h => h) (Or.inl ⟨by rfl, ?_⟩) ?_ ?_
  rotate_left
  · intro w'
    go_simp
    with_reducible rfl
  rotate_left
  · simp only [Act.put, List.setIfInBounds_toArray, List.set_cons_zero, List.set_cons_succ]
    rfl
  refine pure_ (i := 6) (N := some 12) (v := ?_) (a' := ?_) #[true, true, true, true, true, true, true, false, false, false, false, false, false, false, false] rfl rfl (any_of HT_.out (by kernel_rfl)) (fun _ _ _ h => h) (Or.inl ⟨by rfl, ?_⟩) ?_ ?_
  rotate_left
  · intro w'
    go_simp
    with_reducible rfl
  rotate_left
  · simp only [Act.put, List.setIfInBounds_toArray, List.set_cons_zero, List.set_cons_succ]
    rfl
  refine pure_ (i := 7) (N := some 13) (v := ?_) (a' := ?_) #[true, true, true, true, true, true, true, true, false, false, false, false, false, false, false] rfl rfl (any_of HT_.out (by kernel_rfl)) (fun _ _ _ h => h) (Or.inl ⟨by rfl, ?_⟩) ?_ ?_
  rotate_left
  · intro w'
    go_simp
    with_reducible rfl
  rotate_left
  · simp only [Act.put, List.setIfInBounds_toArray, List.set_cons_zero, List.set_cons_succ]
    rfl
  refine pure_ (i := 8) (N := some 14) (v := ?_) (a' := ?_) #[true, true, true, true, true, true, true, true, true, false, false, false, false, false, false] rfl rfl (any_of HT_.out (by kernel_rfl)) (fun _ _ _ h => h) (Or.inl ⟨by rfl, ?_⟩) ?_ ?_
  rotate_left
  · intro w'
    go_simp
    with_reducible rfl
  rotate_left
  · simp only [Act.put, List.setIfInBounds_toArray, List.set_cons_zero, List.set_cons_succ]
    rfl
  refine take_ (i := 9) (N := some 15) (v := ?_) (a' := ?_) #[true, true, true, true, true, true, true, true, true, true, false, false, false, false, false] rfl rfl (take_ofW HT_.out HW_.out (by kernel_rfl)) (fun _ _ _ h => h) (Or.inl ⟨by rfl, ?_⟩) hHeld ?_ ?_
  rotate_left
  · intro w' s0
    obtain ⟨s1, s2⟩ := s0
    go_simp
    with_reducible rfl
  rotate_left
  · simp only [Act.put, List.setIfInBounds_toArray, List.set_cons_zero, List.set_cons_succ]
    rfl
  refine last_ (i := 10) (N := some 16) #[true, true, true, true, true, true, true, true, true, true, true, false, false, false, false] rfl rfl (one_of HT_.out (by kernel_rfl)) (by decide) (fun K_ hK => ?_)
  refine call_ (N := some 16) 93 #[.pointer (some ⟨R, 0, none⟩), .pointer (some ⟨N.blk h t, 0, none⟩), .int .i64 key, .int .i64 h] (by rfl) rfl (by go_simp) ?_
  have HCall_ := search_any base R tb key n h _ lv h t w.drew (HG.out.mem.kept (fun _ _ => rfl)) HG.out.fit HB.out.1 (HB.out.2.drewN 1) HZ.out.1 HZ.out.2
  refine HCall_.mono ?_
  clear HCall_
  rintro e w1 ⟨rfl, hb⟩
  have HB1 := hid hb
  clear hb hHeld
  refine ⟨_, rfl, ?_⟩
  refine hK.out _ _ ?_
  clear hK K_
  refine norm_ (a' := ?_) ?_ ?_
  rotate_left
  · show Act.put _ (some 16) _ = _
    simp only [Act.put, List.setIfInBounds_toArray, List.set_cons_zero, List.set_cons_succ]
    rfl
  refine pure_ (i := 11) (N := some 17) (v := ?_) (a' := ?_) #[true, true, true, true, true, true, true, true, true, true, true, true, false, false, false] rfl rfl (any_of HT_.out (by kernel_rfl)) (fun _ _ _ h => h) (Or.inl ⟨by rfl, ?_⟩) ?_ ?_
  rotate_left
  · intro w'
    go_simp
    with_reducible rfl
  rotate_left
  · simp only [Act.put, List.setIfInBounds_toArray, List.set_cons_zero, List.set_cons_succ]
    rfl
  refine pure_ (i := 12) (N := some 18) (v := ?_) (a' := ?_) #[true, true, true, true, true, true, true, true, true, true, true, true, true, false, false] rfl rfl (any_of HT_.out (by kernel_rfl)) (fun _ _ _ h => h) (Or.inl ⟨by rfl, ?_⟩) ?_ ?_
  rotate_left
  · intro w'
    go_simp
    with_reducible rfl
  rotate_left
  · simp only [Act.put, List.setIfInBounds_toArray, List.set_cons_zero, List.set_cons_succ]
    rfl
  refine pure_ (i := 13) (N := some 4) (v := ?_) (a' := ?_) #[true, true, true, true, true, true, true, true, true, true, true, true, true, true, false] rfl rfl (any_of HT_.out (by kernel_rfl)) (fun _ _ _ h => h) (Or.inl ⟨by rfl, ?_⟩) ?_ ?_
  rotate_left
  · intro w'
    go_simp
    with_reducible rfl
  rotate_left
  · simp only [Act.put, List.setIfInBounds_toArray, List.set_cons_zero, List.set_cons_succ]
    rfl
  refine pure_ (i := 14) (N := some 5) (v := ?_) (a' := ?_) #[true, true, true, true, true, true, true, true, true, true, true, true, true, true, true] rfl rfl (any_of HT_.out (by kernel_rfl)) (fun _ _ _ h => h) (Or.inl ⟨by rfl, ?_⟩) ?_ ?_
  rotate_left
  · intro w'
    go_simp
    with_reducible rfl
  rotate_left
  · simp only [Act.put, List.setIfInBounds_toArray, List.set_cons_zero, List.set_cons_succ]
    rfl
  refine done_ (done_of HT_.out (by kernel_rfl)) ?_
  clear HT_ HW_
  go_wp2_with fail
  go_ret2
  exact ⟨rfl, ⟨HB1.out.os, HB1.out.tape, HB1.out.output, HB1.out.size, HB1.out.block⟩⟩

set_option maxHeartbeats 4000000 in
set_option maxRecDepth 100000 in
theorem tEach_any (base R : Nat) (tb : List Int) (m : M) (N0 X : Nat) (val : Int) (okv : Bool) (w : World) (hT : Tree base R tb m w) (hid' : ∀ b ∈ m.ids, b < N0 ∧ b ≠ X) (hA : Acc N0 X val okv [] [] w) (hs : m.raw.length ≤ 1099511627776) (hh : m.h ≤ 1099511627776) :
    Calls Try.prog 75 #[.pointer (some ⟨R, 0, none⟩), cloV X] w fun e w' => e = .returned (.tuple #[]) ∧ Acc N0 X val okv (keysV m.raw) (valsV m.raw) w' ∧ Fr (fun b => b = X ∨ N0 ≤ b) w w' := by
  obtain ⟨⟨n, lv, hB, hL⟩, g, ni, G⟩ := hT
  obtain ⟨h, t⟩ := m
  have c0 : w.cell? ⟨R, 0, none⟩ = some (.pointer (some ⟨N.blk h t, 0, none⟩)) := hB.cell 0
  have c1 : w.cell? ⟨R, 1, none⟩ = some (.int .i64 h) := hB.cell 1
  have HG := hid G
  have HB : Hid ((∀ b ∈ N.ids h t, b < N0 ∧ b ≠ X) ∧ Acc N0 X val okv [] [] w ∧ ([] : List Int).length + (T.flat h (N.raw h t)).length ≤ 1099511627776 ∧ h ≤ 1099511627776) := ⟨hid', hA, by rw [List.length_nil, Nat.zero_add]; exact hs, hh⟩
  clear hB hL g ni G hid' hA hs hh
  show Calls Try.prog 75 #[.pointer (some ⟨R, 0, none⟩), .func (.func 76) #[] #[.pointer (some ⟨X, 0, none⟩)]] w fun e w' => e = .returned (.tuple #[]) ∧ Acc N0 X val okv (keysV (T.flat h (N.raw h t))) (valsV (T.flat h (N.raw h t))) w' ∧ Fr (fun b => b = X ∨ N0 ≤ b) w w'
  go_enter Try.func75, Try.ntmps75
  go_wp2_with fail
  refine wp_first_tail (.tmp 0) (some 4) 10 (by kernel_rfl) ⟨rfl, rfl, rfl⟩ (by kernel_rfl) (by kernel_rfl) (by kernel_rfl) (fun _ _ _ h => h) (by kernel_rfl) ?_
  simp only [tied, List.modify_succ_cons, List.modify_zero_cons, List.take_succ_cons, List.take_zero, List.drop_succ_cons, List.drop_zero]
  repeat still_step
  refine wpStill_nil ?_
  go_wp2_with fail
  refine (each_any N0 X R val okv h t [] [] w.drew (HG.out.mem.kept (fun _ _ => rfl)) HG.out.fit HB.out.1 HB.out.2.1.drew rfl HB.out.2.2.1 HB.out.2.2.2).mono ?_
  rintro e w1 ⟨rfl, hA, hF⟩
  have H := hid hA
  have H2 : Hid (Fr (fun b => b = X ∨ N0 ≤ b) w w1) := hid ⟨hF.os, hF.tape, hF.output, hF.size, hF.block⟩
  clear hA hF
  go_wp2_with fail
  go_end0
  exact ⟨rfl, H.out, H2.out⟩
end Go.Proofs.Ytjlcebgfknfelaa.Bt
