/- Stacks by their plain definition: the walk. For every script. -/
import Derived.Test.YtmhnhfmkcipcpaaStackD
import Derived.Test.YtmhnhfmkcipcpaaWTab
namespace Go.Proofs.Ytmhnhfmkcipcpaa.Stack
open Go Go.RowKit Go.Deep Go.Proofs.Ytmhnhfmkcipcpaa.Hk Go.Proofs.Ytmhnhfmkcipcpaa.HeapPure Go.Proofs.Ytmhnhfmkcipcpaa.Heap Go.Proofs.Ytmhnhfmkcipcpaa.StackPure Go.Proofs.Ytmhnhfmkcipcpaa.Seen Go.Proofs.YtmhnhfmkcipcpaaW.PrintWords Go.Proofs.YtmhnhfmkcipcpaaW.PrintLast Go.Proofs.YtmhnhfmkcipcpaaW.PrintMore
def sst11.T : Bool × List (List Nat × List Nat) := (true, [([], []), ([], []), ([0, 1], [0, 1]), ([], []), ([], []), ([3, 4], [3, 4]), ([5], [5]), ([6], [6]), ([7], [7]), ([2, 8, 2], [2, 8]), ([9, 9, 0, 1, 2, 3, 4, 5, 6, 7, 8, 9], [1, 9])])
def sst11.B : List Nat := [0, 0, 3, 0, 0, 24, 56, 120, 248, 511, 1023]
theorem sst11.tab : rtab .any (opsOf Try.f13 11) = sst11.T := by kernel_rfl
theorem sst11.bits : waitsOk sst11.T.2 sst11.B = true := by kernel_rfl

theorem begun {v2 : Value} {w w2 : World} {l : List St} (ho : Rsl w2 w.heap.size v2 [(none, 0, 0)]) (hb : Below w.heap.size w w2) : Rs w.heap.size w l 0 [(none, 0, 0)] [[]] v2 (.slice none 0 0) [] w2 := by
  refine ⟨ho, ⟨rfl, fun j p xs hp hx => ?_⟩, Kd.R_nil .., hb, hb.size, rfl, ⟨by simp, by simp⟩, fun j xs hx => ?_, rfl⟩
  · match j, hp, hx with
    | 0, hp, hx =>
      simp only [List.getElem?_cons_zero, Option.some.injEq] at hp hx
      subst hp; subst hx
      exact Lies.nil _
  · match j, hx with
    | 0, hx =>
      simp only [List.getElem?_cons_zero, Option.some.injEq] at hx
      subst hx
      exact Nat.le_refl _
theorem at_st2 {w : World} {A : Option Addr} {n : Nat} {xs : List St} (h : Kd.C stK w A n xs) (i : Nat) (hi : i < xs.length) : ∃ ad, A = some ad ∧ ∀ W, Below w.heap.size w W → W.cell? (ad.add (i * 4)) = some (.int .i64 xs[i].1) ∧
    W.cell? ⟨(ad.add (i * 4)).block, (ad.add (i * 4)).off + 1, none⟩ = some (.int .i64 xs[i].2.1) ∧ W.cell? ⟨(ad.add (i * 4)).block, (ad.add (i * 4)).off + 2, none⟩ = some (.int .i64 xs[i].2.2.1) ∧ W.cell? ⟨(ad.add (i * 4)).block, (ad.add (i * 4)).off + 3, none⟩ = some (.int .i64 xs[i].2.2.2) := by
  obtain ⟨ad, e, _⟩ := at_st h i hi
  refine ⟨ad, e, fun W hB => ?_⟩
  obtain ⟨ad', e', h'⟩ := at_st (Kd.C_below h hB) i hi
  rw [e] at e'
  injection e' with e'
  subst e'
  exact h'
theorem ro_lit {W : World} {base : Nat} (h : base ≤ W.heap.size) : Ro (W.alloc (.cells #[] 3)) base (.slice (some ⟨W.heap.size, 0, none⟩) 0 0) [] := by
  refine ⟨fun _ _ => trivial, [], ?_, Reps.none _ _⟩
  have h2 := World.ownsRow_lit (base := base) (e := 3) (size := 1) W #[] 0 h (by simp [maxLen]) (by simp)
  show (W.alloc (.cells #[] 3)).ownsRow base 3 1 _ 0 []
  simpa using h2

theorem pushed {base s j : Nat} {w0 W : World} {ps : List Sl} {L : List (List Int)} {va vo : Value} {rs : List (Int × Bool)} {n : Int} {p q : Sl} {xs ys : List Int} (h : Md base s w0 (ps ++ [q]) (L ++ [ys]) va vo rs n W) (hp : ps[j]? = some p) (hx : L[j]? = some xs) : Lies W p xs :=
  h.lies.2 j p xs (by rw [List.getElem?_append_left (List.getElem?_eq_some_iff.1 hp).1]; exact hp) (by rw [List.getElem?_append_left (List.getElem?_eq_some_iff.1 hx).1]; exact hx)

set_option maxHeartbeats 16000000 in
set_option maxRecDepth 100000 in
theorem sStack_any (A : Option Addr) (c : Nat) (l : List St) (w : World) (hS : Kd.C stK w A l.length l) (hl : l.length ≤ 274877906944) :
    Calls Try.prog 13 #[.slice A l.length c] w fun e w' => ∃ v, e = .returned v ∧ seenN.R 34 w' w.heap.size (fun _ => True) v (toldS [[]] l) ∧ Below w.heap.size w w' := by
  have HS := hid hS
  clear hS
  go_enter Try.func13, Try.ntmps13
  go_wp2_with ((with_reducible refine gate_dst (N := 9) rfl ?_); refine Kd.R_lit slK (w0 := w) w.heap.size 30 ?hg (N := 9) ?hd (xs := [((none, 0, 0) : Sl)]) (inner := [slV (none, 0, 0)]) (ok := fun _ => True) (okp := fun _ => True) ?hr ?hp (fun _ hk => hk) trivial (Below.refl _ _) (Nat.le_refl _) (by simp) ?_; (case hd => rfl); (case hg => rfl); (case hr => first | (go_simp; done) | (go_simp; rfl)); (case hp => exact reps_sl); intro v2 w2 ho hb hg_ hnew_; have HR : Hid (Rs w.heap.size w l 0 [(none, 0, 0)] [[]] v2 (.slice none 0 0) [] w2) := begun ho hb; clear hg_ hnew_ ho hb)
  go_loopg [3, 4, 5] l.length (fun gk v3 v4 v5 wr => ∃ (i : Nat) (ps : List Sl) (L : List (List Int)) (rs : List (Int × Bool)), v5 = .int .i64 i ∧ i ≤ l.length ∧ Hid (gk + i = l.length) ∧ Hid (Rs w.heap.size w l i ps L v3 v4 rs wr))
  case atStart => exact ⟨0, _, _, [], rfl, Nat.zero_le _, Nat.add_zero _, HR⟩
  case round =>
    obtain ⟨i, ps, L, rs, rfl, hi, HG, HI⟩ := hrel
    by_cases hin : i < l.length
    · obtain ⟨ad, rfl, hx⟩ := at_st2 HS.out i hin
      have HX := hid hx
      have HD : Hid (l.drop i = l[i] :: l.drop (i + 1)) := List.drop_eq_getElem_cons hin
      generalize l[i] = a at HX HD
      obtain ⟨o, d, key, val⟩ := a
      have HIN := hid hin
      obtain ⟨k1, rfl⟩ : ∃ k1, gk = k1 + 1 := ⟨gk - 1, by have := HG.out; omega⟩
      clear hx
      -- which stack
      have HLL := hid HI.out.lies.1
      have h0L : 0 < L.length := List.length_pos_iff.2 HI.out.len.1
      obtain ⟨g, c3, rfl, _, _, _⟩ := Kd.R_form HI.out.all (by have := HLL.out; omega)
      obtain ⟨n, hn⟩ : ∃ n, ps.length = n := ⟨_, rfl⟩
      rw [hn] at HI ⊢
      have HN := hid hn
      have HLEN : Hid (0 < n ∧ n ≤ 274877906945 ∧ L.length = n) := by
        have h1 := HI.out.len.2
        have h2 := HLL.out
        exact hid ⟨by omega, by omega, by omega⟩
      clear hn h0L
      obtain ⟨j, hj⟩ : ∃ j : Nat, (o % (n : Int)).toNat = j := ⟨_, rfl⟩
      have hjo : o % (n : Int) = (j : Int) := by
        have := Int.emod_nonneg o (show (n : Int) ≠ 0 by have := HLEN.out.1; omega)
        omega
      have hjn : j < n := by
        have := Int.emod_lt_of_pos o (show (0 : Int) < (n : Int) by have := HLEN.out.1; omega)
        omega
      have HJO := hid hjo
      have HJN := hid hjn
      obtain ⟨⟨PA, PN, PC⟩, hp⟩ : ∃ p, ps[j]? = some p := ⟨ps[j]'(by have := HN.out; omega), List.getElem?_eq_getElem _⟩
      obtain ⟨b, hb⟩ : ∃ b, L[j]? = some b := ⟨L[j]'(by have := HLEN.out.2.2; omega), List.getElem?_eq_getElem _⟩
      have hPN : PN = b.length := (HI.out.lies.2 j _ b hp hb).len
      subst hPN
      have HP := hid hp
      have HBL := hid hb
      have HON : Hid (on L o = j ∧ L.getD j [] = b) := by
        refine hid ⟨?_, by rw [List.getD_eq_getElem?_getD, hb]; rfl⟩
        unfold on
        rw [HLEN.out.2.2]
        exact hj
      have HXL : Hid (b.length ≤ i) := hid (HI.out.each j b hb)
      have hbl : (b.length : Int) ≤ 274877906944 := by have := HXL.out; omega
      clear hj hjo hp hb
      have H2 : Hid (Md w.heap.size wr.heap.size w ps L (.slice (some ⟨g, 0, none⟩) n c3) u4 rs 0 (wr.alloc (.cells (F4 0 false) 34))) := by
        have hB2 : Below wr.heap.size wr (wr.alloc (.cells (F4 0 false) 34)) := (Below.refl _ _).alloc (Nat.le_refl _) _
        exact hid ⟨Kd.R_below HI.out.all hB2, HI.out.lies.below hB2, Kd.R_below HI.out.out hB2, fun k hk => by have := Kd.R_lt HI.out.out k hk; omega, below_at HI.out.below hB2 HI.out.below.size, Nat.le_trans HI.out.big hB2.size, HI.out.big, Blk.new _ _ _⟩
      have HI2 : Hid (rs ++ toldS L (l.drop i) = toldS [[]] l ∧ (L ≠ [] ∧ L.length ≤ i + 1) ∧ (∀ (j : Nat) (xs : List Int), L[j]? = some xs → xs.length ≤ i) ∧ rs.length = i) := hid ⟨HI.out.told, HI.out.len, HI.out.each, HI.out.rlen⟩
      clear HI
      go_upto_region 7 with fail
      change Code.wp _ _ _ _ (wr.alloc (.cells (F4 0 false) 34))
      generalize wr.alloc (.cells (F4 0 false) 34) = W at H2 ⊢
      generalize wr.heap.size = s at H2 ⊢
      have x0 : W.cell? (ad.add (i * 4)) = some (.int .i64 o) := (HX.out W H2.out.below).1
      have x1 : W.cell? ⟨(ad.add (i * 4)).block, (ad.add (i * 4)).off + 1, none⟩ = some (.int .i64 d) := (HX.out W H2.out.below).2.1
      have pc : W.cell? ⟨g, j, none⟩ = some (.slice PA b.length PC) := sl_cell H2.out.all j HP.out
      have HLI : Hid (Lies W (PA, b.length, PC) b) := hid (H2.out.lies.2 j _ b HP.out HBL.out)
      go_wp2_with fail
      refine (smod_any o n W (by have := HLEN.out.1; omega) (by have := HLEN.out.2.1; omega)).mono ?_
      rintro e w3 ⟨rfl, rfl⟩
      obtain ⟨W, rfl⟩ : ∃ W, W = w3 := ⟨_, rfl⟩
      rw [HJO.out]
      go_upto_region 9 with fail
      by_cases h0 : d = 0
      · subst h0
        have HT : Hid (stepS L (o, 0, key, val) = L.set j (b ++ [key]) ∧ tellS L (o, 0, key, val) = (0, false) ∧ (L.set j (b ++ [key]) ≠ [] ∧ (L.set j (b ++ [key])).length ≤ i + 1 + 1) ∧ ∀ (j' : Nat) (k : List Int), (L.set j (b ++ [key]))[j']? = some k → k.length ≤ i + 1) := by
          refine hid ⟨?_, ?_, set_okL HI2.out.2.1, set_eachL HI2.out.2.2.1 (by rw [List.length_append, List.length_singleton]; have := HXL.out; omega)⟩
          · simp only [stepS]; rw [HON.out.1, HON.out.2]; rfl
          · simp only [tellS]; rw [HON.out.1, HON.out.2]; rfl
        have HKEY : Hid (∀ W', Below w.heap.size w W' → W'.cell? ⟨(ad.add (i * 4)).block, (ad.add (i * 4)).off + 2, none⟩ = some (.int .i64 key)) := hid (fun W' hB => (HX.out W' hB).2.2.1)
        have HC := hid HLI.out.cells
        go_upto_region 11 with fail
        clear x0 x1 pc
        have H3 := hid (H2.out.later (W1 := W.drew) ⟨rfl, rfl, rfl, Nat.le_refl _, fun _ _ => rfl⟩)
        have HC3 : Hid (Kd.C (Kd.int .i64) W.drew PA b.length b) := hid (Kd.C_drew HC.out)
        have x2 : W.cell? ⟨(ad.add (i * 4)).block, (ad.add (i * 4)).off + 2, none⟩ = some (.int .i64 key) := HKEY.out _ H2.out.below
        clear H2 HLI HC
        refine start_ (n := 11) (S := fun w' => w'.cell? ⟨(ad.add (i * 4)).block, (ad.add (i * 4)).off + 2, none⟩ = some (.int .i64 key)) (ds := []) #[false, false, false, false, false, false, false, false, false, false, false] (by kernel_rfl) rfl rfl x2 (fun hHeld => ?_)
        refine with_tabW sst11.tab sst11.bits (fun HT_ HW_ => ?_)
        clear x2
        generalize W.drew = Wd at H3 HC3 hHeld ⊢
        refine pure_ (i := 1) (N := some 36) (v := ?_) (a' := ?_) #[false, true, false, false, false, false, false, false, false, false, false] rfl rfl (any_of HT_.out (by kernel_rfl)) (fun _ _ _ h => h) (Or.inl ⟨by rfl, ?_⟩) ?_ ?_
        rotate_left
        · intro w'
          go_simp
          with_reducible rfl
        rotate_left
        · simp only [Act.put, List.setIfInBounds_toArray, List.set_cons_zero, List.set_cons_succ]
          rfl
        refine pure_ (i := 3) (N := some 38) (v := ?_) (a' := ?_) #[false, true, false, true, false, false, false, false, false, false, false] rfl rfl (any_of HT_.out (by kernel_rfl)) (fun _ _ _ h => h) (Or.inl ⟨by rfl, ?_⟩) ?_ ?_
        rotate_left
        · intro w'
          go_simp
          with_reducible rfl
        rotate_left
        · simp only [Act.put, List.setIfInBounds_toArray, List.set_cons_zero, List.set_cons_succ]
          rfl
        refine pure_ (i := 4) (N := some 39) (v := ?_) (a' := ?_) #[false, true, false, true, true, false, false, false, false, false, false] rfl rfl (any_of HT_.out (by kernel_rfl)) (fun _ _ _ h => h) (Or.inl ⟨by rfl, ?_⟩) ?_ ?_
        rotate_left
        · intro w'
          go_simp
          with_reducible rfl
        rotate_left
        · simp only [Act.put, List.setIfInBounds_toArray, List.set_cons_zero, List.set_cons_succ]
          rfl
        refine pure_ (i := 5) (N := some 40) (v := ?_) (a' := ?_) #[false, true, false, true, true, true, false, false, false, false, false] rfl rfl (any_of HT_.out (by kernel_rfl)) (fun _ _ _ h => h) (Or.inl ⟨by rfl, ?_⟩) ?_ ?_
        rotate_left
        · intro w'
          go_simp
          with_reducible rfl
        rotate_left
        · simp only [Act.put, List.setIfInBounds_toArray, List.set_cons_zero, List.set_cons_succ]
          rfl
        refine pure_ (i := 6) (N := some 41) (v := ?_) (a' := ?_) #[false, true, false, true, true, true, true, false, false, false, false] rfl rfl (any_of HT_.out (by kernel_rfl)) (fun _ _ _ h => h) (Or.inl ⟨by rfl, ?_⟩) ?_ ?_
        rotate_left
        · intro w'
          go_simp
          with_reducible rfl
        rotate_left
        · simp only [Act.put, List.setIfInBounds_toArray, List.set_cons_zero, List.set_cons_succ]
          rfl
        refine take_ (i := 7) (N := some 42) (v := ?_) (a' := ?_) #[false, true, false, true, true, true, true, true, false, false, false] rfl rfl (take_ofW HT_.out HW_.out (by kernel_rfl)) (fun _ _ _ h => h) (Or.inl ⟨by rfl, ?_⟩) hHeld ?_ ?_
        rotate_left
        · intro w' s0
          go_simp
          with_reducible rfl
        rotate_left
        · simp only [Act.put, List.setIfInBounds_toArray, List.set_cons_zero, List.set_cons_succ]
          rfl
        have HB0 : Hid (Below Wd.heap.size Wd Wd) := hid (Below.refl _ _)
        refine two_ (i := 0) (j := 8) (Ni := some 35) (Nj := some 43) #[true, true, false, true, true, true, true, true, false, false, false] #[false, true, false, true, true, true, true, true, true, false, false] rfl rfl rfl rfl (two_of HT_.out (by kernel_rfl)) (by decide) (by decide) (fun K_ hK => ?_) (fun K_ hK => ?_)
        · refine value_ (w1 := ?_) (v := ?_) (by rfl) rfl ?_ ?_
          rotate_left 2
          · go_simp
            constructor
            · rfl
            · rfl
          refine hK.out _ _ (HKEY.out _ (H3.out.later (HB0.out.alloc HB0.out.size _)).below) (fun hHeld => ?_)
          clear hK K_
          have HB1' : Hid (Below Wd.heap.size Wd (Wd.alloc (.cells #[] 3)) ∧ Wd.heap.size < (Wd.alloc (.cells #[] 3)).heap.size) := hid ⟨HB0.out.alloc HB0.out.size _, by simp⟩
          have HE1 : Hid (Ro (Wd.alloc (.cells #[] 3)) Wd.heap.size (.slice (some ⟨Wd.heap.size, 0, none⟩) 0 0) []) := hid (ro_lit HB0.out.size)
          generalize Wd.alloc (.cells #[] 3) = W1 at HB1' HE1 hHeld ⊢
          refine norm_ (a' := ?_) ?_ ?_
          rotate_left
          · show Act.put _ (some 35) _ = _
            simp only [Act.put, List.setIfInBounds_toArray, List.set_cons_zero, List.set_cons_succ]
            rfl
          have HB1 := hid HB1'.out.1
          refine two_ (i := 2) (j := 8) (Ni := some 37) (Nj := some 43) #[true, true, true, true, true, true, true, true, false, false, false] #[true, true, false, true, true, true, true, true, true, false, false] rfl rfl rfl rfl (two_of HT_.out (by kernel_rfl)) (by decide) (by decide) (fun K_ hK => ?_) (fun K_ hK => ?_)
          · refine Kd.R_append_rows_step (Kd.int .i64) (w0 := Wd) Wd.heap.size rfl (.tmp 35) (.tmp 36) 30 3 (.int .i64 0) 8 rfl Try.underlying30 info3 rfl (by decide) (by omega) (.slice (some ⟨Wd.heap.size, 0, none⟩) 0 0) [] b PA b.length PC (fun _ => True) (fun _ => False) rfl rfl HE1.out (Kd.C_below HC3.out HB1.out) (fun _ _ h => h) (fun _ h => h.elim) (fun _ _ => trivial) HB1.out HB1.out.size (by have h_ := HXL.out; rw [List.length_nil]; omega) ?_
            intro v37 W2 ho hb hg hat
            obtain ⟨A7, c7, rfl⟩ := Kd.R_slice ho
            have HB2 := hid hb
            have HE2 : Hid (Ro W2 Wd.heap.size (.slice A7 ([] ++ b).length c7) ([] ++ b)) := hid ho
            clear ho hb hg hat
            refine hK.out _ _ (HKEY.out _ (H3.out.later HB2.out).below) (fun hHeld => ?_)
            clear hK K_
            refine norm_ (a' := ?_) ?_ ?_
            rotate_left
            · show Act.put _ (some 37) _ = _
              simp only [Act.put, List.setIfInBounds_toArray, List.set_cons_zero, List.set_cons_succ]
              rfl
            refine one_ (i := 8) (N := some 43) #[true, true, true, true, true, true, true, true, true, false, false] rfl rfl (one_of HT_.out (by kernel_rfl)) (by decide) (fun K_ hK => ?_)
            refine value_ (w1 := ?_) (v := ?_) (by rfl) rfl ?_ ?_
            rotate_left 2
            · go_simp
              constructor
              · rfl
              · rfl
            refine hK.out _ _ (HKEY.out _ (H3.out.later (HB2.out.alloc HB2.out.size _)).below) (fun hHeld => ?_)
            clear hK K_
            have HB3' : Hid (Below Wd.heap.size Wd (W2.alloc (.cells #[.int .i64 key] 3)) ∧ W2.heap.size < (W2.alloc (.cells #[.int .i64 key] 3)).heap.size) := hid ⟨HB2.out.alloc HB2.out.size _, by simp⟩
            have HK3 : Hid (Blk (W2.alloc (.cells #[.int .i64 key] 3)) W2.heap.size #[.int .i64 key] 3) := hid (Blk.new _ _ _)
            have HE3 : Hid (Ro (W2.alloc (.cells #[.int .i64 key] 3)) Wd.heap.size (.slice A7 ([] ++ b).length c7) ([] ++ b)) := hid (Kd.R_alloc HE2.out _)
            generalize W2.alloc (.cells #[.int .i64 key] 3) = W3 at HB3' HK3 HE3 hHeld ⊢
            refine norm_ (a' := ?_) ?_ ?_
            rotate_left
            · show Act.put _ (some 43) _ = _
              simp only [Act.put, List.setIfInBounds_toArray, List.set_cons_zero, List.set_cons_succ]
              rfl
            have HB3 := hid HB3'.out.1
            refine one_ (i := 9) (N := some 44) #[true, true, true, true, true, true, true, true, true, true, false] rfl rfl (one_of HT_.out (by kernel_rfl)) (by decide) (fun K_ hK => ?_)
            refine Row.append_int rfl (.tmp 37) (.tmp 43) 30 3 rfl Try.underlying30 info3 Wd.heap.size (.slice A7 ([] ++ b).length c7) ([] ++ b) key (fun _ => True) W3 rfl HE3.out ⟨W2.heap.size, 0, none⟩ 1 rfl (HK3.out.cell 0) (by have h_ := HXL.out; rw [List.nil_append]; omega) HB3.out.size ?_
            intro v9 W8 ho hg hat
            obtain ⟨A9, c9, rfl⟩ := Kd.R_slice ho
            have HB9 : Hid (Below Wd.heap.size Wd W8) := hid (HB3.out.trans ((Fr.of_grown hg).below HB3.out.size (fun k hk => Kd.R_base HE3.out k hk.symm)))
            have HE9 := hid ho
            clear ho hg hat
            refine hK.out _ _ (HKEY.out _ (H3.out.later HB9.out).below) (fun hHeld => ?_)
            clear hK K_
            refine norm_ (a' := ?_) ?_ ?_
            rotate_left
            · show Act.put _ (some 44) _ = _
              simp only [Act.put, List.setIfInBounds_toArray, List.set_cons_zero, List.set_cons_succ]
              rfl
            refine pure_ (i := 10) (N := some 8) (v := ?_) (a' := ?_) #[true, true, true, true, true, true, true, true, true, true, true] rfl rfl (any_of HT_.out (by kernel_rfl)) (fun _ _ _ h => h) (Or.inl ⟨by rfl, ?_⟩) ?_ ?_
            rotate_left
            · intro w'
              go_simp
              with_reducible rfl
            rotate_left
            · simp only [Act.put, List.setIfInBounds_toArray, List.set_cons_zero, List.set_cons_succ]
              rfl
            refine done_ (done_of HT_.out (by kernel_rfl)) ?_
            clear HT_ HW_
            clear hHeld
            have HP8 : Hid (Lies W8 (A9, b.length + 1, c9) (b ++ [key])) := by
              have h_ := Lies.of HE9.out
              have hl_ : ([] ++ b ++ [key]).length = b.length + 1 := by simp
              rw [hl_] at h_
              exact hid h_
            have H8 := hid (H3.out.later HB9.out)
            have HQ8 := HP
            clear HB9 HE9 H3 HC3 HKEY
            go_upto_region 23 with fail
            have s0 : W8.cell? ⟨g, j, none⟩ = some (slV (PA, b.length, PC)) := sl_cell H8.out.all j HQ8.out
            have s1 : W8.frozen? ⟨g, j, none⟩ = false := sl_free H8.out.all j (List.getElem?_eq_some_iff.1 HQ8.out).1
            have sj : (j : Int) < (n : Nat) := by have := (Kd.R_reads' H8.out.all).1; have := (List.getElem?_eq_some_iff.1 HQ8.out).1; omega
            have H9 := hid (H8.out.put HQ8.out HP8.out)
            clear H8
            go_upto_region 24 with fail
            clear s0 s1 sj
            change Code.wp _ _ _ _ (W8.setCell ⟨g, j, none⟩ (slV (A9, b.length + 1, c9)))
            generalize W8.setCell ⟨g, j, none⟩ (slV (A9, b.length + 1, c9)) = W9 at H9 ⊢
            have p0 : W9.cell? ⟨s, 0, none⟩ = some (.int .i64 0) := H9.out.x6.cell 0
            have p1 : W9.cell? ⟨s, 1, none⟩ = some (.bool false) := H9.out.x6.cell 1
            have p2 : W9.cell? ⟨s, 2, none⟩ = some (.slice none 0 0) := H9.out.x6.cell 2
            have p3 : W9.cell? ⟨s, 3, none⟩ = some (.slice none 0 0) := H9.out.x6.cell 3
            have HQ : Hid (rs ++ [(0, false)] ++ toldS (L.set j (b ++ [key])) (l.drop (i + 1)) = toldS [[]] l) := by
              have h1 := HI2.out.1
              rw [HD.out] at h1
              simp only [toldS] at h1
              rw [HT.out.1, HT.out.2.1] at h1
              rw [List.append_assoc]
              exact hid h1
            go_wp2_with ((with_reducible refine gate_builtin (b := .append) (xs := #[.tmp 89, .tmp 91]) rfl ?_); at_builtin; refine Kd.R_append (W := W9) seenN (w0 := W9) w.heap.size rfl (.tmp 89) (.tmp 91) 24 34 (.agg #[(.int .i64 0), (.bool false), (.slice none 0 0), (.slice none 0 0)]) 64 rfl undSeens infoSeen rfl (by decide) (by omega) u4 rs (0, false) [.int .i64 0, .bool false, .slice none 0 0, .slice none 0 0] (fun _ => True) (fun _ => False) rfl rfl ?aP (fun _ hk => hk.elim) (fun _ _ => trivial) ?aO ?aB ?aS ?aL ?_; (case aP => exact rfl); (case aO => exact H9.out.out); (case aB => exact Below.refl _ _); (case aS => exact H9.out.big); (case aL => have h1_ := HI2.out.2.2.2; have h2_ := HIN.out; omega); intro v1 w4 ho _ hg hat; have H10 := hid (H9.out.told ho hg); clear ho hg hat)
            have H11 : Hid (Rs w.heap.size w l (i + 1) (ps.set j (A9, b.length + 1, c9)) (L.set j (b ++ [key])) (.slice (some ⟨g, 0, none⟩) n c3) v1 (rs ++ [(0, false)]) w4) :=
              hid ⟨H10.out.1, H10.out.2.1, H10.out.2.2.1, H10.out.2.2.2.1, H10.out.2.2.2.2, HQ.out, HT.out.2.2.1, HT.out.2.2.2, by rw [List.length_append, HI2.out.2.2.2]; rfl⟩
            have hi1 := HIN.out
            go_roundg k1
            case measure => omega
            case rel => exact ⟨i + 1, _, _, _, rfl, HIN.out, by have := HG.out; show k1 + (i + 1) = l.length; omega, H11⟩
          · refine value_ (w1 := ?_) (v := ?_) (by rfl) rfl ?_ ?_
            rotate_left 2
            · go_simp
              constructor
              · rfl
              · rfl
            refine hK.out _ _ (HKEY.out _ (H3.out.later (HB1.out.alloc HB1.out.size _)).below) (fun hHeld => ?_)
            clear hK K_
            have HB2' : Hid (Below Wd.heap.size Wd (W1.alloc (.cells #[.int .i64 key] 3)) ∧ W1.heap.size < (W1.alloc (.cells #[.int .i64 key] 3)).heap.size) := hid ⟨HB1.out.alloc HB1.out.size _, by simp⟩
            have HK2 : Hid (Blk (W1.alloc (.cells #[.int .i64 key] 3)) W1.heap.size #[.int .i64 key] 3) := hid (Blk.new _ _ _)
            have HE2 : Hid (Ro (W1.alloc (.cells #[.int .i64 key] 3)) Wd.heap.size (.slice (some ⟨Wd.heap.size, 0, none⟩) 0 0) []) := hid (Kd.R_alloc HE1.out _)
            generalize W1.alloc (.cells #[.int .i64 key] 3) = W2 at HB2' HK2 HE2 hHeld ⊢
            refine norm_ (a' := ?_) ?_ ?_
            rotate_left
            · show Act.put _ (some 43) _ = _
              simp only [Act.put, List.setIfInBounds_toArray, List.set_cons_zero, List.set_cons_succ]
              rfl
            have HB2 := hid HB2'.out.1
            refine one_ (i := 2) (N := some 37) #[true, true, true, true, true, true, true, true, true, false, false] rfl rfl (one_of HT_.out (by kernel_rfl)) (by decide) (fun K_ hK => ?_)
            refine Kd.R_append_rows_step (Kd.int .i64) (w0 := Wd) Wd.heap.size rfl (.tmp 35) (.tmp 36) 30 3 (.int .i64 0) 8 rfl Try.underlying30 info3 rfl (by decide) (by omega) (.slice (some ⟨Wd.heap.size, 0, none⟩) 0 0) [] b PA b.length PC (fun _ => True) (fun _ => False) rfl rfl HE2.out (Kd.C_below HC3.out HB2.out) (fun _ _ h => h) (fun _ h => h.elim) (fun _ _ => trivial) HB2.out HB2.out.size (by have h_ := HXL.out; rw [List.length_nil]; omega) ?_
            intro v37 W3 ho hb hg hat
            obtain ⟨A7, c7, rfl⟩ := Kd.R_slice ho
            have HB3 := hid hb
            have HE3 : Hid (Ro W3 Wd.heap.size (.slice A7 ([] ++ b).length c7) ([] ++ b)) := hid ho
            have HK3 : Hid (Blk W3 W1.heap.size #[.int .i64 key] 3) := hid (HK2.out.fr (Fr.of_grown hg) (fun e => by have e2 : W1.heap.size = Wd.heap.size := (by simpa [Value.ownBlock] using e); have := HB1'.out.2; omega))
            clear ho hb hg hat
            refine hK.out _ _ (HKEY.out _ (H3.out.later HB3.out).below) (fun hHeld => ?_)
            clear hK K_
            refine norm_ (a' := ?_) ?_ ?_
            rotate_left
            · show Act.put _ (some 37) _ = _
              simp only [Act.put, List.setIfInBounds_toArray, List.set_cons_zero, List.set_cons_succ]
              rfl
            refine one_ (i := 9) (N := some 44) #[true, true, true, true, true, true, true, true, true, true, false] rfl rfl (one_of HT_.out (by kernel_rfl)) (by decide) (fun K_ hK => ?_)
            refine Row.append_int rfl (.tmp 37) (.tmp 43) 30 3 rfl Try.underlying30 info3 Wd.heap.size (.slice A7 ([] ++ b).length c7) ([] ++ b) key (fun _ => True) W3 rfl HE3.out ⟨W1.heap.size, 0, none⟩ 1 rfl (HK3.out.cell 0) (by have h_ := HXL.out; rw [List.nil_append]; omega) HB3.out.size ?_
            intro v9 W8 ho hg hat
            obtain ⟨A9, c9, rfl⟩ := Kd.R_slice ho
            have HB9 : Hid (Below Wd.heap.size Wd W8) := hid (HB3.out.trans ((Fr.of_grown hg).below HB3.out.size (fun k hk => Kd.R_base HE3.out k hk.symm)))
            have HE9 := hid ho
            clear ho hg hat
            refine hK.out _ _ (HKEY.out _ (H3.out.later HB9.out).below) (fun hHeld => ?_)
            clear hK K_
            refine norm_ (a' := ?_) ?_ ?_
            rotate_left
            · show Act.put _ (some 44) _ = _
              simp only [Act.put, List.setIfInBounds_toArray, List.set_cons_zero, List.set_cons_succ]
              rfl
            refine pure_ (i := 10) (N := some 8) (v := ?_) (a' := ?_) #[true, true, true, true, true, true, true, true, true, true, true] rfl rfl (any_of HT_.out (by kernel_rfl)) (fun _ _ _ h => h) (Or.inl ⟨by rfl, ?_⟩) ?_ ?_
            rotate_left
            · intro w'
              go_simp
              with_reducible rfl
            rotate_left
            · simp only [Act.put, List.setIfInBounds_toArray, List.set_cons_zero, List.set_cons_succ]
              rfl
            refine done_ (done_of HT_.out (by kernel_rfl)) ?_
            clear HT_ HW_
            clear hHeld
            have HP8 : Hid (Lies W8 (A9, b.length + 1, c9) (b ++ [key])) := by
              have h_ := Lies.of HE9.out
              have hl_ : ([] ++ b ++ [key]).length = b.length + 1 := by simp
              rw [hl_] at h_
              exact hid h_
            have H8 := hid (H3.out.later HB9.out)
            have HQ8 := HP
            clear HB9 HE9 H3 HC3 HKEY
            go_upto_region 23 with fail
            have s0 : W8.cell? ⟨g, j, none⟩ = some (slV (PA, b.length, PC)) := sl_cell H8.out.all j HQ8.out
            have s1 : W8.frozen? ⟨g, j, none⟩ = false := sl_free H8.out.all j (List.getElem?_eq_some_iff.1 HQ8.out).1
            have sj : (j : Int) < (n : Nat) := by have := (Kd.R_reads' H8.out.all).1; have := (List.getElem?_eq_some_iff.1 HQ8.out).1; omega
            have H9 := hid (H8.out.put HQ8.out HP8.out)
            clear H8
            go_upto_region 24 with fail
            clear s0 s1 sj
            change Code.wp _ _ _ _ (W8.setCell ⟨g, j, none⟩ (slV (A9, b.length + 1, c9)))
            generalize W8.setCell ⟨g, j, none⟩ (slV (A9, b.length + 1, c9)) = W9 at H9 ⊢
            have p0 : W9.cell? ⟨s, 0, none⟩ = some (.int .i64 0) := H9.out.x6.cell 0
            have p1 : W9.cell? ⟨s, 1, none⟩ = some (.bool false) := H9.out.x6.cell 1
            have p2 : W9.cell? ⟨s, 2, none⟩ = some (.slice none 0 0) := H9.out.x6.cell 2
            have p3 : W9.cell? ⟨s, 3, none⟩ = some (.slice none 0 0) := H9.out.x6.cell 3
            have HQ : Hid (rs ++ [(0, false)] ++ toldS (L.set j (b ++ [key])) (l.drop (i + 1)) = toldS [[]] l) := by
              have h1 := HI2.out.1
              rw [HD.out] at h1
              simp only [toldS] at h1
              rw [HT.out.1, HT.out.2.1] at h1
              rw [List.append_assoc]
              exact hid h1
            go_wp2_with ((with_reducible refine gate_builtin (b := .append) (xs := #[.tmp 89, .tmp 91]) rfl ?_); at_builtin; refine Kd.R_append (W := W9) seenN (w0 := W9) w.heap.size rfl (.tmp 89) (.tmp 91) 24 34 (.agg #[(.int .i64 0), (.bool false), (.slice none 0 0), (.slice none 0 0)]) 64 rfl undSeens infoSeen rfl (by decide) (by omega) u4 rs (0, false) [.int .i64 0, .bool false, .slice none 0 0, .slice none 0 0] (fun _ => True) (fun _ => False) rfl rfl ?aP (fun _ hk => hk.elim) (fun _ _ => trivial) ?aO ?aB ?aS ?aL ?_; (case aP => exact rfl); (case aO => exact H9.out.out); (case aB => exact Below.refl _ _); (case aS => exact H9.out.big); (case aL => have h1_ := HI2.out.2.2.2; have h2_ := HIN.out; omega); intro v1 w4 ho _ hg hat; have H10 := hid (H9.out.told ho hg); clear ho hg hat)
            have H11 : Hid (Rs w.heap.size w l (i + 1) (ps.set j (A9, b.length + 1, c9)) (L.set j (b ++ [key])) (.slice (some ⟨g, 0, none⟩) n c3) v1 (rs ++ [(0, false)]) w4) :=
              hid ⟨H10.out.1, H10.out.2.1, H10.out.2.2.1, H10.out.2.2.2.1, H10.out.2.2.2.2, HQ.out, HT.out.2.2.1, HT.out.2.2.2, by rw [List.length_append, HI2.out.2.2.2]; rfl⟩
            have hi1 := HIN.out
            go_roundg k1
            case measure => omega
            case rel => exact ⟨i + 1, _, _, _, rfl, HIN.out, by have := HG.out; show k1 + (i + 1) = l.length; omega, H11⟩
        · refine value_ (w1 := ?_) (v := ?_) (by rfl) rfl ?_ ?_
          rotate_left 2
          · go_simp
            constructor
            · rfl
            · rfl
          refine hK.out _ _ (HKEY.out _ (H3.out.later (HB0.out.alloc HB0.out.size _)).below) (fun hHeld => ?_)
          clear hK K_
          have HB1' : Hid (Below Wd.heap.size Wd (Wd.alloc (.cells #[.int .i64 key] 3)) ∧ Wd.heap.size < (Wd.alloc (.cells #[.int .i64 key] 3)).heap.size) := hid ⟨HB0.out.alloc HB0.out.size _, by simp⟩
          have HK1 : Hid (Blk (Wd.alloc (.cells #[.int .i64 key] 3)) Wd.heap.size #[.int .i64 key] 3) := hid (Blk.new _ _ _)
          generalize Wd.alloc (.cells #[.int .i64 key] 3) = W1 at HB1' HK1 hHeld ⊢
          refine norm_ (a' := ?_) ?_ ?_
          rotate_left
          · show Act.put _ (some 43) _ = _
            simp only [Act.put, List.setIfInBounds_toArray, List.set_cons_zero, List.set_cons_succ]
            rfl
          have HB1 := hid HB1'.out.1
          refine one_ (i := 0) (N := some 35) #[true, true, false, true, true, true, true, true, true, false, false] rfl rfl (one_of HT_.out (by kernel_rfl)) (by decide) (fun K_ hK => ?_)
          refine value_ (w1 := ?_) (v := ?_) (by rfl) rfl ?_ ?_
          rotate_left 2
          · go_simp
            constructor
            · rfl
            · rfl
          refine hK.out _ _ (HKEY.out _ (H3.out.later (HB1.out.alloc HB1.out.size _)).below) (fun hHeld => ?_)
          clear hK K_
          have HB2' : Hid (Below Wd.heap.size Wd (W1.alloc (.cells #[] 3)) ∧ W1.heap.size < (W1.alloc (.cells #[] 3)).heap.size) := hid ⟨HB1.out.alloc HB1.out.size _, by simp⟩
          have HE2 : Hid (Ro (W1.alloc (.cells #[] 3)) Wd.heap.size (.slice (some ⟨W1.heap.size, 0, none⟩) 0 0) []) := hid (ro_lit HB1.out.size)
          have HK2 : Hid (Blk (W1.alloc (.cells #[] 3)) Wd.heap.size #[.int .i64 key] 3) := hid (HK1.out.alloc _)
          generalize W1.alloc (.cells #[] 3) = W2 at HB2' HE2 HK2 hHeld ⊢
          refine norm_ (a' := ?_) ?_ ?_
          rotate_left
          · show Act.put _ (some 35) _ = _
            simp only [Act.put, List.setIfInBounds_toArray, List.set_cons_zero, List.set_cons_succ]
            rfl
          have HB2 := hid HB2'.out.1
          refine one_ (i := 2) (N := some 37) #[true, true, true, true, true, true, true, true, true, false, false] rfl rfl (one_of HT_.out (by kernel_rfl)) (by decide) (fun K_ hK => ?_)
          refine Kd.R_append_rows_step (Kd.int .i64) (w0 := Wd) Wd.heap.size rfl (.tmp 35) (.tmp 36) 30 3 (.int .i64 0) 8 rfl Try.underlying30 info3 rfl (by decide) (by omega) (.slice (some ⟨W1.heap.size, 0, none⟩) 0 0) [] b PA b.length PC (fun _ => True) (fun _ => False) rfl rfl HE2.out (Kd.C_below HC3.out HB2.out) (fun _ _ h => h) (fun _ h => h.elim) (fun _ _ => trivial) HB2.out HB2.out.size (by have h_ := HXL.out; rw [List.length_nil]; omega) ?_
          intro v37 W3 ho hb hg hat
          obtain ⟨A7, c7, rfl⟩ := Kd.R_slice ho
          have HB3 := hid hb
          have HE3 : Hid (Ro W3 Wd.heap.size (.slice A7 ([] ++ b).length c7) ([] ++ b)) := hid ho
          have HK3 : Hid (Blk W3 Wd.heap.size #[.int .i64 key] 3) := hid (HK2.out.fr (Fr.of_grown hg) (fun e => by have e2 : Wd.heap.size = W1.heap.size := (by simpa [Value.ownBlock] using e); have := HB1'.out.2; omega))
          clear ho hb hg hat
          refine hK.out _ _ (HKEY.out _ (H3.out.later HB3.out).below) (fun hHeld => ?_)
          clear hK K_
          refine norm_ (a' := ?_) ?_ ?_
          rotate_left
          · show Act.put _ (some 37) _ = _
            simp only [Act.put, List.setIfInBounds_toArray, List.set_cons_zero, List.set_cons_succ]
            rfl
          refine one_ (i := 9) (N := some 44) #[true, true, true, true, true, true, true, true, true, true, false] rfl rfl (one_of HT_.out (by kernel_rfl)) (by decide) (fun K_ hK => ?_)
          refine Row.append_int rfl (.tmp 37) (.tmp 43) 30 3 rfl Try.underlying30 info3 Wd.heap.size (.slice A7 ([] ++ b).length c7) ([] ++ b) key (fun _ => True) W3 rfl HE3.out ⟨Wd.heap.size, 0, none⟩ 1 rfl (HK3.out.cell 0) (by have h_ := HXL.out; rw [List.nil_append]; omega) HB3.out.size ?_
          intro v9 W8 ho hg hat
          obtain ⟨A9, c9, rfl⟩ := Kd.R_slice ho
          have HB9 : Hid (Below Wd.heap.size Wd W8) := hid (HB3.out.trans ((Fr.of_grown hg).below HB3.out.size (fun k hk => Kd.R_base HE3.out k hk.symm)))
          have HE9 := hid ho
          clear ho hg hat
          refine hK.out _ _ (HKEY.out _ (H3.out.later HB9.out).below) (fun hHeld => ?_)
          clear hK K_
          refine norm_ (a' := ?_) ?_ ?_
          rotate_left
          · show Act.put _ (some 44) _ = _
            simp only [Act.put, List.setIfInBounds_toArray, List.set_cons_zero, List.set_cons_succ]
            rfl
          refine pure_ (i := 10) (N := some 8) (v := ?_) (a' := ?_) #[true, true, true, true, true, true, true, true, true, true, true] rfl rfl (any_of HT_.out (by kernel_rfl)) (fun _ _ _ h => h) (Or.inl ⟨by rfl, ?_⟩) ?_ ?_
          rotate_left
          · intro w'
            go_simp
            with_reducible rfl
          rotate_left
          · simp only [Act.put, List.setIfInBounds_toArray, List.set_cons_zero, List.set_cons_succ]
            rfl
          refine done_ (done_of HT_.out (by kernel_rfl)) ?_
          clear HT_ HW_
          clear hHeld
          have HP8 : Hid (Lies W8 (A9, b.length + 1, c9) (b ++ [key])) := by
            have h_ := Lies.of HE9.out
            have hl_ : ([] ++ b ++ [key]).length = b.length + 1 := by simp
            rw [hl_] at h_
            exact hid h_
          have H8 := hid (H3.out.later HB9.out)
          have HQ8 := HP
          clear HB9 HE9 H3 HC3 HKEY
          go_upto_region 23 with fail
          have s0 : W8.cell? ⟨g, j, none⟩ = some (slV (PA, b.length, PC)) := sl_cell H8.out.all j HQ8.out
          have s1 : W8.frozen? ⟨g, j, none⟩ = false := sl_free H8.out.all j (List.getElem?_eq_some_iff.1 HQ8.out).1
          have sj : (j : Int) < (n : Nat) := by have := (Kd.R_reads' H8.out.all).1; have := (List.getElem?_eq_some_iff.1 HQ8.out).1; omega
          have H9 := hid (H8.out.put HQ8.out HP8.out)
          clear H8
          go_upto_region 24 with fail
          clear s0 s1 sj
          change Code.wp _ _ _ _ (W8.setCell ⟨g, j, none⟩ (slV (A9, b.length + 1, c9)))
          generalize W8.setCell ⟨g, j, none⟩ (slV (A9, b.length + 1, c9)) = W9 at H9 ⊢
          have p0 : W9.cell? ⟨s, 0, none⟩ = some (.int .i64 0) := H9.out.x6.cell 0
          have p1 : W9.cell? ⟨s, 1, none⟩ = some (.bool false) := H9.out.x6.cell 1
          have p2 : W9.cell? ⟨s, 2, none⟩ = some (.slice none 0 0) := H9.out.x6.cell 2
          have p3 : W9.cell? ⟨s, 3, none⟩ = some (.slice none 0 0) := H9.out.x6.cell 3
          have HQ : Hid (rs ++ [(0, false)] ++ toldS (L.set j (b ++ [key])) (l.drop (i + 1)) = toldS [[]] l) := by
            have h1 := HI2.out.1
            rw [HD.out] at h1
            simp only [toldS] at h1
            rw [HT.out.1, HT.out.2.1] at h1
            rw [List.append_assoc]
            exact hid h1
          go_wp2_with ((with_reducible refine gate_builtin (b := .append) (xs := #[.tmp 89, .tmp 91]) rfl ?_); at_builtin; refine Kd.R_append (W := W9) seenN (w0 := W9) w.heap.size rfl (.tmp 89) (.tmp 91) 24 34 (.agg #[(.int .i64 0), (.bool false), (.slice none 0 0), (.slice none 0 0)]) 64 rfl undSeens infoSeen rfl (by decide) (by omega) u4 rs (0, false) [.int .i64 0, .bool false, .slice none 0 0, .slice none 0 0] (fun _ => True) (fun _ => False) rfl rfl ?aP (fun _ hk => hk.elim) (fun _ _ => trivial) ?aO ?aB ?aS ?aL ?_; (case aP => exact rfl); (case aO => exact H9.out.out); (case aB => exact Below.refl _ _); (case aS => exact H9.out.big); (case aL => have h1_ := HI2.out.2.2.2; have h2_ := HIN.out; omega); intro v1 w4 ho _ hg hat; have H10 := hid (H9.out.told ho hg); clear ho hg hat)
          have H11 : Hid (Rs w.heap.size w l (i + 1) (ps.set j (A9, b.length + 1, c9)) (L.set j (b ++ [key])) (.slice (some ⟨g, 0, none⟩) n c3) v1 (rs ++ [(0, false)]) w4) :=
            hid ⟨H10.out.1, H10.out.2.1, H10.out.2.2.1, H10.out.2.2.2.1, H10.out.2.2.2.2, HQ.out, HT.out.2.2.1, HT.out.2.2.2, by rw [List.length_append, HI2.out.2.2.2]; rfl⟩
          have hi1 := HIN.out
          go_roundg k1
          case measure => omega
          case rel => exact ⟨i + 1, _, _, _, rfl, HIN.out, by have := HG.out; show k1 + (i + 1) = l.length; omega, H11⟩
      · have hz0 : (d == 0) = false := beq_eq_false_iff_ne.2 h0
        by_cases h1 : d = 1
        · subst h1
          by_cases hb0 : b.length = 0
          · have HTOP : Hid (StackPure.top b = 0 ∧ b.take (b.length - 1) = b) := by rw [List.length_eq_zero_iff.1 hb0]; exact hid ⟨rfl, rfl⟩
            have HT : Hid (stepS L (o, 1, key, val) = L.set j (b) ∧ tellS L (o, 1, key, val) = (0, false) ∧ (L.set j (b) ≠ [] ∧ (L.set j (b)).length ≤ i + 1 + 1) ∧ ∀ (j' : Nat) (k : List Int), (L.set j (b))[j']? = some k → k.length ≤ i + 1) := by
              refine hid ⟨?_, ?_, set_okL HI2.out.2.1, set_eachL HI2.out.2.2.1 (Nat.le_succ_of_le HXL.out)⟩
              · simp only [stepS]; rw [HON.out.1, HON.out.2, HTOP.out.2]; rfl
              · simp only [tellS]; rw [HON.out.1, HON.out.2]; rw [← HTOP.out.1]; rfl
            have hz0 : ¬ (0 : Int) < (b.length : Int) := by omega
            have hd0 : decide ((0 : Int) < (b.length : Int)) = false := by simpa using hz0
            clear hb0
            go_upto_region 23 with fail
            clear x0 x1 pc hd0 hz0
            obtain ⟨W8, rfl⟩ : ∃ W8, W8 = W := ⟨_, rfl⟩
            have H8 := H2
            have HQ8 := HP
            have HP8 := HLI
            clear H2 HLI
            have s0 : W8.cell? ⟨g, j, none⟩ = some (slV (PA, b.length, PC)) := sl_cell H8.out.all j HQ8.out
            have s1 : W8.frozen? ⟨g, j, none⟩ = false := sl_free H8.out.all j (List.getElem?_eq_some_iff.1 HQ8.out).1
            have sj : (j : Int) < (n : Nat) := by have := (Kd.R_reads' H8.out.all).1; have := (List.getElem?_eq_some_iff.1 HQ8.out).1; omega
            have H9 := hid (H8.out.put HQ8.out HP8.out)
            clear H8
            go_upto_region 24 with fail
            clear s0 s1 sj
            change Code.wp _ _ _ _ (W8.setCell ⟨g, j, none⟩ (slV (PA, b.length, PC)))
            generalize W8.setCell ⟨g, j, none⟩ (slV (PA, b.length, PC)) = W9 at H9 ⊢
            have p0 : W9.cell? ⟨s, 0, none⟩ = some (.int .i64 0) := H9.out.x6.cell 0
            have p1 : W9.cell? ⟨s, 1, none⟩ = some (.bool false) := H9.out.x6.cell 1
            have p2 : W9.cell? ⟨s, 2, none⟩ = some (.slice none 0 0) := H9.out.x6.cell 2
            have p3 : W9.cell? ⟨s, 3, none⟩ = some (.slice none 0 0) := H9.out.x6.cell 3
            have HQ : Hid (rs ++ [(0, false)] ++ toldS (L.set j (b)) (l.drop (i + 1)) = toldS [[]] l) := by
              have h1 := HI2.out.1
              rw [HD.out] at h1
              simp only [toldS] at h1
              rw [HT.out.1, HT.out.2.1] at h1
              rw [List.append_assoc]
              exact hid h1
            go_wp2_with ((with_reducible refine gate_builtin (b := .append) (xs := #[.tmp 89, .tmp 91]) rfl ?_); at_builtin; refine Kd.R_append (W := W9) seenN (w0 := W9) w.heap.size rfl (.tmp 89) (.tmp 91) 24 34 (.agg #[(.int .i64 0), (.bool false), (.slice none 0 0), (.slice none 0 0)]) 64 rfl undSeens infoSeen rfl (by decide) (by omega) u4 rs (0, false) [.int .i64 0, .bool false, .slice none 0 0, .slice none 0 0] (fun _ => True) (fun _ => False) rfl rfl ?aP (fun _ hk => hk.elim) (fun _ _ => trivial) ?aO ?aB ?aS ?aL ?_; (case aP => exact rfl); (case aO => exact H9.out.out); (case aB => exact Below.refl _ _); (case aS => exact H9.out.big); (case aL => have h1_ := HI2.out.2.2.2; have h2_ := HIN.out; omega); intro v1 w4 ho _ hg hat; have H10 := hid (H9.out.told ho hg); clear ho hg hat)
            have H11 : Hid (Rs w.heap.size w l (i + 1) (ps.set j (PA, b.length, PC)) (L.set j (b)) (.slice (some ⟨g, 0, none⟩) n c3) v1 (rs ++ [(0, false)]) w4) :=
              hid ⟨H10.out.1, H10.out.2.1, H10.out.2.2.1, H10.out.2.2.2.1, H10.out.2.2.2.2, HQ.out, HT.out.2.2.1, HT.out.2.2.2, by rw [List.length_append, HI2.out.2.2.2]; rfl⟩
            have hi1 := HIN.out
            go_roundg k1
            case measure => omega
            case rel => exact ⟨i + 1, _, _, _, rfl, HIN.out, by have := HG.out; show k1 + (i + 1) = l.length; omega, H11⟩
          · obtain ⟨m, hm⟩ : ∃ m, b.length - 1 = m := ⟨_, rfl⟩
            obtain ⟨y, hy⟩ : ∃ y, at_ b m = y := ⟨_, rfl⟩
            have HTOP : Hid (StackPure.top b = y) := by rw [StackPure.top, hm]; exact hid hy
            have hq : (b.length : Int) - 1 = (m : Int) := by omega
            have hp2 : (m : Int) < (b.length : Int) := by omega
            have hp0 : (0 : Int) < (b.length : Int) := by omega
            obtain ⟨pad, hpa, hcy⟩ := HLI.out.cell (j := m) (by omega)
            rw [hy] at hcy
            have hPA : PA = some pad := hpa
            subst hPA
            have HM : Hid (b.length - 1 = m) := hid hm
            clear hm hy hpa
            have HT : Hid (stepS L (o, 1, key, val) = L.set j (b.take m) ∧ tellS L (o, 1, key, val) = (y, false) ∧ (L.set j (b.take m) ≠ [] ∧ (L.set j (b.take m)).length ≤ i + 1 + 1) ∧ ∀ (j' : Nat) (k : List Int), (L.set j (b.take m))[j']? = some k → k.length ≤ i + 1) := by
              refine hid ⟨?_, ?_, set_okL HI2.out.2.1, set_eachL HI2.out.2.2.1 (by rw [List.length_take]; have := HXL.out; omega)⟩
              · simp only [stepS]; rw [HON.out.1, HON.out.2, HM.out]; rfl
              · simp only [tellS]; rw [HON.out.1, HON.out.2]; rw [← HTOP.out]; rfl
            have f8 : W.frozen? ⟨s, 0, none⟩ = false := H2.out.x6.free 0
            have p8 : W.cell? ⟨s, 0, none⟩ = some (.int .i64 0) := H2.out.x6.cell 0
            have H8 := hid (H2.out.set6 (y))
            have HQ8 := HP
            have HP8 : Hid (Lies (W.setCell ⟨s, 0, none⟩ (.int .i64 (y))) (some pad, b.length, PC) b) := hid (H8.out.lies.2 j _ b HP.out HBL.out)
            have HMB : Hid (m ≤ b.length) := hid (by omega)
            go_upto_region 15 with fail
            clear hcy
            clear f8 p8 x0 x1 pc H2 HLI
            generalize W.setCell ⟨s, 0, none⟩ (.int .i64 (y)) = W8 at H8 HP8 ⊢
            have HP9 : Hid (Lies W8 (some pad, m, PC) (b.take m)) := hid (HP8.out.take HMB.out)
            obtain ⟨i3, hi3, _⟩ := Option.map_eq_some_iff.1 info3
            have hcut := cut_to (P := Try.prog) 30 3 .i64 Try.underlying30 hi3 (some pad) b.length PC (m : Int) (by omega) (by omega) HP8.out.cap
            rw [Int.toNat_natCast] at hcut
            clear hi3 HP8
            go_upto_region 23 with fail
            clear hcut hq hp2 hp0
            have HP8 := HP9
            clear HP9
            have s0 : W8.cell? ⟨g, j, none⟩ = some (slV (some pad, b.length, PC)) := sl_cell H8.out.all j HQ8.out
            have s1 : W8.frozen? ⟨g, j, none⟩ = false := sl_free H8.out.all j (List.getElem?_eq_some_iff.1 HQ8.out).1
            have sj : (j : Int) < (n : Nat) := by have := (Kd.R_reads' H8.out.all).1; have := (List.getElem?_eq_some_iff.1 HQ8.out).1; omega
            have H9 := hid (H8.out.put HQ8.out HP8.out)
            clear H8
            go_upto_region 24 with fail
            clear s0 s1 sj
            change Code.wp _ _ _ _ (W8.setCell ⟨g, j, none⟩ (slV (some pad, m, PC)))
            generalize W8.setCell ⟨g, j, none⟩ (slV (some pad, m, PC)) = W9 at H9 ⊢
            have p0 : W9.cell? ⟨s, 0, none⟩ = some (.int .i64 y) := H9.out.x6.cell 0
            have p1 : W9.cell? ⟨s, 1, none⟩ = some (.bool false) := H9.out.x6.cell 1
            have p2 : W9.cell? ⟨s, 2, none⟩ = some (.slice none 0 0) := H9.out.x6.cell 2
            have p3 : W9.cell? ⟨s, 3, none⟩ = some (.slice none 0 0) := H9.out.x6.cell 3
            have HQ : Hid (rs ++ [(y, false)] ++ toldS (L.set j (b.take m)) (l.drop (i + 1)) = toldS [[]] l) := by
              have h1 := HI2.out.1
              rw [HD.out] at h1
              simp only [toldS] at h1
              rw [HT.out.1, HT.out.2.1] at h1
              rw [List.append_assoc]
              exact hid h1
            go_wp2_with ((with_reducible refine gate_builtin (b := .append) (xs := #[.tmp 89, .tmp 91]) rfl ?_); at_builtin; refine Kd.R_append (W := W9) seenN (w0 := W9) w.heap.size rfl (.tmp 89) (.tmp 91) 24 34 (.agg #[(.int .i64 0), (.bool false), (.slice none 0 0), (.slice none 0 0)]) 64 rfl undSeens infoSeen rfl (by decide) (by omega) u4 rs (y, false) [.int .i64 y, .bool false, .slice none 0 0, .slice none 0 0] (fun _ => True) (fun _ => False) rfl rfl ?aP (fun _ hk => hk.elim) (fun _ _ => trivial) ?aO ?aB ?aS ?aL ?_; (case aP => exact rfl); (case aO => exact H9.out.out); (case aB => exact Below.refl _ _); (case aS => exact H9.out.big); (case aL => have h1_ := HI2.out.2.2.2; have h2_ := HIN.out; omega); intro v1 w4 ho _ hg hat; have H10 := hid (H9.out.told ho hg); clear ho hg hat)
            have H11 : Hid (Rs w.heap.size w l (i + 1) (ps.set j (some pad, m, PC)) (L.set j (b.take m)) (.slice (some ⟨g, 0, none⟩) n c3) v1 (rs ++ [(y, false)]) w4) :=
              hid ⟨H10.out.1, H10.out.2.1, H10.out.2.2.1, H10.out.2.2.2.1, H10.out.2.2.2.2, HQ.out, HT.out.2.2.1, HT.out.2.2.2, by rw [List.length_append, HI2.out.2.2.2]; rfl⟩
            have hi1 := HIN.out
            go_roundg k1
            case measure => omega
            case rel => exact ⟨i + 1, _, _, _, rfl, HIN.out, by have := HG.out; show k1 + (i + 1) = l.length; omega, H11⟩
        · have hz1 : (d == 1) = false := beq_eq_false_iff_ne.2 h1
          by_cases h2 : d = 2
          · subst h2
            by_cases hb0 : b.length = 0
            · have HTOP : Hid (StackPure.top b = 0) := by rw [List.length_eq_zero_iff.1 hb0]; exact hid rfl
              have HT : Hid (stepS L (o, 2, key, val) = L.set j (b) ∧ tellS L (o, 2, key, val) = (0, false) ∧ (L.set j (b) ≠ [] ∧ (L.set j (b)).length ≤ i + 1 + 1) ∧ ∀ (j' : Nat) (k : List Int), (L.set j (b))[j']? = some k → k.length ≤ i + 1) := by
                refine hid ⟨?_, ?_, set_okL HI2.out.2.1, set_eachL HI2.out.2.2.1 (Nat.le_succ_of_le HXL.out)⟩
                · rw [set_same HBL.out]; rfl
                · simp only [tellS]; rw [HON.out.1, HON.out.2]; rw [← HTOP.out]; rfl
              have hz0 : ¬ (0 : Int) < (b.length : Int) := by omega
              have hd0 : decide ((0 : Int) < (b.length : Int)) = false := by simpa using hz0
              clear hb0
              go_upto_region 23 with fail
              clear x0 x1 pc hd0 hz0
              obtain ⟨W8, rfl⟩ : ∃ W8, W8 = W := ⟨_, rfl⟩
              have H8 := H2
              have HQ8 := HP
              have HP8 := HLI
              clear H2 HLI
              have s0 : W8.cell? ⟨g, j, none⟩ = some (slV (PA, b.length, PC)) := sl_cell H8.out.all j HQ8.out
              have s1 : W8.frozen? ⟨g, j, none⟩ = false := sl_free H8.out.all j (List.getElem?_eq_some_iff.1 HQ8.out).1
              have sj : (j : Int) < (n : Nat) := by have := (Kd.R_reads' H8.out.all).1; have := (List.getElem?_eq_some_iff.1 HQ8.out).1; omega
              have H9 := hid (H8.out.put HQ8.out HP8.out)
              clear H8
              go_upto_region 24 with fail
              clear s0 s1 sj
              change Code.wp _ _ _ _ (W8.setCell ⟨g, j, none⟩ (slV (PA, b.length, PC)))
              generalize W8.setCell ⟨g, j, none⟩ (slV (PA, b.length, PC)) = W9 at H9 ⊢
              have p0 : W9.cell? ⟨s, 0, none⟩ = some (.int .i64 0) := H9.out.x6.cell 0
              have p1 : W9.cell? ⟨s, 1, none⟩ = some (.bool false) := H9.out.x6.cell 1
              have p2 : W9.cell? ⟨s, 2, none⟩ = some (.slice none 0 0) := H9.out.x6.cell 2
              have p3 : W9.cell? ⟨s, 3, none⟩ = some (.slice none 0 0) := H9.out.x6.cell 3
              have HQ : Hid (rs ++ [(0, false)] ++ toldS (L.set j (b)) (l.drop (i + 1)) = toldS [[]] l) := by
                have h1 := HI2.out.1
                rw [HD.out] at h1
                simp only [toldS] at h1
                rw [HT.out.1, HT.out.2.1] at h1
                rw [List.append_assoc]
                exact hid h1
              go_wp2_with ((with_reducible refine gate_builtin (b := .append) (xs := #[.tmp 89, .tmp 91]) rfl ?_); at_builtin; refine Kd.R_append (W := W9) seenN (w0 := W9) w.heap.size rfl (.tmp 89) (.tmp 91) 24 34 (.agg #[(.int .i64 0), (.bool false), (.slice none 0 0), (.slice none 0 0)]) 64 rfl undSeens infoSeen rfl (by decide) (by omega) u4 rs (0, false) [.int .i64 0, .bool false, .slice none 0 0, .slice none 0 0] (fun _ => True) (fun _ => False) rfl rfl ?aP (fun _ hk => hk.elim) (fun _ _ => trivial) ?aO ?aB ?aS ?aL ?_; (case aP => exact rfl); (case aO => exact H9.out.out); (case aB => exact Below.refl _ _); (case aS => exact H9.out.big); (case aL => have h1_ := HI2.out.2.2.2; have h2_ := HIN.out; omega); intro v1 w4 ho _ hg hat; have H10 := hid (H9.out.told ho hg); clear ho hg hat)
              have H11 : Hid (Rs w.heap.size w l (i + 1) (ps.set j (PA, b.length, PC)) (L.set j (b)) (.slice (some ⟨g, 0, none⟩) n c3) v1 (rs ++ [(0, false)]) w4) :=
                hid ⟨H10.out.1, H10.out.2.1, H10.out.2.2.1, H10.out.2.2.2.1, H10.out.2.2.2.2, HQ.out, HT.out.2.2.1, HT.out.2.2.2, by rw [List.length_append, HI2.out.2.2.2]; rfl⟩
              have hi1 := HIN.out
              go_roundg k1
              case measure => omega
              case rel => exact ⟨i + 1, _, _, _, rfl, HIN.out, by have := HG.out; show k1 + (i + 1) = l.length; omega, H11⟩
            · obtain ⟨m, hm⟩ : ∃ m, b.length - 1 = m := ⟨_, rfl⟩
              obtain ⟨y, hy⟩ : ∃ y, at_ b m = y := ⟨_, rfl⟩
              have HTOP : Hid (StackPure.top b = y) := by rw [StackPure.top, hm]; exact hid hy
              have hq : (b.length : Int) - 1 = (m : Int) := by omega
              have hp2 : (m : Int) < (b.length : Int) := by omega
              have hp0 : (0 : Int) < (b.length : Int) := by omega
              obtain ⟨pad, hpa, hcy⟩ := HLI.out.cell (j := m) (by omega)
              rw [hy] at hcy
              have hPA : PA = some pad := hpa
              subst hPA
              have HM : Hid (b.length - 1 = m) := hid hm
              clear hm hy hpa
              have HT : Hid (stepS L (o, 2, key, val) = L.set j (b) ∧ tellS L (o, 2, key, val) = (y, false) ∧ (L.set j (b) ≠ [] ∧ (L.set j (b)).length ≤ i + 1 + 1) ∧ ∀ (j' : Nat) (k : List Int), (L.set j (b))[j']? = some k → k.length ≤ i + 1) := by
                refine hid ⟨?_, ?_, set_okL HI2.out.2.1, set_eachL HI2.out.2.2.1 (Nat.le_succ_of_le HXL.out)⟩
                · rw [set_same HBL.out]; rfl
                · simp only [tellS]; rw [HON.out.1, HON.out.2]; rw [← HTOP.out]; rfl
              have f8 : W.frozen? ⟨s, 0, none⟩ = false := H2.out.x6.free 0
              have p8 : W.cell? ⟨s, 0, none⟩ = some (.int .i64 0) := H2.out.x6.cell 0
              have H8 := hid (H2.out.set6 (y))
              have HQ8 := HP
              have HP8 : Hid (Lies (W.setCell ⟨s, 0, none⟩ (.int .i64 (y))) (some pad, b.length, PC) b) := hid (H8.out.lies.2 j _ b HP.out HBL.out)
              go_upto_region 23 with fail
              clear hcy
              clear f8 p8 x0 x1 pc H2 HLI
              generalize W.setCell ⟨s, 0, none⟩ (.int .i64 (y)) = W8 at H8 HP8 ⊢
              have s0 : W8.cell? ⟨g, j, none⟩ = some (slV (some pad, b.length, PC)) := sl_cell H8.out.all j HQ8.out
              have s1 : W8.frozen? ⟨g, j, none⟩ = false := sl_free H8.out.all j (List.getElem?_eq_some_iff.1 HQ8.out).1
              have sj : (j : Int) < (n : Nat) := by have := (Kd.R_reads' H8.out.all).1; have := (List.getElem?_eq_some_iff.1 HQ8.out).1; omega
              have H9 := hid (H8.out.put HQ8.out HP8.out)
              clear H8
              go_upto_region 24 with fail
              clear s0 s1 sj
              change Code.wp _ _ _ _ (W8.setCell ⟨g, j, none⟩ (slV (some pad, b.length, PC)))
              generalize W8.setCell ⟨g, j, none⟩ (slV (some pad, b.length, PC)) = W9 at H9 ⊢
              have p0 : W9.cell? ⟨s, 0, none⟩ = some (.int .i64 y) := H9.out.x6.cell 0
              have p1 : W9.cell? ⟨s, 1, none⟩ = some (.bool false) := H9.out.x6.cell 1
              have p2 : W9.cell? ⟨s, 2, none⟩ = some (.slice none 0 0) := H9.out.x6.cell 2
              have p3 : W9.cell? ⟨s, 3, none⟩ = some (.slice none 0 0) := H9.out.x6.cell 3
              have HQ : Hid (rs ++ [(y, false)] ++ toldS (L.set j (b)) (l.drop (i + 1)) = toldS [[]] l) := by
                have h1 := HI2.out.1
                rw [HD.out] at h1
                simp only [toldS] at h1
                rw [HT.out.1, HT.out.2.1] at h1
                rw [List.append_assoc]
                exact hid h1
              go_wp2_with ((with_reducible refine gate_builtin (b := .append) (xs := #[.tmp 89, .tmp 91]) rfl ?_); at_builtin; refine Kd.R_append (W := W9) seenN (w0 := W9) w.heap.size rfl (.tmp 89) (.tmp 91) 24 34 (.agg #[(.int .i64 0), (.bool false), (.slice none 0 0), (.slice none 0 0)]) 64 rfl undSeens infoSeen rfl (by decide) (by omega) u4 rs (y, false) [.int .i64 y, .bool false, .slice none 0 0, .slice none 0 0] (fun _ => True) (fun _ => False) rfl rfl ?aP (fun _ hk => hk.elim) (fun _ _ => trivial) ?aO ?aB ?aS ?aL ?_; (case aP => exact rfl); (case aO => exact H9.out.out); (case aB => exact Below.refl _ _); (case aS => exact H9.out.big); (case aL => have h1_ := HI2.out.2.2.2; have h2_ := HIN.out; omega); intro v1 w4 ho _ hg hat; have H10 := hid (H9.out.told ho hg); clear ho hg hat)
              have H11 : Hid (Rs w.heap.size w l (i + 1) (ps.set j (some pad, b.length, PC)) (L.set j (b)) (.slice (some ⟨g, 0, none⟩) n c3) v1 (rs ++ [(y, false)]) w4) :=
                hid ⟨H10.out.1, H10.out.2.1, H10.out.2.2.1, H10.out.2.2.2.1, H10.out.2.2.2.2, HQ.out, HT.out.2.2.1, HT.out.2.2.2, by rw [List.length_append, HI2.out.2.2.2]; rfl⟩
              have hi1 := HIN.out
              go_roundg k1
              case measure => omega
              case rel => exact ⟨i + 1, _, _, _, rfl, HIN.out, by have := HG.out; show k1 + (i + 1) = l.length; omega, H11⟩
          · have hz2 : (d == 2) = false := beq_eq_false_iff_ne.2 h2
            by_cases h3 : d = 3
            · subst h3
              have HT : Hid (stepS L (o, 3, key, val) = L.set j (b) ∧ tellS L (o, 3, key, val) = ((b.length : Int), false) ∧ (L.set j (b) ≠ [] ∧ (L.set j (b)).length ≤ i + 1 + 1) ∧ ∀ (j' : Nat) (k : List Int), (L.set j (b))[j']? = some k → k.length ≤ i + 1) := by
                refine hid ⟨?_, ?_, set_okL HI2.out.2.1, set_eachL HI2.out.2.2.1 (Nat.le_succ_of_le HXL.out)⟩
                · rw [set_same HBL.out]; rfl
                · simp only [tellS]; rw [HON.out.1, HON.out.2]; rfl
              have f8 : W.frozen? ⟨s, 0, none⟩ = false := H2.out.x6.free 0
              have p8 : W.cell? ⟨s, 0, none⟩ = some (.int .i64 0) := H2.out.x6.cell 0
              have H8 := hid (H2.out.set6 ((b.length : Int)))
              have HQ8 := HP
              have HP8 : Hid (Lies (W.setCell ⟨s, 0, none⟩ (.int .i64 ((b.length : Int)))) (PA, b.length, PC) b) := hid (H8.out.lies.2 j _ b HP.out HBL.out)
              go_upto_region 23 with fail
              clear f8 p8 x0 x1 pc H2 HLI
              generalize W.setCell ⟨s, 0, none⟩ (.int .i64 ((b.length : Int))) = W8 at H8 HP8 ⊢
              have s0 : W8.cell? ⟨g, j, none⟩ = some (slV (PA, b.length, PC)) := sl_cell H8.out.all j HQ8.out
              have s1 : W8.frozen? ⟨g, j, none⟩ = false := sl_free H8.out.all j (List.getElem?_eq_some_iff.1 HQ8.out).1
              have sj : (j : Int) < (n : Nat) := by have := (Kd.R_reads' H8.out.all).1; have := (List.getElem?_eq_some_iff.1 HQ8.out).1; omega
              have H9 := hid (H8.out.put HQ8.out HP8.out)
              clear H8
              go_upto_region 24 with fail
              clear s0 s1 sj
              change Code.wp _ _ _ _ (W8.setCell ⟨g, j, none⟩ (slV (PA, b.length, PC)))
              generalize W8.setCell ⟨g, j, none⟩ (slV (PA, b.length, PC)) = W9 at H9 ⊢
              have p0 : W9.cell? ⟨s, 0, none⟩ = some (.int .i64 (b.length : Int)) := H9.out.x6.cell 0
              have p1 : W9.cell? ⟨s, 1, none⟩ = some (.bool false) := H9.out.x6.cell 1
              have p2 : W9.cell? ⟨s, 2, none⟩ = some (.slice none 0 0) := H9.out.x6.cell 2
              have p3 : W9.cell? ⟨s, 3, none⟩ = some (.slice none 0 0) := H9.out.x6.cell 3
              have HQ : Hid (rs ++ [((b.length : Int), false)] ++ toldS (L.set j (b)) (l.drop (i + 1)) = toldS [[]] l) := by
                have h1 := HI2.out.1
                rw [HD.out] at h1
                simp only [toldS] at h1
                rw [HT.out.1, HT.out.2.1] at h1
                rw [List.append_assoc]
                exact hid h1
              go_wp2_with ((with_reducible refine gate_builtin (b := .append) (xs := #[.tmp 89, .tmp 91]) rfl ?_); at_builtin; refine Kd.R_append (W := W9) seenN (w0 := W9) w.heap.size rfl (.tmp 89) (.tmp 91) 24 34 (.agg #[(.int .i64 0), (.bool false), (.slice none 0 0), (.slice none 0 0)]) 64 rfl undSeens infoSeen rfl (by decide) (by omega) u4 rs ((b.length : Int), false) [.int .i64 (b.length : Int), .bool false, .slice none 0 0, .slice none 0 0] (fun _ => True) (fun _ => False) rfl rfl ?aP (fun _ hk => hk.elim) (fun _ _ => trivial) ?aO ?aB ?aS ?aL ?_; (case aP => exact rfl); (case aO => exact H9.out.out); (case aB => exact Below.refl _ _); (case aS => exact H9.out.big); (case aL => have h1_ := HI2.out.2.2.2; have h2_ := HIN.out; omega); intro v1 w4 ho _ hg hat; have H10 := hid (H9.out.told ho hg); clear ho hg hat)
              have H11 : Hid (Rs w.heap.size w l (i + 1) (ps.set j (PA, b.length, PC)) (L.set j (b)) (.slice (some ⟨g, 0, none⟩) n c3) v1 (rs ++ [((b.length : Int), false)]) w4) :=
                hid ⟨H10.out.1, H10.out.2.1, H10.out.2.2.1, H10.out.2.2.2.1, H10.out.2.2.2.2, HQ.out, HT.out.2.2.1, HT.out.2.2.2, by rw [List.length_append, HI2.out.2.2.2]; rfl⟩
              have hi1 := HIN.out
              go_roundg k1
              case measure => omega
              case rel => exact ⟨i + 1, _, _, _, rfl, HIN.out, by have := HG.out; show k1 + (i + 1) = l.length; omega, H11⟩
            · have hz3 : (d == 3) = false := beq_eq_false_iff_ne.2 h3
              by_cases h4 : d = 4
              · subst h4
                go_upto_region 23 with ((with_reducible refine gate_builtin (b := .append) (xs := #[.tmp 81, .tmp 83]) rfl ?_); at_builtin; refine Kd.R_append (W := W) slK (w0 := W) w.heap.size rfl (.tmp 81) (.tmp 83) 59 30 (.slice none 0 0) 24 rfl undSls infoSl rfl (by decide) (by omega) (.slice (some ⟨g, 0, none⟩) n c3) ps (PA, b.length, PC) [.slice PA b.length PC] (fun _ => True) (fun _ => False) rfl rfl ?aP (fun _ hk => hk.elim) (fun _ _ => trivial) ?aO ?aB ?aS ?aL ?_; (case aP => exact rfl); (case aO => exact H2.out.all); (case aB => exact Below.refl _ _); (case aS => exact H2.out.big); (case aL => have h1_ := HLEN.out.2.1; have h2_ := HN.out; omega); intro va2 W8 ho _ hg hat; have H8 := hid (H2.out.push HLI.out ho hg); have HP8 : Hid (Lies W8 (PA, b.length, PC) b) := pushed H8.out HP.out HBL.out; clear ho hg hat H2 HLI)
                clear x0 x1 pc
                have HQ8 : Hid ((ps ++ [((PA, b.length, PC) : Sl)])[j]? = some (PA, b.length, PC)) := by
                  rw [List.getElem?_append_left (by have := HN.out; have := HJN.out; omega)]
                  exact HP
                have HL8 : Hid ((L ++ [b])[j]? = some b) := by
                  rw [List.getElem?_append_left (by have := HLEN.out.2.2; have := HJN.out; omega)]
                  exact HBL
                obtain ⟨g2, c2, rfl, _, _, _⟩ := Kd.R_form H8.out.all (by simp)
                have HT : Hid (stepS L (o, 4, key, val) = (L ++ [b]).set j b ∧ tellS L (o, 4, key, val) = (0, false) ∧ ((L ++ [b]).set j b ≠ [] ∧ ((L ++ [b]).set j b).length ≤ i + 1 + 1) ∧ ∀ (j' : Nat) (k : List Int), ((L ++ [b]).set j b)[j']? = some k → k.length ≤ i + 1) := by
                  rw [set_same HL8.out]
                  refine hid ⟨?_, rfl, ⟨by simp, by rw [List.length_append, List.length_singleton]; have := HI2.out.2.1.2; omega⟩, fun j' k hk => ?_⟩
                  · simp only [stepS]
                    rw [HON.out.1, HON.out.2]
                    rfl
                  · have hm := List.mem_of_getElem? hk
                    rcases List.mem_append.1 hm with q | q
                    · obtain ⟨j2, hj2⟩ := List.getElem?_of_mem q
                      exact Nat.le_succ_of_le (HI2.out.2.2.1 j2 k hj2)
                    · rw [List.mem_singleton.1 q]; exact Nat.le_succ_of_le HXL.out
                generalize hps : ps ++ [((PA, b.length, PC) : Sl)] = ps2 at H8 HQ8
                clear hps
                have s0 : W8.cell? ⟨g2, j, none⟩ = some (slV (PA, b.length, PC)) := sl_cell H8.out.all j HQ8.out
                have s1 : W8.frozen? ⟨g2, j, none⟩ = false := sl_free H8.out.all j (List.getElem?_eq_some_iff.1 HQ8.out).1
                have sj : (j : Int) < (ps2.length : Nat) := by have := (Kd.R_reads' H8.out.all).1; have := (List.getElem?_eq_some_iff.1 HQ8.out).1; omega
                have H9 := hid (H8.out.put HQ8.out HP8.out)
                clear H8
                go_upto_region 24 with fail
                clear s0 s1 sj
                change Code.wp _ _ _ _ (W8.setCell ⟨g2, j, none⟩ (slV (PA, b.length, PC)))
                generalize W8.setCell ⟨g2, j, none⟩ (slV (PA, b.length, PC)) = W9 at H9 ⊢
                have p0 : W9.cell? ⟨s, 0, none⟩ = some (.int .i64 0) := H9.out.x6.cell 0
                have p1 : W9.cell? ⟨s, 1, none⟩ = some (.bool false) := H9.out.x6.cell 1
                have p2 : W9.cell? ⟨s, 2, none⟩ = some (.slice none 0 0) := H9.out.x6.cell 2
                have p3 : W9.cell? ⟨s, 3, none⟩ = some (.slice none 0 0) := H9.out.x6.cell 3
                have HQ : Hid (rs ++ [(0, false)] ++ toldS ((L ++ [b]).set j (b)) (l.drop (i + 1)) = toldS [[]] l) := by
                  have h1 := HI2.out.1
                  rw [HD.out] at h1
                  simp only [toldS] at h1
                  rw [HT.out.1, HT.out.2.1] at h1
                  rw [List.append_assoc]
                  exact hid h1
                go_wp2_with ((with_reducible refine gate_builtin (b := .append) (xs := #[.tmp 89, .tmp 91]) rfl ?_); at_builtin; refine Kd.R_append (W := W9) seenN (w0 := W9) w.heap.size rfl (.tmp 89) (.tmp 91) 24 34 (.agg #[(.int .i64 0), (.bool false), (.slice none 0 0), (.slice none 0 0)]) 64 rfl undSeens infoSeen rfl (by decide) (by omega) u4 rs (0, false) [.int .i64 0, .bool false, .slice none 0 0, .slice none 0 0] (fun _ => True) (fun _ => False) rfl rfl ?aP (fun _ hk => hk.elim) (fun _ _ => trivial) ?aO ?aB ?aS ?aL ?_; (case aP => exact rfl); (case aO => exact H9.out.out); (case aB => exact Below.refl _ _); (case aS => exact H9.out.big); (case aL => have h1_ := HI2.out.2.2.2; have h2_ := HIN.out; omega); intro v1 w4 ho _ hg hat; have H10 := hid (H9.out.told ho hg); clear ho hg hat)
                have H11 : Hid (Rs w.heap.size w l (i + 1) (ps2.set j (PA, b.length, PC)) ((L ++ [b]).set j (b)) (.slice (some ⟨g2, 0, none⟩) ps2.length c2) v1 (rs ++ [(0, false)]) w4) :=
                  hid ⟨H10.out.1, H10.out.2.1, H10.out.2.2.1, H10.out.2.2.2.1, H10.out.2.2.2.2, HQ.out, HT.out.2.2.1, HT.out.2.2.2, by rw [List.length_append, HI2.out.2.2.2]; rfl⟩
                have hi1 := HIN.out
                go_roundg k1
                case measure => omega
                case rel => exact ⟨i + 1, _, _, _, rfl, HIN.out, by have := HG.out; show k1 + (i + 1) = l.length; omega, H11⟩
              · have hz4 : (d == 4) = false := beq_eq_false_iff_ne.2 h4
                have HT : Hid (stepS L (o, d, key, val) = L.set j (b) ∧ tellS L (o, d, key, val) = (0, false) ∧ (L.set j (b) ≠ [] ∧ (L.set j (b)).length ≤ i + 1 + 1) ∧ ∀ (j' : Nat) (k : List Int), (L.set j (b))[j']? = some k → k.length ≤ i + 1) := by
                  refine hid ⟨?_, ?_, set_okL HI2.out.2.1, set_eachL HI2.out.2.2.1 (Nat.le_succ_of_le HXL.out)⟩
                  · rw [set_same HBL.out]; simp only [stepS]; rw [if_neg h0, if_neg h1, if_neg h4]
                  · simp [tellS, h1, h2, h3]
                go_upto_region 23 with fail
                clear x0 x1 pc
                obtain ⟨W8, rfl⟩ : ∃ W8, W8 = W := ⟨_, rfl⟩
                have H8 := H2
                have HQ8 := HP
                have HP8 := HLI
                clear H2 HLI
                have s0 : W8.cell? ⟨g, j, none⟩ = some (slV (PA, b.length, PC)) := sl_cell H8.out.all j HQ8.out
                have s1 : W8.frozen? ⟨g, j, none⟩ = false := sl_free H8.out.all j (List.getElem?_eq_some_iff.1 HQ8.out).1
                have sj : (j : Int) < (n : Nat) := by have := (Kd.R_reads' H8.out.all).1; have := (List.getElem?_eq_some_iff.1 HQ8.out).1; omega
                have H9 := hid (H8.out.put HQ8.out HP8.out)
                clear H8
                go_upto_region 24 with fail
                clear s0 s1 sj
                change Code.wp _ _ _ _ (W8.setCell ⟨g, j, none⟩ (slV (PA, b.length, PC)))
                generalize W8.setCell ⟨g, j, none⟩ (slV (PA, b.length, PC)) = W9 at H9 ⊢
                have p0 : W9.cell? ⟨s, 0, none⟩ = some (.int .i64 0) := H9.out.x6.cell 0
                have p1 : W9.cell? ⟨s, 1, none⟩ = some (.bool false) := H9.out.x6.cell 1
                have p2 : W9.cell? ⟨s, 2, none⟩ = some (.slice none 0 0) := H9.out.x6.cell 2
                have p3 : W9.cell? ⟨s, 3, none⟩ = some (.slice none 0 0) := H9.out.x6.cell 3
                have HQ : Hid (rs ++ [(0, false)] ++ toldS (L.set j (b)) (l.drop (i + 1)) = toldS [[]] l) := by
                  have h1 := HI2.out.1
                  rw [HD.out] at h1
                  simp only [toldS] at h1
                  rw [HT.out.1, HT.out.2.1] at h1
                  rw [List.append_assoc]
                  exact hid h1
                go_wp2_with ((with_reducible refine gate_builtin (b := .append) (xs := #[.tmp 89, .tmp 91]) rfl ?_); at_builtin; refine Kd.R_append (W := W9) seenN (w0 := W9) w.heap.size rfl (.tmp 89) (.tmp 91) 24 34 (.agg #[(.int .i64 0), (.bool false), (.slice none 0 0), (.slice none 0 0)]) 64 rfl undSeens infoSeen rfl (by decide) (by omega) u4 rs (0, false) [.int .i64 0, .bool false, .slice none 0 0, .slice none 0 0] (fun _ => True) (fun _ => False) rfl rfl ?aP (fun _ hk => hk.elim) (fun _ _ => trivial) ?aO ?aB ?aS ?aL ?_; (case aP => exact rfl); (case aO => exact H9.out.out); (case aB => exact Below.refl _ _); (case aS => exact H9.out.big); (case aL => have h1_ := HI2.out.2.2.2; have h2_ := HIN.out; omega); intro v1 w4 ho _ hg hat; have H10 := hid (H9.out.told ho hg); clear ho hg hat)
                have H11 : Hid (Rs w.heap.size w l (i + 1) (ps.set j (PA, b.length, PC)) (L.set j (b)) (.slice (some ⟨g, 0, none⟩) n c3) v1 (rs ++ [(0, false)]) w4) :=
                  hid ⟨H10.out.1, H10.out.2.1, H10.out.2.2.1, H10.out.2.2.2.1, H10.out.2.2.2.2, HQ.out, HT.out.2.2.1, HT.out.2.2.2, by rw [List.length_append, HI2.out.2.2.2]; rfl⟩
                have hi1 := HIN.out
                go_roundg k1
                case measure => omega
                case rel => exact ⟨i + 1, _, _, _, rfl, HIN.out, by have := HG.out; show k1 + (i + 1) = l.length; omega, H11⟩
    · have e : i = l.length := by omega
      subst e
      have HF : Hid (rs = toldS [[]] l) := by
        have h1 := HI.out.told
        rw [List.drop_length] at h1
        exact hid (by simpa [toldS] using h1)
      go_wp2_with fail
      go_ret
      exact ⟨_, rfl, by rw [← HF.out]; exact HI.out.out, HI.out.below⟩
end Go.Proofs.Ytmhnhfmkcipcpaa.Stack
