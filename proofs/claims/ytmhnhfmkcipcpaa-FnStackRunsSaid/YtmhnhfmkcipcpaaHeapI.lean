/- Binary heaps in memory: a script of steps; what a heap holds behind it. For every table, every first row, every script. -/
import Derived.Test.YtmhnhfmkcipcpaaHeapH
import Derived.Test.YtmhnhfmkcipcpaaSeen
namespace Go.Proofs.Ytmhnhfmkcipcpaa.Heap
open Go Go.RowKit Go.Proofs.Ytmhnhfmkcipcpaa.Hk Go.Proofs.Ytmhnhfmkcipcpaa.HeapPure Go.Proofs.Ytmhnhfmkcipcpaa.Less Go.Proofs.Ytmhnhfmkcipcpaa.Seen Go.Proofs.YtmhnhfmkcipcpaaW.PrintWords Go.Proofs.YtmhnhfmkcipcpaaW.PrintLast Go.Proofs.YtmhnhfmkcipcpaaW.PrintMore

theorem infoSeen : (Try.prog.info? 34).map (fun i => (i.zero, i.size, i.bytes)) = some (some (.agg #[(.int .i64 0), (.bool false), (.slice none 0 0), (.slice none 0 0)]), 4, 64) := by kernel_rfl
theorem undSeens : Try.prog.underlying 24 = some (.slice 34) := by kernel_rfl

/-- What a heap holds behind a script. -/
def runH (r : Int → Int) : List Int → List St → List Int
  | xs, [] => xs
  | xs, a :: l => runH r (HeapPure.stepT r xs a.2.1 a.2.2.1) l
/-- What the steps tell. -/
def toldH (r : Int → Int) : List Int → List St → List (Int × Bool)
  | _, [] => []
  | xs, a :: l => tellT xs a.2.1 :: toldH r (HeapPure.stepT r xs a.2.1 a.2.2.1) l
theorem toldH_length (r : Int → Int) : ∀ (l : List St) (xs : List Int), (toldH r xs l).length = l.length
  | [], _ => rfl
  | a :: l, xs => by simp [toldH, toldH_length r l]
theorem step_length (r : Int → Int) (xs : List Int) (d key : Int) : (HeapPure.stepT r xs d key).length ≤ xs.length + 1 := by
  unfold HeapPure.stepT
  split
  · rw [push_length]; exact Nat.le_refl _
  · split
    · rw [pop_length]; omega
    · omega

theorem heap_fr {base R : Nat} {tb xs : List Int} {W W1 : World} {Z : Nat → Prop} (hH : HeapIn base R tb xs W) (hF : Fr Z W W1) (hb : base ≤ W.heap.size) (hZ : ∀ k, Z k → base ≤ k ∧ ∃ cs, W.heap[k]? = some (.cells cs 34 (0, 0))) : HeapIn base R tb xs W1 := by
  obtain ⟨v, lv, hV⟩ := hH
  have ht : ∀ k cs t, t ≠ 34 → W.heap[k]? = some (.cells cs t (0, 0)) → ¬ Z k := by
    intro k cs t hne h hz
    obtain ⟨_, cs', h'⟩ := hZ k hz
    rw [h] at h'
    injection h' with h'
    injection h' with _ h'
    exact hne h'
  refine ⟨v, lv, ⟨hV.blk.fr hF (ht R _ _ (by decide) hV.blk), hV.less.to (hF.below hb (fun k hk => (hZ k hk).1)), Ro.fr hV.row hF (fun k hk => ?_), hV.ge⟩⟩
  obtain ⟨inner, ho⟩ := Kd.R_own hV.row
  obtain ⟨cells, hc'⟩ := own_typed ho k hk
  exact ht k _ _ (by decide) hc'
theorem row_zh {base R b : Nat} {tb xs : List Int} {W W1 : World} {v : Value} {rs : List (Int × Bool)} (hH : HeapIn base R tb xs W) (h : seenN.R 34 W b (fun _ => True) v rs) (hF : Fr (Zh base R W) W W1) : seenN.R 34 W1 b (fun _ => True) v rs := by
  obtain ⟨v0, lv, hV⟩ := hH
  refine Kd.R_mono (Kd.R_step (Kd.R_reok (ok := fun k => some k = v.ownBlock) rfl h (fun _ hk => hk.symm)) (fun k hk hlt => hF.block k hlt ?_)) (fun _ _ => trivial)
  obtain ⟨inner, ho⟩ := Kd.R_own h
  obtain ⟨cells, hc'⟩ := own_typed ho k hk.symm
  refine zh_not (t := 34) hc' (by decide) (fun e => ?_)
  subst e
  have h2 : W.heap[k]? = some (.cells #[v0, lv] 121 (0, 0)) := hV.blk
  rw [hc'] at h2
  injection h2 with h2
  injection h2 with _ h2
  exact absurd h2 (by decide)

/-- What holds between the steps of a script that began at w. -/
structure Rn (base R : Nat) (tb : List Int) (w : World) (xs0 : List Int) (l : List St) (i : Nat) (xs : List Int) (v : Value) (rs : List (Int × Bool)) (W : World) : Prop where
  heap : HeapIn base R tb xs W
  row : seenN.R 34 W base (fun _ => True) v rs
  below : Below w.heap.size w W
  big : base ≤ W.heap.size
  told : rs ++ toldH (rankOf tb) xs (l.drop i) = toldH (rankOf tb) xs0 l
  run : runH (rankOf tb) xs (l.drop i) = runH (rankOf tb) xs0 l
  len : xs.length + (l.length - i) ≤ 549755813888
  rlen : rs.length = i

set_option maxHeartbeats 8000000 in
set_option maxRecDepth 100000 in
theorem HeapRun_any (A : Option Addr) (c : Nat) (tb : List Int) (how : Int) (A1 : Option Addr) (c1 : Nat) (xs : List Int) (A2 : Option Addr) (c2 : Nat) (l : List St) (w : World) (hT : Kd.C (Kd.int .i64) w A tb.length tb) (hX : Kd.C (Kd.int .i64) w A1 xs.length xs) (hS : Kd.C stK w A2 l.length l)
    (hn : tb.length ≤ 140737488351232) (hl : xs.length ≤ 274877906944) (hl2 : l.length ≤ 274877906944) :
    Calls Try.prog 17 #[.slice A tb.length c, .int .i64 how, .slice A1 xs.length c1, .slice A2 l.length c2] w fun e w' => ∃ v, e = .returned v ∧ seenN.R 34 w' w.heap.size (fun _ => True) v (toldH (rankOf tb) (madeT (rankOf tb) how xs) l) ∧ Below w.heap.size w w' := by
  have HT := hid (And.intro hT hn)
  have HX := hid (And.intro hX hl)
  have HS := hid hS
  have HML : Hid ((madeT (rankOf tb) how xs).length = xs.length) := hid (made _ _ _).2.1
  obtain ⟨xs0, hx0⟩ : ∃ xs0, madeT (rankOf tb) how xs = xs0 := ⟨_, rfl⟩
  rw [hx0] at HML
  rw [hx0]
  have HX0 := hid hx0
  clear hT hX hn hl hS hx0
  go_enter Try.func17, Try.ntmps17
  go_wp2_with fail
  refine (heapOf_any A c tb how A1 c1 xs w HT.out.1 HX.out.1 HT.out.2 (by have := HX.out.2; omega)).mono ?_
  rintro e w1 ⟨R, rfl, hH, hB⟩
  rw [HX0.out] at hH
  have H1 := hid (And.intro hH hB)
  have HBG : Hid (w.heap.size + 1 ≤ w1.heap.size) := by
    obtain ⟨v, lv, hV⟩ := hH
    have := hV.blk.lt
    have := hV.ge
    exact hid (by omega)
  clear hH hB
  go_wp2_with fail
  go_loopg [10, 19] l.length (fun gk v10 v19 wr => ∃ (i : Nat) (ys : List Int) (rs : List (Int × Bool)), v19 = .int .i64 i ∧ i ≤ l.length ∧ Hid (gk + i = l.length) ∧ Hid (Rn (w.heap.size + 1) R tb w xs0 l i ys v10 rs wr))
  case atStart => exact ⟨0, xs0, [], rfl, Nat.zero_le _, Nat.add_zero _, ⟨H1.out.1, Kd.R_nil .., H1.out.2, HBG.out, rfl, rfl, by have := HML.out; have := HX.out.2; omega, rfl⟩⟩
  case round =>
    obtain ⟨i, ys, rs, rfl, hi, HG, HI⟩ := hrel
    by_cases hin : i < l.length
    · obtain ⟨ad, rfl, x0, x1, x2, x3⟩ := at_st (Kd.C_below HS.out HI.out.below) i hin
      have HD : Hid (l.drop i = l[i] :: l.drop (i + 1)) := List.drop_eq_getElem_cons hin
      generalize l[i] = a at x0 x1 x2 x3 HD
      obtain ⟨o, d, key, val⟩ := a
      simp only at x0 x1 x2 x3
      have HIN := hid hin
      obtain ⟨k1, rfl⟩ : ∃ k1, gk = k1 + 1 := ⟨gk - 1, by have := HG.out; omega⟩
      clear hin
      have HA : Hid (Rn (w.heap.size + 1) R tb w xs0 l i ys u10 rs (wr.alloc (.cells #[.int .i64 o, .int .i64 d, .int .i64 key, .int .i64 val] 27)) ∧ Blk (wr.alloc (.cells #[.int .i64 o, .int .i64 d, .int .i64 key, .int .i64 val] 27)) wr.heap.size #[.int .i64 o, .int .i64 d, .int .i64 key, .int .i64 val] 27) := by
        have h1 : Below wr.heap.size wr (wr.alloc (.cells #[.int .i64 o, .int .i64 d, .int .i64 key, .int .i64 val] 27)) := (Below.refl _ _).alloc (Nat.le_refl _) _
        obtain ⟨v, lv, hV⟩ := HI.out.heap
        exact hid ⟨⟨⟨v, lv, hV.below h1 HI.out.big⟩, Kd.R_below HI.out.row h1, below_at HI.out.below h1 HI.out.below.size, Nat.le_trans HI.out.big h1.size, HI.out.told, HI.out.run, HI.out.len, HI.out.rlen⟩, Blk.new _ _ _⟩
      go_upto_region 6 with fail
      clear x0 x1 x2 x3 HI
      generalize wr.alloc (.cells #[.int .i64 o, .int .i64 d, .int .i64 key, .int .i64 val] 27) = W at HA ⊢
      have y0 : W.cell? ⟨wr.heap.size, 0, none⟩ = some (.int .i64 o) := HA.out.2.cell 0
      have y1 : W.cell? ⟨wr.heap.size, 1, none⟩ = some (.int .i64 d) := HA.out.2.cell 1
      have y2 : W.cell? ⟨wr.heap.size, 2, none⟩ = some (.int .i64 key) := HA.out.2.cell 2
      have y3 : W.cell? ⟨wr.heap.size, 3, none⟩ = some (.int .i64 val) := HA.out.2.cell 3
      go_wp2_with fail
      refine (heapDo_any (w.heap.size + 1) R tb ys o d key val W HA.out.1.heap HA.out.1.big (by have h_ := HA.out.1.len; have := HX.out.2; omega)).mono ?_
      rintro e w3 ⟨rfl, hH, hF⟩
      have H3 : Hid (HeapIn (w.heap.size + 1) R tb (HeapPure.stepT (rankOf tb) ys d key) w3 ∧ seenN.R 34 w3 (w.heap.size + 1) (fun _ => True) u10 rs ∧ Below w.heap.size w w3 ∧ w.heap.size + 1 ≤ w3.heap.size) :=
        hid ⟨hH, row_zh HA.out.1.heap HA.out.1.row hF, HA.out.1.below.trans ((zh_below hF HA.out.1.big).mono (Nat.le_succ _)), Nat.le_trans HA.out.1.big hF.size⟩
      have HK : Hid (rs ++ [tellT ys d] ++ toldH (rankOf tb) (HeapPure.stepT (rankOf tb) ys d key) (l.drop (i + 1)) = toldH (rankOf tb) xs0 l ∧ runH (rankOf tb) (HeapPure.stepT (rankOf tb) ys d key) (l.drop (i + 1)) = runH (rankOf tb) xs0 l ∧ (HeapPure.stepT (rankOf tb) ys d key).length + (l.length - (i + 1)) ≤ 549755813888 ∧ rs.length = i) := by
        have h1 := HA.out.1.told
        have h2 := HA.out.1.run
        have h3 := HA.out.1.len
        have h4 := step_length (rankOf tb) ys d key
        have h5 := HIN.out
        rw [HD.out] at h1 h2
        refine hid ⟨by rw [List.append_assoc]; exact h1, h2, by omega, HA.out.1.rlen⟩
      clear hH hF HA y0 y1 y2 y3
      generalize HeapPure.stepT (rankOf tb) ys d key = zs at H3 HK
      generalize tellT ys d = q at HK ⊢
      obtain ⟨tn, tk⟩ := q
      go_wp2_with (first | ((with_reducible refine gate_builtin (b := .append) (xs := #[.tmp 23, .tmp 27]) rfl ?_); at_builtin
                            refine Kd.R_append (W := w3) seenN (w0 := w3) (w.heap.size + 1) rfl (.tmp 23) (.tmp 27) 24 34 (.agg #[(.int .i64 0), (.bool false), (.slice none 0 0), (.slice none 0 0)]) 64 rfl undSeens infoSeen rfl (by decide) (by omega) u10 rs (tn, tk) [.int .i64 tn, .bool tk, .slice none 0 0, .slice none 0 0] (fun _ => True) (fun _ => False) rfl rfl ?aP (fun _ hk => hk.elim) (fun _ _ => trivial) ?aO ?aB ?aS ?aL ?_
                            (case aP => exact rfl)
                            (case aO => exact H3.out.2.1)
                            (case aB => exact Below.refl _ _)
                            (case aS => exact H3.out.2.2.2)
                            (case aL => have h1_ := HK.out.2.2.2; have h2_ := HIN.out; omega)
                            intro v1 w4 ho _ hg hat
                            have H4 : Hid (Rn (w.heap.size + 1) R tb w xs0 l (i + 1) zs v1 (rs ++ [(tn, tk)]) w4) := by
                              have hk : ∀ k, u10.ownBlock = some k → w.heap.size + 1 ≤ k := fun k hk => Kd.R_base H3.out.2.1 k hk
                              have hf : Fr (fun k => some k = u10.ownBlock) w3 w4 := Fr.of_grown hg
                              refine hid ⟨heap_fr H3.out.1 hf H3.out.2.2.2 (fun k e => ⟨hk k e.symm, ?_⟩), ho, H3.out.2.2.1.trans (hf.below H3.out.2.2.1.size (fun k e => by have := hk k e.symm; omega)), Nat.le_trans H3.out.2.2.2 hf.size, HK.out.1, HK.out.2.1, HK.out.2.2.1, by rw [List.length_append, HK.out.2.2.2]; rfl⟩
                              obtain ⟨inner, hown⟩ := Kd.R_own H3.out.2.1
                              exact own_typed hown k e.symm
                            clear ho hg hat))
      go_roundg k1
      case measure => omega
      case rel => exact ⟨i + 1, zs, _, rfl, HIN.out, by have := HG.out; show k1 + (i + 1) = l.length; omega, H4⟩
    · have e : i = l.length := by omega
      subst e
      have HF : Hid (rs = toldH (rankOf tb) xs0 l) := by
        have h1 := HI.out.told
        rw [List.drop_length] at h1
        exact hid (by simpa [toldH] using h1)
      go_wp2_with fail
      go_ret
      exact ⟨_, rfl, by rw [← HF.out]; exact Kd.R_lower HI.out.row (Nat.le_succ _), HI.out.below⟩

set_option maxHeartbeats 8000000 in
set_option maxRecDepth 100000 in
theorem HeapData_any (A : Option Addr) (c : Nat) (tb : List Int) (how : Int) (A1 : Option Addr) (c1 : Nat) (xs : List Int) (A2 : Option Addr) (c2 : Nat) (l : List St) (w : World) (hT : Kd.C (Kd.int .i64) w A tb.length tb) (hX : Kd.C (Kd.int .i64) w A1 xs.length xs) (hS : Kd.C stK w A2 l.length l)
    (hn : tb.length ≤ 140737488351232) (hl : xs.length ≤ 274877906944) (hl2 : l.length ≤ 274877906944) :
    Calls Try.prog 21 #[.slice A tb.length c, .int .i64 how, .slice A1 xs.length c1, .slice A2 l.length c2] w fun e w' => ∃ v, e = .returned v ∧ Ro w' w.heap.size v (runH (rankOf tb) (madeT (rankOf tb) how xs) l) ∧ Below w.heap.size w w' := by
  have HT := hid (And.intro hT hn)
  have HX := hid (And.intro hX hl)
  have HS := hid hS
  have HML : Hid ((madeT (rankOf tb) how xs).length = xs.length) := hid (made _ _ _).2.1
  obtain ⟨xs0, hx0⟩ : ∃ xs0, madeT (rankOf tb) how xs = xs0 := ⟨_, rfl⟩
  rw [hx0] at HML
  rw [hx0]
  have HX0 := hid hx0
  clear hT hX hn hl hS hx0
  go_enter Try.func21, Try.ntmps21
  go_wp2_with fail
  refine (heapOf_any A c tb how A1 c1 xs w HT.out.1 HX.out.1 HT.out.2 (by have := HX.out.2; omega)).mono ?_
  rintro e w1 ⟨R, rfl, hH, hB⟩
  rw [HX0.out] at hH
  have H1 := hid (And.intro hH hB)
  have HBG : Hid (w.heap.size + 1 ≤ w1.heap.size) := by
    obtain ⟨v, lv, hV⟩ := hH
    have := hV.blk.lt
    have := hV.ge
    exact hid (by omega)
  clear hH hB
  go_wp2_with fail
  go_loopg [18] l.length (fun gk v18 wr => ∃ (i : Nat) (ys : List Int) (rs : List (Int × Bool)), v18 = .int .i64 i ∧ i ≤ l.length ∧ Hid (gk + i = l.length) ∧ Hid (Rn (w.heap.size + 1) R tb w xs0 l 0 xs0 (.slice none 0 0) [] w1 ∧ HeapIn (w.heap.size + 1) R tb ys wr ∧ Below w.heap.size w wr ∧ w.heap.size + 1 ≤ wr.heap.size ∧ runH (rankOf tb) ys (l.drop i) = runH (rankOf tb) xs0 l ∧ ys.length + (l.length - i) ≤ 549755813888 ∧ rs = []))
  case atStart => exact ⟨0, xs0, [], rfl, Nat.zero_le _, Nat.add_zero _, ⟨H1.out.1, Kd.R_nil .., H1.out.2, HBG.out, rfl, rfl, by have := HML.out; have := HX.out.2; omega, rfl⟩, H1.out.1, H1.out.2, HBG.out, rfl, by have := HML.out; have := HX.out.2; omega, rfl⟩
  case round =>
    obtain ⟨i, ys, rs, rfl, hi, HG, HI⟩ := hrel
    by_cases hin : i < l.length
    · obtain ⟨ad, rfl, x0, x1, x2, x3⟩ := at_st (Kd.C_below HS.out HI.out.2.2.1) i hin
      have HD : Hid (l.drop i = l[i] :: l.drop (i + 1)) := List.drop_eq_getElem_cons hin
      generalize l[i] = a at x0 x1 x2 x3 HD
      obtain ⟨o, d, key, val⟩ := a
      simp only at x0 x1 x2 x3
      have HIN := hid hin
      obtain ⟨k1, rfl⟩ : ∃ k1, gk = k1 + 1 := ⟨gk - 1, by have := HG.out; omega⟩
      clear hin
      have HA : Hid (HeapIn (w.heap.size + 1) R tb ys (wr.alloc (.cells #[.int .i64 o, .int .i64 d, .int .i64 key, .int .i64 val] 27)) ∧ Below w.heap.size w (wr.alloc (.cells #[.int .i64 o, .int .i64 d, .int .i64 key, .int .i64 val] 27)) ∧ w.heap.size + 1 ≤ (wr.alloc (.cells #[.int .i64 o, .int .i64 d, .int .i64 key, .int .i64 val] 27)).heap.size ∧ Blk (wr.alloc (.cells #[.int .i64 o, .int .i64 d, .int .i64 key, .int .i64 val] 27)) wr.heap.size #[.int .i64 o, .int .i64 d, .int .i64 key, .int .i64 val] 27) := by
        have h1 : Below wr.heap.size wr (wr.alloc (.cells #[.int .i64 o, .int .i64 d, .int .i64 key, .int .i64 val] 27)) := (Below.refl _ _).alloc (Nat.le_refl _) _
        obtain ⟨v, lv, hV⟩ := HI.out.2.1
        exact hid ⟨⟨v, lv, hV.below h1 HI.out.2.2.2.1⟩, below_at HI.out.2.2.1 h1 HI.out.2.2.1.size, Nat.le_trans HI.out.2.2.2.1 h1.size, Blk.new _ _ _⟩
      have HK : Hid (runH (rankOf tb) (HeapPure.stepT (rankOf tb) ys d key) (l.drop (i + 1)) = runH (rankOf tb) xs0 l ∧ (HeapPure.stepT (rankOf tb) ys d key).length + (l.length - (i + 1)) ≤ 549755813888 ∧ ys.length < 1099511627776) := by
        have h2 := HI.out.2.2.2.2.1
        have h3 := HI.out.2.2.2.2.2.1
        have h4 := step_length (rankOf tb) ys d key
        have h5 := HIN.out
        rw [HD.out] at h2
        refine hid ⟨h2, by omega, by omega⟩
      have HI1 := hid (And.intro HI.out.1 HI.out.2.2.2.2.2.2)
      go_upto_region 5 with fail
      clear x0 x1 x2 x3 HI
      generalize wr.alloc (.cells #[.int .i64 o, .int .i64 d, .int .i64 key, .int .i64 val] 27) = W at HA ⊢
      have y0 : W.cell? ⟨wr.heap.size, 0, none⟩ = some (.int .i64 o) := HA.out.2.2.2.cell 0
      have y1 : W.cell? ⟨wr.heap.size, 1, none⟩ = some (.int .i64 d) := HA.out.2.2.2.cell 1
      have y2 : W.cell? ⟨wr.heap.size, 2, none⟩ = some (.int .i64 key) := HA.out.2.2.2.cell 2
      have y3 : W.cell? ⟨wr.heap.size, 3, none⟩ = some (.int .i64 val) := HA.out.2.2.2.cell 3
      go_wp2_with fail
      refine (heapDo_any (w.heap.size + 1) R tb ys o d key val W HA.out.1 HA.out.2.2.1 HK.out.2.2).mono ?_
      rintro e w3 ⟨rfl, hH, hF⟩
      have H3 : Hid (HeapIn (w.heap.size + 1) R tb (HeapPure.stepT (rankOf tb) ys d key) w3 ∧ Below w.heap.size w w3 ∧ w.heap.size + 1 ≤ w3.heap.size) :=
        hid ⟨hH, HA.out.2.1.trans ((zh_below hF HA.out.2.2.1).mono (Nat.le_succ _)), Nat.le_trans HA.out.2.2.1 hF.size⟩
      clear hH hF HA y0 y1 y2 y3
      generalize HeapPure.stepT (rankOf tb) ys d key = zs at H3 HK
      go_wp2_with fail
      go_roundg k1
      case measure => omega
      case rel => exact ⟨i + 1, zs, rs, rfl, HIN.out, by have := HG.out; show k1 + (i + 1) = l.length; omega, hid ⟨HI1.out.1, H3.out.1, H3.out.2.1, H3.out.2.2, HK.out.1, HK.out.2.1, HI1.out.2⟩⟩
    · have e : i = l.length := by omega
      subst e
      have HF : Hid (ys = runH (rankOf tb) xs0 l) := by
        have h1 := HI.out.2.2.2.2.1
        rw [List.drop_length] at h1
        exact hid (by simpa [runH] using h1)
      have HYL : Hid (ys.length ≤ 1099511627776) := hid (by have := HI.out.2.2.2.2.2.1; omega)
      go_wp2_with fail
      refine (data_any (w.heap.size + 1) R tb ys wr HI.out.2.1 HYL.out).mono ?_
      rintro e w3 ⟨v, rfl, hR, hB⟩
      obtain ⟨A3, c3, rfl⟩ := Kd.R_slice hR
      have H3 : Hid (Ro w3 w.heap.size (.slice A3 ys.length c3) ys ∧ Below w.heap.size w w3) := hid ⟨Kd.R_lower hR HI.out.2.2.1.size, below_at HI.out.2.2.1 hB HI.out.2.2.1.size⟩
      clear hR hB
      go_wp2_with fail
      go_ret
      exact ⟨_, rfl, by rw [← HF.out]; exact H3.out.1, H3.out.2⟩
end Go.Proofs.Ytmhnhfmkcipcpaa.Heap
