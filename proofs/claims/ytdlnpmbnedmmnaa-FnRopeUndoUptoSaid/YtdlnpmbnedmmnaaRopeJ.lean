/- Ropes in memory: a row put into a leaf's row. For every two rows and every place. -/
import Derived.Test.YtdlnpmbnedmmnaaRopeI
import Derived.Laws.CopyOwn
namespace Go.Proofs.Ytdlnpmbnedmmnaa.Rope
open Go Go.RowKit Go.Deep Go.Proofs.Ytdlnpmbnedmmnaa.Hk Go.Proofs.Ytdlnpmbnedmmnaa.RopePure Go.Proofs.YtdlnpmbnedmmnaaW.PrintWords Go.Proofs.YtdlnpmbnedmmnaaW.PrintLast Go.Proofs.YtdlnpmbnedmmnaaW.PrintMore
/-- copy, by the cells alone; a row without elements whatever its address. -/
theorem wpList_copy_cells {P : Program} {w : World} {ops : Array Oper} {rest : List Oper} {o : Oper} {a : Act} {Q : Exit → Act → World → Prop} (hgd : o.guard = none) (d s : Operand) (dT sT : TypeId)
    (ho : o.op = .call { callee := .builtin .copy, args := #[d, s], argTypes := #[dT, sT] }) (elem : TypeId) (hu : P.underlying dT = some (.slice elem)) (hsz : (P.info? elem).map (·.size) = some 1)
    (dp sp : Option Addr) (dLen dCap sLen sCap : Nat) (hd : a.eval d = .slice dp dLen dCap) (hs : a.eval s = .slice sp sLen sCap)
    (b off : Nat) (cs : List Value) (hn : cs.length = Nat.min sLen dLen)
    (hpos : 0 < cs.length → dp = some ⟨b, off, none⟩ ∧ ∃ ad, sp = some ad ∧ ∀ j v, cs[j]? = some v → w.cell? (ad.add j) = some v)
    (hc : ∀ j, j < cs.length → (w.cell? ⟨b, off + j, none⟩).isSome = true ∧ w.frozen? ⟨b, off + j, none⟩ = false) (h1 : ∀ v ∈ cs, v.oneCell' = true)
    (h : wpList P ops Q rest (a.put o.dst (goInt cs.length)) (w.setCells b off cs)) : wpList P ops Q (o :: rest) a w := by
  by_cases h0 : cs.length = 0
  · obtain rfl : cs = [] := List.eq_nil_of_length_eq_zero h0
    exact wpList_copy_nothing hgd d s dT sT ho elem hu hsz dp sp dLen dCap sLen sCap hd hs (by simpa using hn.symm) h
  · obtain ⟨rfl, ad, rfl, hsrc⟩ := hpos (by omega)
    refine wpList_plain hgd fun K hK => ?_
    have hrun := run_copy_cells (P := P) w dT sT o.type elem b off dLen dCap ad sLen sCap cs hu hsz hn hsrc (fun j hj => (hc j hj).1) (fun j hj => (hc j hj).2) h1
    unfold Oper.wp
    simp [execOp, ho, resolve, invoke, builtin, hd, hs, hrun, Result.andThen]
    exact hK _ _ h
/-- .. as a step of a region that draws its order. -/
theorem step_copy_cells {P : Program} {ops : Array Oper} {o : Oper} {a : Act} {w : World} {K : Act → World → Prop} {Q : Exit → Act → World → Prop} {E : Prop} (hgd : o.guard = none) (d s : Operand) (dT sT : TypeId)
    (ho : o.op = .call { callee := .builtin .copy, args := #[d, s], argTypes := #[dT, sT] }) (elem : TypeId) (hu : P.underlying dT = some (.slice elem)) (hsz : (P.info? elem).map (·.size) = some 1)
    (dp sp : Option Addr) (dLen dCap sLen sCap : Nat) (hd : a.eval d = .slice dp dLen dCap) (hs : a.eval s = .slice sp sLen sCap)
    (b off : Nat) (cs : List Value) (hn : cs.length = Nat.min sLen dLen)
    (hpos : 0 < cs.length → dp = some ⟨b, off, none⟩ ∧ ∃ ad, sp = some ad ∧ ∀ j v, cs[j]? = some v → w.cell? (ad.add j) = some v)
    (hc : ∀ j, j < cs.length → (w.cell? ⟨b, off + j, none⟩).isSome = true ∧ w.frozen? ⟨b, off + j, none⟩ = false) (h1 : ∀ v ∈ cs, v.oneCell' = true)
    (h : K (a.put o.dst (goInt cs.length)) (w.setCells b off cs)) :
    if Region.wanted o (yielded ops a.tmps) = true then Oper.wp P o a w K Q else E := by
  have hw : Region.wanted o (yielded ops a.tmps) = true := by simp [Region.wanted, hgd]
  rw [if_pos hw]
  by_cases h0 : cs.length = 0
  · obtain rfl : cs = [] := List.eq_nil_of_length_eq_zero h0
    have hrun := run_copy_none (P := P) w dT sT o.type elem dp sp dLen dCap sLen sCap hu hsz (by simpa using hn.symm)
    unfold Oper.wp
    simp [execOp, ho, resolve, invoke, builtin, hd, hs, hrun, Result.andThen]
    exact h
  · obtain ⟨rfl, ad, rfl, hsrc⟩ := hpos (by omega)
    have hrun := run_copy_cells (P := P) w dT sT o.type elem b off dLen dCap ad sLen sCap cs hu hsz hn hsrc (fun j hj => (hc j hj).1) (fun j hj => (hc j hj).2) h1
    unfold Oper.wp
    simp [execOp, ho, resolve, invoke, builtin, hd, hs, hrun, Result.andThen]
    exact h
/-- What is known of a row's cells, place by place. -/
def SegP (w : World) (b q c : Nat) (f : Nat → Option Int) : Prop := ∀ i, i < c → w.frozen? ⟨b, q + i, none⟩ = false ∧ ∃ v : Value, w.cell? ⟨b, q + i, none⟩ = some v ∧ ∀ x, f i = some x → v = .int .i64 x
theorem Seg.p {w : World} {b q c : Nat} {xs : List Int} (h : Seg w (some ⟨b, q, none⟩) c xs) : SegP w b q c (fun i => xs[i]?) := fun i hi => by
  obtain ⟨b', q', e, hc⟩ := h.at_ (by omega)
  injection e with e; injection e with e1 e2
  subst e1 e2
  exact hc i hi
theorem SegP.write {w : World} {b q c : Nat} {f : Nat → Option Int} (h : SegP w b q c f) (p : Nat) (zs : List Int) (hp : p + zs.length ≤ c) : SegP (w.setCells b (q + p) (zs.map (Value.int .i64))) b q c (fun i => if p ≤ i ∧ i < p + zs.length then zs[i - p]? else f i) := fun i hi' => by
  obtain ⟨fr, v, hv, hx⟩ := h i hi'
  refine ⟨(World.frozen?_setCells b _ _ _ _).trans fr, ?_⟩
  have hlen : (zs.map (Value.int .i64)).length = zs.length := List.length_map ..
  by_cases hr : p ≤ i ∧ i < p + zs.length
  · have hj : i - p < (zs.map (Value.int .i64)).length := by omega
    refine ⟨(zs.map (Value.int .i64))[i - p], ?_, fun x ex => ?_⟩
    · have := World.cell?_setCells_in b (zs.map (Value.int .i64)) (q + p) w (fun j hj => by
        obtain ⟨_, u, hu, _⟩ := h (p + j) (by omega)
        rw [show q + p + j = q + (p + j) by omega, hu]
        rfl) (i - p) hj
      rwa [show q + p + (i - p) = q + i by omega] at this
    · have ex : (if p ≤ i ∧ i < p + zs.length then zs[i - p]? else f i) = some x := ex
      rw [if_pos hr] at ex
      have h2 : (zs.map (Value.int .i64))[i - p]? = some (Value.int .i64 x) := by rw [List.getElem?_map, ex]; rfl
      rw [List.getElem?_eq_getElem hj] at h2
      exact Option.some.inj h2
  · refine ⟨v, (World.cell?_setCells_out b _ _ _ _ (fun _ _ => ?_)).trans hv, fun x ex => hx x (by have ex : (if p ≤ i ∧ i < p + zs.length then zs[i - p]? else f i) = some x := ex; rw [if_neg hr] at ex; exact ex)⟩
    show q + i < q + p ∨ q + p + (zs.map (Value.int .i64)).length ≤ q + i
    omega
theorem SegP.seg {w : World} {b q c : Nat} {f : Nat → Option Int} (h : SegP w b q c f) {ys : List Int} (hy : ys.length ≤ c) (hf : ∀ i x, ys[i]? = some x → f i = some x) : Seg w (some ⟨b, q, none⟩) c ys :=
  ⟨hy, fun ad e => ⟨b, q, (Option.some.inj e).symm⟩, fun _ => ⟨b, q, rfl, fun i hi => by
    obtain ⟨fr, v, hv, hx⟩ := h i hi
    exact ⟨fr, v, hv, fun x e => hx x (hf i x e)⟩⟩⟩
theorem SegP.spare {w : World} {b q c : Nat} {f : Nat → Option Int} (h : SegP w b q c f) {p n : Nat} (hp : p + n ≤ c) : ∀ j, j < n → (w.cell? ⟨b, q + p + j, none⟩).isSome = true ∧ w.frozen? ⟨b, q + p + j, none⟩ = false := fun j hj => by
  obtain ⟨fr, v, hv, _⟩ := h (p + j) (by omega)
  rw [Nat.add_assoc]
  exact ⟨by rw [hv]; rfl, fr⟩
theorem seg_ins {xs vs : List Int} {k i : Nat} {x : Int} (hk : k ≤ xs.length) (h : (xs.take k ++ vs ++ xs.drop k)[i]? = some x) :
    (if k ≤ i ∧ i < k + vs.length then vs[i - k]? else if k + vs.length ≤ i ∧ i < k + vs.length + (xs.drop k).length then (xs.drop k)[i - (k + vs.length)]? else xs[i]?) = some x := by
  have hlt := (List.getElem?_eq_some_iff.1 h).1
  have hl1 : (xs.take k).length = k := by rw [List.length_take]; omega
  rw [List.length_append, List.length_append, hl1] at hlt
  by_cases h1 : i < k
  · rw [if_neg (by omega), if_neg (by omega)]
    rw [List.append_assoc, List.getElem?_append_left (by omega), List.getElem?_take_of_lt h1] at h
    exact h
  · by_cases h2 : i < k + vs.length
    · rw [if_pos ⟨by omega, h2⟩]
      rw [List.append_assoc, List.getElem?_append_right (by omega), hl1, List.getElem?_append_left (by omega)] at h
      exact h
    · rw [if_neg (by omega), if_pos ⟨by omega, by omega⟩]
      rw [List.getElem?_append_right (by rw [List.length_append, hl1]; omega), List.length_append, hl1] at h
      exact h
theorem SegP.write0 {w : World} {b c : Nat} {f : Nat → Option Int} (h : SegP w b 0 c f) (p : Nat) (zs : List Int) (hp : p + zs.length ≤ c) : SegP (w.setCells b p (zs.map (Value.int .i64))) b 0 c (fun i => if p ≤ i ∧ i < p + zs.length then zs[i - p]? else f i) := by
  have := h.write p zs hp
  rwa [Nat.zero_add] at this
theorem SegP.spare0 {w : World} {b c : Nat} {f : Nat → Option Int} (h : SegP w b 0 c f) {p n : Nat} (hp : p + n ≤ c) : ∀ j, j < n → (w.cell? ⟨b, p + j, none⟩).isSome = true ∧ w.frozen? ⟨b, p + j, none⟩ = false := by
  have := h.spare hp
  rwa [Nat.zero_add] at this
theorem SegP.made {w w1 : World} {n : Nat} {xs : List Value} {base : Nat} (h : w1.ownsRow base 3 1 (.slice (some ⟨w.heap.size, 0, none⟩) n n) n xs) : SegP w1 w.heap.size 0 n (fun _ => none) := fun i hi => by
  rcases h.2 with ⟨e1, _⟩ | ⟨g, cap, cur, e, h1, h2, h3, _, h4, h5⟩
  · cases e1
  · injection e with e1 e2 e3
    injection e1 with e1; injection e1 with e1 e4
    subst e1 e3
    have hb : Blk w1 w.heap.size cur 3 := h2
    exact ⟨hb.free _, cur[0 + i]'(by omega), by rw [hb.cell, Array.getElem?_eq_getElem], fun x e => by cases e⟩
theorem cells_below {w W : World} {g : Nat} (h : Below w.heap.size w W) (hg : w.heap.size ≤ g) (i : Nat) (vs : List Value) : Below w.heap.size w (W.setCells g i vs) :=
  h.trans ((Fz.cells vs i W).below h.size (fun k o e => by omega))
theorem seg_ins3 {xs vs : List Int} {k i : Nat} {x : Int} (hk : k ≤ xs.length) (h : (xs.take k ++ vs ++ xs.drop k)[i]? = some x) :
    (if k + vs.length ≤ i ∧ i < k + vs.length + (xs.drop k).length then (xs.drop k)[i - (k + vs.length)]? else if k ≤ i ∧ i < k + vs.length then vs[i - k]? else if 0 ≤ i ∧ i < 0 + (xs.take k).length then (xs.take k)[i - 0]? else none) = some x := by
  have hlt := (List.getElem?_eq_some_iff.1 h).1
  have hl1 : (xs.take k).length = k := by rw [List.length_take]; omega
  rw [List.length_append, List.length_append, hl1] at hlt
  by_cases h1 : i < k
  · rw [if_neg (by omega), if_neg (by omega), if_pos ⟨by omega, by omega⟩]
    rw [List.append_assoc, List.getElem?_append_left (by omega)] at h
    exact h
  · by_cases h2 : i < k + vs.length
    · rw [if_neg (by omega), if_pos ⟨by omega, h2⟩]
      rw [List.append_assoc, List.getElem?_append_right (by omega), hl1, List.getElem?_append_left (by omega)] at h
      exact h
    · rw [if_pos ⟨by omega, by omega⟩]
      rw [List.getElem?_append_right (by rw [List.length_append, hl1]; omega), List.length_append, hl1] at h
      exact h
/-- .. in a row that is made for it. -/
def Grow (xs vs : List Int) (k : Nat) (w : World) (e : Ending) (w' : World) : Prop := e = .returned (.slice (some ⟨w.heap.size, 0, none⟩) (xs.length + vs.length) (xs.length + vs.length)) ∧ Seg w' (some ⟨w.heap.size, 0, none⟩) (xs.length + vs.length) (xs.take k ++ vs ++ xs.drop k) ∧ Below w.heap.size w w'
/-- A row put into a row, in its own cells. -/
def Ins (ba qa c : Nat) (xs vs : List Int) (k : Nat) (w : World) (e : Ending) (w' : World) : Prop := e = .returned (.slice (some ⟨ba, qa, none⟩) (xs.length + vs.length) c) ∧ Seg w' (some ⟨ba, qa, none⟩) c (xs.take k ++ vs ++ xs.drop k) ∧ Fz (dz (some ⟨ba, qa, none⟩) c) w w'
theorem intSize : (Try.prog.info? 3).map (·.size) = some 1 := by kernel_rfl
def inr4.T : Bool × List (List Nat × List Nat) := (true, [([], []), ([], []), ([], []), ([2], [2]), ([1, 3], [1, 3]), ([0, 4], [0, 4]), ([], []), ([], []), ([6, 7], [6, 7]), ([5, 8], [5, 8])])
def inr4.B : List Nat := [0, 0, 0, 4, 14, 31, 0, 0, 192, 511]
theorem inr4.tab : rtab .any (opsOf Try.f38 4) = inr4.T := by kernel_rfl
theorem inr4.bits : waitsOk inr4.T.2 inr4.B = true := by kernel_rfl
def inr10.T : Bool × List (List Nat × List Nat) := (true, [([], []), ([], []), ([], []), ([2], [2]), ([1, 3], [1, 3]), ([0, 4], [0, 4]), ([], []), ([], []), ([6, 7], [6, 7]), ([5, 8], [5, 8])])
def inr10.B : List Nat := [0, 0, 0, 4, 14, 31, 0, 0, 192, 511]
theorem inr10.tab : rtab .any (opsOf Try.f38 10) = inr10.T := by kernel_rfl
theorem inr10.bits : waitsOk inr10.T.2 inr10.B = true := by kernel_rfl
set_option maxHeartbeats 8000000 in
set_option maxRecDepth 100000 in
theorem insert_room (ba qa : Nat) (Av : Option Addr) (c cv k : Nat) (xs vs : List Int) (w : World) (hS : Seg w (some ⟨ba, qa, none⟩) c xs) (hV : Rd w Av cv vs) (hk : k ≤ xs.length) (hr : xs.length + vs.length ≤ c) (hl : xs.length + vs.length ≤ 1099511627776) (hd : ∀ ad, Av = some ad → ad.block ≠ ba) (hck : ¬ c = k) :
    Calls Try.prog 38 #[.slice (some ⟨ba, qa, none⟩) xs.length c, .int .i64 (k : Int), .slice Av vs.length cv] w (Ins ba qa c xs vs k w) := by
  have HS := hid hS
  have HV := hid hV
  have HD := hid hd
  have hwr : IntKind.i64.wrap ((k : Int) + (vs.length : Int)) = (k : Int) + (vs.length : Int) := by rw [IntKind.wrap_i64]; omega
  have hp0 : (0 : Int) ≤ (k : Int) + (vs.length : Int) := by omega
  have hp1 : (k : Int) + (vs.length : Int) ≤ ((xs.length + vs.length : Nat) : Int) := by omega
  have hp2 : ((k : Int) + (vs.length : Int)).toNat = k + vs.length := by omega
  have hkc : k ≤ c := by omega
  obtain ⟨c1, hc1⟩ : ∃ c1, c1 = (xs.drop k).map (Value.int .i64) := ⟨_, rfl⟩
  have HC1 := hid hc1
  have HL1 : Hid (c1.length = xs.length - k) := hid (by rw [hc1, List.length_map, List.length_drop])
  obtain ⟨c2, hc2⟩ : ∃ c2, c2 = vs.map (Value.int .i64) := ⟨_, rfl⟩
  have HC2 := hid hc2
  have HL2 : Hid (c2.length = vs.length) := hid (by rw [hc2, List.length_map])
  have HCK := hid hck
  clear hS hV hd hc1 hc2
  go_enter Try.func38, Try.ntmps38
  go_wp2_with fail
  refine start_ (n := 10) (S := fun w' => True) (ds := []) #[false, false, false, false, false, false, false, false, false, false] (by kernel_rfl) rfl rfl trivial (fun hHeld => ?_)
  refine with_tabW inr4.tab inr4.bits (fun HT_ HW_ => ?_)
  refine pure_ (i := 0) (N := some 22) (v := ?_) (a' := ?_) #[true, false, false, false, false, false, false, false, false, false] rfl rfl (any_of HT_.out (by kernel_rfl)) (fun _ _ _ h => h) (Or.inl ⟨by rfl, ?_⟩) ?_ ?_
  rotate_left
  · intro w'
    go_simp
    with_reducible rfl
  rotate_left
  · simp only [Act.put, List.setIfInBounds_toArray, List.set_cons_zero, List.set_cons_succ]
    rfl
  refine pure_ (i := 1) (N := some 23) (v := ?_) (a' := ?_) #[true, true, false, false, false, false, false, false, false, false] rfl rfl (any_of HT_.out (by kernel_rfl)) (fun _ _ _ h => h) (Or.inl ⟨by rfl, ?_⟩) ?_ ?_
  rotate_left
  · intro w'
    go_simp
    with_reducible rfl
  rotate_left
  · simp only [Act.put, List.setIfInBounds_toArray, List.set_cons_zero, List.set_cons_succ]
    rfl
  refine pure_ (i := 2) (N := some 24) (v := ?_) (a' := ?_) #[true, true, true, false, false, false, false, false, false, false] rfl rfl (any_of HT_.out (by kernel_rfl)) (fun _ _ _ h => h) (Or.inl ⟨by rfl, ?_⟩) ?_ ?_
  rotate_left
  · intro w'
    go_simp
    with_reducible rfl
  rotate_left
  · simp only [Act.put, List.setIfInBounds_toArray, List.set_cons_zero, List.set_cons_succ]
    rfl
  refine pure_ (i := 3) (N := some 25) (v := ?_) (a' := ?_) #[true, true, true, true, false, false, false, false, false, false] rfl rfl (any_of HT_.out (by kernel_rfl)) (fun _ _ _ h => h) (Or.inl ⟨by rfl, ?_⟩) ?_ ?_
  rotate_left
  · intro w'
    go_simp
    with_reducible rfl
  rotate_left
  · simp only [Act.put, List.setIfInBounds_toArray, List.set_cons_zero, List.set_cons_succ]
    rfl
  refine pure_ (i := 4) (N := some 26) (v := ?_) (a' := ?_) #[true, true, true, true, true, false, false, false, false, false] rfl rfl (any_of HT_.out (by kernel_rfl)) (fun _ _ _ h => h) (Or.inl ⟨by rfl, ?_⟩) ?_ ?_
  rotate_left
  · intro w'
    go_simp
    with_reducible rfl
  rotate_left
  · simp only [Act.put, List.setIfInBounds_toArray, List.set_cons_zero, List.set_cons_succ]
    rfl
  refine pure_ (i := 5) (N := some 27) (v := ?_) (a' := ?_) #[true, true, true, true, true, true, false, false, false, false] rfl rfl (any_of HT_.out (by kernel_rfl)) (fun _ _ _ h => h) (Or.inl ⟨by rfl, ?_⟩) ?_ ?_
  rotate_left
  · intro w'
    go_simp
    skip
    all_goals with_reducible rfl
  rotate_left
  · simp only [Act.put, List.setIfInBounds_toArray, List.set_cons_zero, List.set_cons_succ]
    rfl
  refine pure_ (i := 6) (N := some 28) (v := ?_) (a' := ?_) #[true, true, true, true, true, true, true, false, false, false] rfl rfl (any_of HT_.out (by kernel_rfl)) (fun _ _ _ h => h) (Or.inl ⟨by rfl, ?_⟩) ?_ ?_
  rotate_left
  · intro w'
    go_simp
    with_reducible rfl
  rotate_left
  · simp only [Act.put, List.setIfInBounds_toArray, List.set_cons_zero, List.set_cons_succ]
    rfl
  refine pure_ (i := 7) (N := some 29) (v := ?_) (a' := ?_) #[true, true, true, true, true, true, true, true, false, false] rfl rfl (any_of HT_.out (by kernel_rfl)) (fun _ _ _ h => h) (Or.inl ⟨by rfl, ?_⟩) ?_ ?_
  rotate_left
  · intro w'
    go_simp
    with_reducible rfl
  rotate_left
  · simp only [Act.put, List.setIfInBounds_toArray, List.set_cons_zero, List.set_cons_succ]
    rfl
  refine pure_ (i := 8) (N := some 30) (v := ?_) (a' := ?_) #[true, true, true, true, true, true, true, true, true, false] rfl rfl (any_of HT_.out (by kernel_rfl)) (fun _ _ _ h => h) (Or.inl ⟨by rfl, ?_⟩) ?_ ?_
  rotate_left
  · intro w'
    go_simp
    skip
    all_goals with_reducible rfl
  rotate_left
  · simp only [Act.put, List.setIfInBounds_toArray, List.set_cons_zero, List.set_cons_succ]
    rfl
  refine one_ (i := 9) (N := some 31) #[true, true, true, true, true, true, true, true, true, true] rfl rfl (one_of HT_.out (by kernel_rfl)) (by decide) (fun K_ hK => ?_)
  refine step_copy_cells rfl (.tmp 27) (.tmp 30) 24 24 rfl 3 Try.underlying24 intSize _ _ _ _ _ _ rfl rfl ba (qa + (k + vs.length)) c1 ?n ?pos ?cells ?one ?_
  case n => rw [HL1.out]; show _ = min _ _; omega
  case pos =>
    intro h0
    rw [HL1.out] at h0
    exact ⟨by rw [if_neg (show ¬ c = k + vs.length by omega)], ⟨ba, qa + k, none⟩, rfl, by rw [HC1.out]; exact ((HS.out.drop rfl hk).rd.below (Below.refl _ _).drew).news _ rfl⟩
  case cells => rw [HL1.out]; exact (show SegP w.drew ba qa c _ from HS.out.p).spare (by omega)
  case one => rw [HC1.out]; exact ints_one _
  refine hK.out _ _ trivial (fun _ => ?_)
  clear hK K_
  refine norm_ (a' := ?_) ?_ ?_
  rotate_left
  · show Act.put _ (some 31) _ = _
    simp only [Act.put, List.setIfInBounds_toArray, List.set_cons_zero, List.set_cons_succ]
    rfl
  refine done_ (done_of HT_.out (by kernel_rfl)) ?_
  clear HT_ HW_
  have HP1 := hid (show SegP (w.drew.setCells ba (qa + (k + vs.length)) c1) ba qa c _ from HC1.out ▸ (show SegP w.drew ba qa c _ from HS.out.p).write (k + vs.length) (xs.drop k) (by rw [List.length_drop]; omega))
  have HF1 := hid (show Fz (dz (some ⟨ba, qa, none⟩) c) w (w.drew.setCells ba (qa + (k + vs.length)) c1) from (Fz.refl _ w).drew.trans (Fz.cells c1 _ _) (fun n o _ e => ⟨qa, by rw [e.1], by omega, by have := HL1.out; omega⟩))
  have HV1 := hid (show ∀ ad, Av = some ad → ∀ j u, c2[j]? = some u → (w.drew.setCells ba (qa + (k + vs.length)) c1).cell? (ad.add j) = some u from fun ad e j u hu => (World.cell?_setCells_out ba _ _ _ _ (fun h _ => absurd (by rw [← h]; unfold Addr.add; split <;> rfl) (HD.out ad e))).trans (by rw [HC2.out] at hu; exact (HV.out.below (Below.refl _ _).drew).news ad e j u hu))
  generalize w.drew.setCells ba (qa + (k + vs.length)) c1 = W1 at HP1 HF1 HV1 ⊢
  clear hwr hp0 hp1 hp2
  have HFIN : Hid (Seg (W1.setCells ba (qa + k) c2) (some ⟨ba, qa, none⟩) c (xs.take k ++ vs ++ xs.drop k) ∧ Fz (dz (some ⟨ba, qa, none⟩) c) w (W1.setCells ba (qa + k) c2)) := hid (by
    refine ⟨?_, HF1.out.trans (Fz.cells c2 _ _) (fun n o _ e => ⟨qa, by rw [e.1], by omega, by have := HL2.out; omega⟩)⟩
    rw [HC2.out]
    exact (HP1.out.write k vs (by omega)).seg (by rw [List.length_append, List.length_append, List.length_take, List.length_drop]; omega) (fun i x e => seg_ins hk e))
  have HN2 : Hid (c2.length = vs.length.min (xs.length + vs.length - k)) := hid (by rw [HL2.out]; show _ = min _ _; omega)
  have HP2 : Hid (0 < c2.length → ∃ ad, Av = some ad ∧ ∀ (j : Nat) (v : Value), c2[j]? = some v → W1.cell? (ad.add j) = some v) := hid (fun h0 => by
    cases hA : Av with
    | none => rw [HL2.out, HV.out.nil_ hA] at h0; simp at h0
    | some ad => exact ⟨ad, rfl, HV1.out ad hA⟩)
  have HS2 : Hid (∀ j, j < c2.length → (W1.cell? ⟨ba, qa + k + j, none⟩).isSome = true ∧ W1.frozen? ⟨ba, qa + k + j, none⟩ = false) := hid (by rw [HL2.out]; exact HP1.out.spare (by omega))
  have HO2 : Hid (∀ v ∈ c2, v.oneCell' = true) := hid (by rw [HC2.out]; exact ints_one _)
  go_wp2_with (with_reducible refine wpList_copy_cells rfl (.tmp 34) (.tmp 35) 24 24 rfl 3 Try.underlying24 intSize _ _ _ _ _ _ rfl rfl ba (qa + k) c2 ?n ?pos ?cells ?one ?_)
  all_goals first | exact HN2.out | exact HS2.out | exact HO2.out | (simpa using HP2.out) | skip
  all_goals go_ret
  all_goals first | exact ⟨rfl, HFIN.out.1, HFIN.out.2⟩ | (have hh : c = k + vs.length := by assumption
                                                           unfold Ins
                                                           rw [← hh]
                                                           exact ⟨rfl, HFIN.out.1, HFIN.out.2⟩)
set_option maxHeartbeats 8000000 in
set_option maxRecDepth 100000 in
theorem insert_idle (A Av : Option Addr) (n cv : Nat) (w : World) (hA : A = none → n = 0) (hspot : ∀ ad, A = some ad → ∃ b q, ad = ⟨b, q, none⟩) (hl : n ≤ 1099511627776) :
    Calls Try.prog 38 #[.slice A n n, .int .i64 (n : Int), .slice Av 0 cv] w fun e w' => e = .returned (.slice A n n) ∧ Below w.heap.size w w' := by
  cases A with
  | none =>
    obtain rfl := hA rfl
    have hw0 : IntKind.i64.wrap 0 = 0 := by rw [IntKind.wrap_i64]; rfl
    go_enter Try.func38, Try.ntmps38
    go_wp2_with fail
    refine start_ (n := 10) (S := fun w' => True) (ds := []) #[false, false, false, false, false, false, false, false, false, false] (by kernel_rfl) rfl rfl trivial (fun hHeld => ?_)
    refine with_tabW inr4.tab inr4.bits (fun HT_ HW_ => ?_)
    refine pure_ (i := 0) (N := some 22) (v := ?_) (a' := ?_) #[true, false, false, false, false, false, false, false, false, false] rfl rfl (any_of HT_.out (by kernel_rfl)) (fun _ _ _ h => h) (Or.inl ⟨by rfl, ?_⟩) ?_ ?_
    rotate_left
    · intro w'
      go_simp
      with_reducible rfl
    rotate_left
    · simp only [Act.put, List.setIfInBounds_toArray, List.set_cons_zero, List.set_cons_succ]
      rfl
    refine pure_ (i := 1) (N := some 23) (v := ?_) (a' := ?_) #[true, true, false, false, false, false, false, false, false, false] rfl rfl (any_of HT_.out (by kernel_rfl)) (fun _ _ _ h => h) (Or.inl ⟨by rfl, ?_⟩) ?_ ?_
    rotate_left
    · intro w'
      go_simp
      with_reducible rfl
    rotate_left
    · simp only [Act.put, List.setIfInBounds_toArray, List.set_cons_zero, List.set_cons_succ]
      rfl
    refine pure_ (i := 2) (N := some 24) (v := ?_) (a' := ?_) #[true, true, true, false, false, false, false, false, false, false] rfl rfl (any_of HT_.out (by kernel_rfl)) (fun _ _ _ h => h) (Or.inl ⟨by rfl, ?_⟩) ?_ ?_
    rotate_left
    · intro w'
      go_simp
      with_reducible rfl
    rotate_left
    · simp only [Act.put, List.setIfInBounds_toArray, List.set_cons_zero, List.set_cons_succ]
      rfl
    refine pure_ (i := 3) (N := some 25) (v := ?_) (a' := ?_) #[true, true, true, true, false, false, false, false, false, false] rfl rfl (any_of HT_.out (by kernel_rfl)) (fun _ _ _ h => h) (Or.inl ⟨by rfl, ?_⟩) ?_ ?_
    rotate_left
    · intro w'
      go_simp
      with_reducible rfl
    rotate_left
    · simp only [Act.put, List.setIfInBounds_toArray, List.set_cons_zero, List.set_cons_succ]
      rfl
    refine pure_ (i := 4) (N := some 26) (v := ?_) (a' := ?_) #[true, true, true, true, true, false, false, false, false, false] rfl rfl (any_of HT_.out (by kernel_rfl)) (fun _ _ _ h => h) (Or.inl ⟨by rfl, ?_⟩) ?_ ?_
    rotate_left
    · intro w'
      go_simp
      with_reducible rfl
    rotate_left
    · simp only [Act.put, List.setIfInBounds_toArray, List.set_cons_zero, List.set_cons_succ]
      rfl
    refine pure_ (i := 5) (N := some 27) (v := ?_) (a' := ?_) #[true, true, true, true, true, true, false, false, false, false] rfl rfl (any_of HT_.out (by kernel_rfl)) (fun _ _ _ h => h) (Or.inl ⟨by rfl, ?_⟩) ?_ ?_
    rotate_left
    · intro w'
      go_simp
      skip
      all_goals with_reducible rfl
    rotate_left
    · simp only [Act.put, List.setIfInBounds_toArray, List.set_cons_zero, List.set_cons_succ]
      rfl
    refine pure_ (i := 6) (N := some 28) (v := ?_) (a' := ?_) #[true, true, true, true, true, true, true, false, false, false] rfl rfl (any_of HT_.out (by kernel_rfl)) (fun _ _ _ h => h) (Or.inl ⟨by rfl, ?_⟩) ?_ ?_
    rotate_left
    · intro w'
      go_simp
      with_reducible rfl
    rotate_left
    · simp only [Act.put, List.setIfInBounds_toArray, List.set_cons_zero, List.set_cons_succ]
      rfl
    refine pure_ (i := 7) (N := some 29) (v := ?_) (a' := ?_) #[true, true, true, true, true, true, true, true, false, false] rfl rfl (any_of HT_.out (by kernel_rfl)) (fun _ _ _ h => h) (Or.inl ⟨by rfl, ?_⟩) ?_ ?_
    rotate_left
    · intro w'
      go_simp
      with_reducible rfl
    rotate_left
    · simp only [Act.put, List.setIfInBounds_toArray, List.set_cons_zero, List.set_cons_succ]
      rfl
    refine pure_ (i := 8) (N := some 30) (v := ?_) (a' := ?_) #[true, true, true, true, true, true, true, true, true, false] rfl rfl (any_of HT_.out (by kernel_rfl)) (fun _ _ _ h => h) (Or.inl ⟨by rfl, ?_⟩) ?_ ?_
    rotate_left
    · intro w'
      go_simp
      skip
      all_goals with_reducible rfl
    rotate_left
    · simp only [Act.put, List.setIfInBounds_toArray, List.set_cons_zero, List.set_cons_succ]
      rfl
    refine one_ (i := 9) (N := some 31) #[true, true, true, true, true, true, true, true, true, true] rfl rfl (one_of HT_.out (by kernel_rfl)) (by decide) (fun K_ hK => ?_)
    refine step_copy_cells rfl (.tmp 27) (.tmp 30) 24 24 rfl 3 Try.underlying24 intSize _ _ _ _ _ _ rfl rfl 0 0 [] (by simp) (fun h0 => absurd h0 (by simp)) (fun j hj => absurd hj (by simp)) (fun v hv => absurd hv (by simp)) ?_
    refine hK.out _ _ trivial (fun _ => ?_)
    clear hK K_
    refine norm_ (a' := ?_) ?_ ?_
    rotate_left
    · show Act.put _ (some 31) _ = _
      simp only [Act.put, List.setIfInBounds_toArray, List.set_cons_zero, List.set_cons_succ]
      rfl
    refine done_ (done_of HT_.out (by kernel_rfl)) ?_
    clear HT_ HW_
    go_wp2_with (with_reducible refine wpList_copy_cells rfl (.tmp 34) (.tmp 35) 24 24 rfl 3 Try.underlying24 intSize _ _ _ _ _ _ rfl rfl 0 0 [] (by simp) (fun h0 => absurd h0 (by simp)) (fun j hj => absurd hj (by simp)) (fun v hv => absurd hv (by simp)) ?_)
    all_goals go_ret
    all_goals exact ⟨rfl, (Below.refl _ _).drew⟩
  | some ad =>
    obtain ⟨ba, qa, rfl⟩ := hspot ad rfl
    clear hA hspot
    have hwn : IntKind.i64.wrap (n : Int) = (n : Int) := by rw [IntKind.wrap_i64]; omega
    go_enter Try.func38, Try.ntmps38
    go_wp2_with fail
    refine start_ (n := 10) (S := fun w' => True) (ds := []) #[false, false, false, false, false, false, false, false, false, false] (by kernel_rfl) rfl rfl trivial (fun hHeld => ?_)
    refine with_tabW inr4.tab inr4.bits (fun HT_ HW_ => ?_)
    refine pure_ (i := 0) (N := some 22) (v := ?_) (a' := ?_) #[true, false, false, false, false, false, false, false, false, false] rfl rfl (any_of HT_.out (by kernel_rfl)) (fun _ _ _ h => h) (Or.inl ⟨by rfl, ?_⟩) ?_ ?_
    rotate_left
    · intro w'
      go_simp
      with_reducible rfl
    rotate_left
    · simp only [Act.put, List.setIfInBounds_toArray, List.set_cons_zero, List.set_cons_succ]
      rfl
    refine pure_ (i := 1) (N := some 23) (v := ?_) (a' := ?_) #[true, true, false, false, false, false, false, false, false, false] rfl rfl (any_of HT_.out (by kernel_rfl)) (fun _ _ _ h => h) (Or.inl ⟨by rfl, ?_⟩) ?_ ?_
    rotate_left
    · intro w'
      go_simp
      with_reducible rfl
    rotate_left
    · simp only [Act.put, List.setIfInBounds_toArray, List.set_cons_zero, List.set_cons_succ]
      rfl
    refine pure_ (i := 2) (N := some 24) (v := ?_) (a' := ?_) #[true, true, true, false, false, false, false, false, false, false] rfl rfl (any_of HT_.out (by kernel_rfl)) (fun _ _ _ h => h) (Or.inl ⟨by rfl, ?_⟩) ?_ ?_
    rotate_left
    · intro w'
      go_simp
      with_reducible rfl
    rotate_left
    · simp only [Act.put, List.setIfInBounds_toArray, List.set_cons_zero, List.set_cons_succ]
      rfl
    refine pure_ (i := 3) (N := some 25) (v := ?_) (a' := ?_) #[true, true, true, true, false, false, false, false, false, false] rfl rfl (any_of HT_.out (by kernel_rfl)) (fun _ _ _ h => h) (Or.inl ⟨by rfl, ?_⟩) ?_ ?_
    rotate_left
    · intro w'
      go_simp
      with_reducible rfl
    rotate_left
    · simp only [Act.put, List.setIfInBounds_toArray, List.set_cons_zero, List.set_cons_succ]
      rfl
    refine pure_ (i := 4) (N := some 26) (v := ?_) (a' := ?_) #[true, true, true, true, true, false, false, false, false, false] rfl rfl (any_of HT_.out (by kernel_rfl)) (fun _ _ _ h => h) (Or.inl ⟨by rfl, ?_⟩) ?_ ?_
    rotate_left
    · intro w'
      go_simp
      with_reducible rfl
    rotate_left
    · simp only [Act.put, List.setIfInBounds_toArray, List.set_cons_zero, List.set_cons_succ]
      rfl
    refine pure_ (i := 5) (N := some 27) (v := ?_) (a' := ?_) #[true, true, true, true, true, true, false, false, false, false] rfl rfl (any_of HT_.out (by kernel_rfl)) (fun _ _ _ h => h) (Or.inl ⟨by rfl, ?_⟩) ?_ ?_
    rotate_left
    · intro w'
      go_simp
      skip
      all_goals with_reducible rfl
    rotate_left
    · simp only [Act.put, List.setIfInBounds_toArray, List.set_cons_zero, List.set_cons_succ]
      rfl
    refine pure_ (i := 6) (N := some 28) (v := ?_) (a' := ?_) #[true, true, true, true, true, true, true, false, false, false] rfl rfl (any_of HT_.out (by kernel_rfl)) (fun _ _ _ h => h) (Or.inl ⟨by rfl, ?_⟩) ?_ ?_
    rotate_left
    · intro w'
      go_simp
      with_reducible rfl
    rotate_left
    · simp only [Act.put, List.setIfInBounds_toArray, List.set_cons_zero, List.set_cons_succ]
      rfl
    refine pure_ (i := 7) (N := some 29) (v := ?_) (a' := ?_) #[true, true, true, true, true, true, true, true, false, false] rfl rfl (any_of HT_.out (by kernel_rfl)) (fun _ _ _ h => h) (Or.inl ⟨by rfl, ?_⟩) ?_ ?_
    rotate_left
    · intro w'
      go_simp
      with_reducible rfl
    rotate_left
    · simp only [Act.put, List.setIfInBounds_toArray, List.set_cons_zero, List.set_cons_succ]
      rfl
    refine pure_ (i := 8) (N := some 30) (v := ?_) (a' := ?_) #[true, true, true, true, true, true, true, true, true, false] rfl rfl (any_of HT_.out (by kernel_rfl)) (fun _ _ _ h => h) (Or.inl ⟨by rfl, ?_⟩) ?_ ?_
    rotate_left
    · intro w'
      go_simp
      skip
      all_goals with_reducible rfl
    rotate_left
    · simp only [Act.put, List.setIfInBounds_toArray, List.set_cons_zero, List.set_cons_succ]
      rfl
    refine one_ (i := 9) (N := some 31) #[true, true, true, true, true, true, true, true, true, true] rfl rfl (one_of HT_.out (by kernel_rfl)) (by decide) (fun K_ hK => ?_)
    refine step_copy_cells rfl (.tmp 27) (.tmp 30) 24 24 rfl 3 Try.underlying24 intSize _ _ _ _ _ _ rfl rfl 0 0 [] (by simp) (fun h0 => absurd h0 (by simp)) (fun j hj => absurd hj (by simp)) (fun v hv => absurd hv (by simp)) ?_
    refine hK.out _ _ trivial (fun _ => ?_)
    clear hK K_
    refine norm_ (a' := ?_) ?_ ?_
    rotate_left
    · show Act.put _ (some 31) _ = _
      simp only [Act.put, List.setIfInBounds_toArray, List.set_cons_zero, List.set_cons_succ]
      rfl
    refine done_ (done_of HT_.out (by kernel_rfl)) ?_
    clear HT_ HW_
    go_wp2_with (with_reducible refine wpList_copy_cells rfl (.tmp 34) (.tmp 35) 24 24 rfl 3 Try.underlying24 intSize _ _ _ _ _ _ rfl rfl 0 0 [] (by simp) (fun h0 => absurd h0 (by simp)) (fun j hj => absurd hj (by simp)) (fun v hv => absurd hv (by simp)) ?_)
    all_goals go_ret
    all_goals exact ⟨rfl, (Below.refl _ _).drew⟩
set_option maxHeartbeats 8000000 in
set_option maxRecDepth 100000 in
theorem insert_grow (ba qa : Nat) (Av : Option Addr) (c cv k : Nat) (xs vs : List Int) (w : World) (hS : Rd w (some ⟨ba, qa, none⟩) c xs) (hV : Rd w Av cv vs) (hk : k ≤ xs.length) (hxc : xs.length ≤ c) (hr : c < xs.length + vs.length) (hl : xs.length + vs.length ≤ 1099511627776) :
    Calls Try.prog 38 #[.slice (some ⟨ba, qa, none⟩) xs.length c, .int .i64 (k : Int), .slice Av vs.length cv] w (Grow xs vs k w) := by
  have HS := hid hS
  have HV := hid hV
  have HK := hid (And.intro hk (And.intro hr hxc))
  obtain ⟨i, hi, hz, hsz, hby⟩ := infoInt
  obtain ⟨c1, hc1⟩ : ∃ c1, c1 = (xs.take k).map (Value.int .i64) := ⟨_, rfl⟩
  obtain ⟨c2, hc2⟩ : ∃ c2, c2 = vs.map (Value.int .i64) := ⟨_, rfl⟩
  obtain ⟨c3, hc3⟩ : ∃ c3, c3 = (xs.drop k).map (Value.int .i64) := ⟨_, rfl⟩
  have HC1 := hid hc1
  have HC2 := hid hc2
  have HC3 := hid hc3
  have HL1 : Hid (c1.length = k) := hid (by rw [hc1, List.length_map, slice_lo hk])
  have HL2 : Hid (c2.length = vs.length) := hid (by rw [hc2, List.length_map])
  have HL3 : Hid (c3.length = xs.length - k) := hid (by rw [hc3, List.length_map, List.length_drop])
  have hs : wrap64 ((xs.length : Int) + (vs.length : Int)) = ((xs.length + vs.length : Nat) : Int) := by rw [IntWalk.wrap64_in _ (by omega)]; omega
  have HSUM := hid hs
  have hkc : k ≤ c := by omega
  have hnk : ¬ xs.length + vs.length = k := by omega
  clear hS hV hc1 hc2 hc3 hs
  go_enter Try.func38, Try.ntmps38
  go_wp2_with (first
    | (at_make; refine wpList_make_full _ rfl _ _ 24 rfl w.heap.size 3 i (.int .i64 0) 1 Try.underlying24 hi hz hsz .i64 .i64 _ _ (xs.length + vs.length) rfl rfl (by first | omega | exact HSUM.out) (by first | omega | exact HSUM.out) (by rw [hby]; omega) (by unfold maxLen; omega) (Nat.le_refl _) ?_; intro w1 o1 g1; have HP1 := hid (SegP.made o1); have HB1 : Hid (Below w.heap.size w w1) := hid ⟨g1.os, g1.tape, g1.output, g1.size, fun k hk => g1.block k hk (by simp)⟩; have HR1 : Hid (∀ j u, c1[j]? = some u → w1.cell? ((⟨ba, qa, none⟩ : Addr).add j) = some u) := hid (by rw [HC1.out]; exact Rd.news (c := c) ⟨HS.out.none_, (fun e => by cases e), fun ad e j x hx => pw_cell_below HB1.out (HS.out.at_ ad e j x (by rw [List.getElem?_take] at hx; split at hx <;> first | exact hx | cases hx))⟩ _ rfl); clear o1 g1)
    | (with_reducible refine wpList_copy_cells rfl (.tmp 44) (.tmp 47) 24 24 rfl 3 Try.underlying24 intSize _ _ _ _ _ _ rfl rfl w.heap.size 0 c1 (by rw [HL1.out]; show _ = min _ _; omega) (fun _ => ⟨rfl, _, rfl, HR1.out⟩) (by rw [HL1.out]; exact HP1.out.spare0 (by omega)) (by rw [HC1.out]; exact ints_one _) ?_; have HP2 := hid (show SegP (w1.setCells w.heap.size 0 c1) w.heap.size 0 (xs.length + vs.length) _ from HC1.out ▸ HP1.out.write0 0 (xs.take k) (by rw [slice_lo HK.out.1]; omega)); have HB2 := hid (cells_below HB1.out (Nat.le_refl _) 0 c1); have HR2 : Hid (0 < c2.length → ∃ ad, Av = some ad ∧ ∀ (j : Nat) (v : Value), c2[j]? = some v → (w1.setCells w.heap.size 0 c1).cell? (ad.add j) = some v) := hid (fun h0 => by
        cases hA : Av with
        | none => rw [HL2.out, HV.out.nil_ hA] at h0; simp at h0
        | some ad => exact ⟨ad, rfl, by rw [HC2.out]; exact (HV.out.below HB2.out).news ad hA⟩); generalize w1.setCells w.heap.size 0 c1 = W2 at HP2 HB2 HR2 ⊢)
    | (with_reducible refine wpList_copy_cells rfl (.tmp 51) (.tmp 52) 24 24 rfl 3 Try.underlying24 intSize _ _ _ _ _ _ rfl rfl w.heap.size k c2 (by rw [HL2.out]; show _ = min _ _; omega) (fun h0 => ⟨rfl, HR2.out h0⟩) (by rw [HL2.out]; exact HP2.out.spare0 (by omega)) (by rw [HC2.out]; exact ints_one _) ?_))
  have HP4 := hid (show SegP (W2.setCells w.heap.size k c2) w.heap.size 0 (xs.length + vs.length) _ from HC2.out ▸ HP2.out.write0 k vs (by omega))
  have HB4 := hid (cells_below HB2.out (Nat.le_refl _) k c2)
  generalize W2.setCells w.heap.size k c2 = W4 at HP4 HB4 ⊢
  have HP3 : Hid (0 < c3.length → (if xs.length + vs.length = k + vs.length then some (⟨w.heap.size, 0, none⟩ : Addr) else some ⟨w.heap.size, k + vs.length, none⟩) = some ⟨w.heap.size, k + vs.length, none⟩ ∧ ∃ ad, (if c = k then some (⟨ba, qa, none⟩ : Addr) else some ⟨ba, qa + k, none⟩) = some ad ∧ ∀ (j : Nat) (v : Value), c3[j]? = some v → W4.drew.cell? (ad.add j) = some v) := hid (fun h0 => by
    rw [HL3.out] at h0
    refine ⟨by rw [if_neg (by omega)], ⟨ba, qa + k, none⟩, by rw [if_neg (by omega)], ?_⟩
    rw [HC3.out]
    have h1 := (HS.out.below (w' := W4.drew) HB4.out.drew).part (a := k) (c := c - k) rfl (xs.length - k)
    rw [List.take_of_length_le (by rw [List.length_drop]; exact Nat.le_refl _)] at h1
    exact h1.news _ rfl)
  have HS3 : Hid (∀ j, j < c3.length → (W4.drew.cell? ⟨w.heap.size, k + vs.length + j, none⟩).isSome = true ∧ W4.drew.frozen? ⟨w.heap.size, k + vs.length + j, none⟩ = false) := hid (by rw [HL3.out]; exact (show SegP W4.drew w.heap.size 0 (xs.length + vs.length) _ from HP4.out).spare0 (by omega))
  have hwr : IntKind.i64.wrap ((k : Int) + (vs.length : Int)) = (k : Int) + (vs.length : Int) := by rw [IntKind.wrap_i64]; omega
  have hp0 : (0 : Int) ≤ (k : Int) + (vs.length : Int) := by omega
  have hp1 : (k : Int) + (vs.length : Int) ≤ ((xs.length + vs.length : Nat) : Int) := by omega
  have hp2 : ((k : Int) + (vs.length : Int)).toNat = k + vs.length := by omega
  refine start_ (n := 10) (S := fun w' => True) (ds := []) #[false, false, false, false, false, false, false, false, false, false] (by kernel_rfl) rfl rfl trivial (fun hHeld => ?_)
  refine with_tabW inr10.tab inr10.bits (fun HT_ HW_ => ?_)
  refine pure_ (i := 0) (N := some 54) (v := ?_) (a' := ?_) #[true, false, false, false, false, false, false, false, false, false] rfl rfl (any_of HT_.out (by kernel_rfl)) (fun _ _ _ h => h) (Or.inl ⟨by rfl, ?_⟩) ?_ ?_
  rotate_left
  · intro w'
    go_simp
    with_reducible rfl
  rotate_left
  · simp only [Act.put, List.setIfInBounds_toArray, List.set_cons_zero, List.set_cons_succ]
    rfl
  refine pure_ (i := 1) (N := some 55) (v := ?_) (a' := ?_) #[true, true, false, false, false, false, false, false, false, false] rfl rfl (any_of HT_.out (by kernel_rfl)) (fun _ _ _ h => h) (Or.inl ⟨by rfl, ?_⟩) ?_ ?_
  rotate_left
  · intro w'
    go_simp
    with_reducible rfl
  rotate_left
  · simp only [Act.put, List.setIfInBounds_toArray, List.set_cons_zero, List.set_cons_succ]
    rfl
  refine pure_ (i := 2) (N := some 56) (v := ?_) (a' := ?_) #[true, true, true, false, false, false, false, false, false, false] rfl rfl (any_of HT_.out (by kernel_rfl)) (fun _ _ _ h => h) (Or.inl ⟨by rfl, ?_⟩) ?_ ?_
  rotate_left
  · intro w'
    go_simp
    with_reducible rfl
  rotate_left
  · simp only [Act.put, List.setIfInBounds_toArray, List.set_cons_zero, List.set_cons_succ]
    rfl
  refine pure_ (i := 3) (N := some 57) (v := ?_) (a' := ?_) #[true, true, true, true, false, false, false, false, false, false] rfl rfl (any_of HT_.out (by kernel_rfl)) (fun _ _ _ h => h) (Or.inl ⟨by rfl, ?_⟩) ?_ ?_
  rotate_left
  · intro w'
    go_simp
    with_reducible rfl
  rotate_left
  · simp only [Act.put, List.setIfInBounds_toArray, List.set_cons_zero, List.set_cons_succ]
    rfl
  refine pure_ (i := 4) (N := some 58) (v := ?_) (a' := ?_) #[true, true, true, true, true, false, false, false, false, false] rfl rfl (any_of HT_.out (by kernel_rfl)) (fun _ _ _ h => h) (Or.inl ⟨by rfl, ?_⟩) ?_ ?_
  rotate_left
  · intro w'
    go_simp
    with_reducible rfl
  rotate_left
  · simp only [Act.put, List.setIfInBounds_toArray, List.set_cons_zero, List.set_cons_succ]
    rfl
  refine pure_ (i := 5) (N := some 59) (v := ?_) (a' := ?_) #[true, true, true, true, true, true, false, false, false, false] rfl rfl (any_of HT_.out (by kernel_rfl)) (fun _ _ _ h => h) (Or.inl ⟨by rfl, ?_⟩) ?_ ?_
  rotate_left
  · intro w'
    go_simp
    skip
    all_goals with_reducible rfl
  rotate_left
  · simp only [Act.put, List.setIfInBounds_toArray, List.set_cons_zero, List.set_cons_succ]
    rfl
  refine pure_ (i := 6) (N := some 60) (v := ?_) (a' := ?_) #[true, true, true, true, true, true, true, false, false, false] rfl rfl (any_of HT_.out (by kernel_rfl)) (fun _ _ _ h => h) (Or.inl ⟨by rfl, ?_⟩) ?_ ?_
  rotate_left
  · intro w'
    go_simp
    with_reducible rfl
  rotate_left
  · simp only [Act.put, List.setIfInBounds_toArray, List.set_cons_zero, List.set_cons_succ]
    rfl
  refine pure_ (i := 7) (N := some 61) (v := ?_) (a' := ?_) #[true, true, true, true, true, true, true, true, false, false] rfl rfl (any_of HT_.out (by kernel_rfl)) (fun _ _ _ h => h) (Or.inl ⟨by rfl, ?_⟩) ?_ ?_
  rotate_left
  · intro w'
    go_simp
    with_reducible rfl
  rotate_left
  · simp only [Act.put, List.setIfInBounds_toArray, List.set_cons_zero, List.set_cons_succ]
    rfl
  refine pure_ (i := 8) (N := some 62) (v := ?_) (a' := ?_) #[true, true, true, true, true, true, true, true, true, false] rfl rfl (any_of HT_.out (by kernel_rfl)) (fun _ _ _ h => h) (Or.inl ⟨by rfl, ?_⟩) ?_ ?_
  rotate_left
  · intro w'
    go_simp
    skip
    all_goals with_reducible rfl
  rotate_left
  · simp only [Act.put, List.setIfInBounds_toArray, List.set_cons_zero, List.set_cons_succ]
    rfl
  refine one_ (i := 9) (N := some 63) #[true, true, true, true, true, true, true, true, true, true] rfl rfl (one_of HT_.out (by kernel_rfl)) (by decide) (fun K_ hK => ?_)
  refine step_copy_cells rfl (.tmp 59) (.tmp 62) 24 24 rfl 3 Try.underlying24 intSize _ _ _ _ _ _ rfl rfl w.heap.size (k + vs.length) c3 ?n ?pos ?cells ?one ?_
  case n => rw [HL3.out]; show _ = min _ _; omega
  case pos => simpa using HP3.out
  case cells => exact HS3.out
  case one => rw [HC3.out]; exact ints_one _
  refine hK.out _ _ trivial (fun _ => ?_)
  clear hK K_
  refine norm_ (a' := ?_) ?_ ?_
  rotate_left
  · show Act.put _ (some 63) _ = _
    simp only [Act.put, List.setIfInBounds_toArray, List.set_cons_zero, List.set_cons_succ]
    rfl
  refine done_ (done_of HT_.out (by kernel_rfl)) ?_
  clear HT_ HW_
  go_wp2_with fail
  all_goals go_ret
  all_goals (
    refine ⟨by first | rfl | (rw [show xs.length = k by omega]; rfl), ?_, cells_below HB4.out.drew (Nat.le_refl _) _ _⟩
    rw [HC3.out]
    exact ((show SegP W4.drew w.heap.size 0 (xs.length + vs.length) _ from HP4.out).write0 (k + vs.length) (xs.drop k) (by rw [List.length_drop]; omega)).seg (by rw [List.length_append, List.length_append, List.length_take, List.length_drop]; omega) (fun i x e => seg_ins3 HK.out.1 e))
set_option maxHeartbeats 8000000 in
set_option maxRecDepth 100000 in
theorem insert_grow0 (Av : Option Addr) (cv : Nat) (vs : List Int) (w : World) (hV : Rd w Av cv vs) (hr : 0 < vs.length) (hl : vs.length ≤ 1099511627776) :
    Calls Try.prog 38 #[.slice none 0 0, .int .i64 0, .slice Av vs.length cv] w (Grow [] vs 0 w) := by
  have HV := hid hV
  obtain ⟨i, hi, hz, hsz, hby⟩ := infoInt
  obtain ⟨c2, hc2⟩ : ∃ c2, c2 = vs.map (Value.int .i64) := ⟨_, rfl⟩
  have HC2 := hid hc2
  have HL2 : Hid (c2.length = vs.length) := hid (by rw [hc2, List.length_map])
  clear hV hc2
  have hv0 : ¬ vs.length = 0 := by omega
  go_enter Try.func38, Try.ntmps38
  go_wp2_with (first
    | (at_make; refine wpList_make_full _ rfl _ _ 24 rfl w.heap.size 3 i (.int .i64 0) 1 Try.underlying24 hi hz hsz .i64 .i64 _ _ vs.length rfl rfl (by first | rfl | omega | simp) (by first | rfl | omega | simp) (by rw [hby]; omega) (by unfold maxLen; omega) (Nat.le_refl _) ?_; intro w1 o1 g1; have HP1 := hid (SegP.made o1); have HB1 : Hid (Below w.heap.size w w1) := hid ⟨g1.os, g1.tape, g1.output, g1.size, fun k hk => g1.block k hk (by simp)⟩; have HR2 : Hid (0 < c2.length → ∃ ad, Av = some ad ∧ ∀ (j : Nat) (v : Value), c2[j]? = some v → w1.cell? (ad.add j) = some v) := hid (fun h0 => by
        cases hA : Av with
        | none => rw [HL2.out, HV.out.nil_ hA] at h0; simp at h0
        | some ad => exact ⟨ad, rfl, by rw [HC2.out]; exact (HV.out.below HB1.out).news ad hA⟩); clear o1 g1)
    | (with_reducible refine wpList_copy_cells rfl (.tmp 44) (.tmp 47) 24 24 rfl 3 Try.underlying24 intSize _ _ _ _ _ _ rfl rfl 0 0 [] (by simp) (fun h0 => absurd h0 (by simp)) (fun j hj => absurd hj (by simp)) (fun v hv => absurd hv (by simp)) ?_; rw [show ∀ W : World, W.setCells 0 0 [] = W from fun _ => rfl])
    | (with_reducible refine wpList_copy_cells rfl (.tmp 51) (.tmp 52) 24 24 rfl 3 Try.underlying24 intSize _ _ _ _ _ _ rfl rfl w.heap.size 0 c2 (by rw [HL2.out]; show _ = min _ _; omega) (fun h0 => ⟨rfl, HR2.out h0⟩) (by rw [HL2.out]; exact HP1.out.spare0 (by omega)) (by rw [HC2.out]; exact ints_one _) ?_))
  have HP4 := hid (show SegP (w1.setCells w.heap.size 0 c2) w.heap.size 0 vs.length _ from HC2.out ▸ HP1.out.write0 0 vs (by omega))
  have HB4 := hid (cells_below HB1.out (Nat.le_refl _) 0 c2)
  generalize w1.setCells w.heap.size 0 c2 = W4 at HP4 HB4 ⊢
  have hwr : IntKind.i64.wrap (vs.length : Int) = (vs.length : Int) := by rw [IntKind.wrap_i64]; omega
  have hw0 : IntKind.i64.wrap 0 = 0 := by rw [IntKind.wrap_i64]; rfl
  refine start_ (n := 10) (S := fun w' => True) (ds := []) #[false, false, false, false, false, false, false, false, false, false] (by kernel_rfl) rfl rfl trivial (fun hHeld => ?_)
  refine with_tabW inr10.tab inr10.bits (fun HT_ HW_ => ?_)
  refine pure_ (i := 0) (N := some 54) (v := ?_) (a' := ?_) #[true, false, false, false, false, false, false, false, false, false] rfl rfl (any_of HT_.out (by kernel_rfl)) (fun _ _ _ h => h) (Or.inl ⟨by rfl, ?_⟩) ?_ ?_
  rotate_left
  · intro w'
    go_simp
    with_reducible rfl
  rotate_left
  · simp only [Act.put, List.setIfInBounds_toArray, List.set_cons_zero, List.set_cons_succ]
    rfl
  refine pure_ (i := 1) (N := some 55) (v := ?_) (a' := ?_) #[true, true, false, false, false, false, false, false, false, false] rfl rfl (any_of HT_.out (by kernel_rfl)) (fun _ _ _ h => h) (Or.inl ⟨by rfl, ?_⟩) ?_ ?_
  rotate_left
  · intro w'
    go_simp
    with_reducible rfl
  rotate_left
  · simp only [Act.put, List.setIfInBounds_toArray, List.set_cons_zero, List.set_cons_succ]
    rfl
  refine pure_ (i := 2) (N := some 56) (v := ?_) (a' := ?_) #[true, true, true, false, false, false, false, false, false, false] rfl rfl (any_of HT_.out (by kernel_rfl)) (fun _ _ _ h => h) (Or.inl ⟨by rfl, ?_⟩) ?_ ?_
  rotate_left
  · intro w'
    go_simp
    with_reducible rfl
  rotate_left
  · simp only [Act.put, List.setIfInBounds_toArray, List.set_cons_zero, List.set_cons_succ]
    rfl
  refine pure_ (i := 3) (N := some 57) (v := ?_) (a' := ?_) #[true, true, true, true, false, false, false, false, false, false] rfl rfl (any_of HT_.out (by kernel_rfl)) (fun _ _ _ h => h) (Or.inl ⟨by rfl, ?_⟩) ?_ ?_
  rotate_left
  · intro w'
    go_simp
    with_reducible rfl
  rotate_left
  · simp only [Act.put, List.setIfInBounds_toArray, List.set_cons_zero, List.set_cons_succ]
    rfl
  refine pure_ (i := 4) (N := some 58) (v := ?_) (a' := ?_) #[true, true, true, true, true, false, false, false, false, false] rfl rfl (any_of HT_.out (by kernel_rfl)) (fun _ _ _ h => h) (Or.inl ⟨by rfl, ?_⟩) ?_ ?_
  rotate_left
  · intro w'
    go_simp
    with_reducible rfl
  rotate_left
  · simp only [Act.put, List.setIfInBounds_toArray, List.set_cons_zero, List.set_cons_succ]
    rfl
  refine pure_ (i := 5) (N := some 59) (v := ?_) (a' := ?_) #[true, true, true, true, true, true, false, false, false, false] rfl rfl (any_of HT_.out (by kernel_rfl)) (fun _ _ _ h => h) (Or.inl ⟨by rfl, ?_⟩) ?_ ?_
  rotate_left
  · intro w'
    go_simp
    skip
    all_goals with_reducible rfl
  rotate_left
  · simp only [Act.put, List.setIfInBounds_toArray, List.set_cons_zero, List.set_cons_succ]
    rfl
  refine pure_ (i := 6) (N := some 60) (v := ?_) (a' := ?_) #[true, true, true, true, true, true, true, false, false, false] rfl rfl (any_of HT_.out (by kernel_rfl)) (fun _ _ _ h => h) (Or.inl ⟨by rfl, ?_⟩) ?_ ?_
  rotate_left
  · intro w'
    go_simp
    with_reducible rfl
  rotate_left
  · simp only [Act.put, List.setIfInBounds_toArray, List.set_cons_zero, List.set_cons_succ]
    rfl
  refine pure_ (i := 7) (N := some 61) (v := ?_) (a' := ?_) #[true, true, true, true, true, true, true, true, false, false] rfl rfl (any_of HT_.out (by kernel_rfl)) (fun _ _ _ h => h) (Or.inl ⟨by rfl, ?_⟩) ?_ ?_
  rotate_left
  · intro w'
    go_simp
    with_reducible rfl
  rotate_left
  · simp only [Act.put, List.setIfInBounds_toArray, List.set_cons_zero, List.set_cons_succ]
    rfl
  refine pure_ (i := 8) (N := some 62) (v := ?_) (a' := ?_) #[true, true, true, true, true, true, true, true, true, false] rfl rfl (any_of HT_.out (by kernel_rfl)) (fun _ _ _ h => h) (Or.inl ⟨by rfl, ?_⟩) ?_ ?_
  rotate_left
  · intro w'
    go_simp
    skip
    all_goals with_reducible rfl
  rotate_left
  · simp only [Act.put, List.setIfInBounds_toArray, List.set_cons_zero, List.set_cons_succ]
    rfl
  refine one_ (i := 9) (N := some 63) #[true, true, true, true, true, true, true, true, true, true] rfl rfl (one_of HT_.out (by kernel_rfl)) (by decide) (fun K_ hK => ?_)
  refine step_copy_cells rfl (.tmp 59) (.tmp 62) 24 24 rfl 3 Try.underlying24 intSize _ _ _ _ _ _ rfl rfl 0 0 [] (by simp) (fun h0 => absurd h0 (by simp)) (fun j hj => absurd hj (by simp)) (fun v hv => absurd hv (by simp)) ?_
  refine hK.out _ _ trivial (fun _ => ?_)
  clear hK K_
  refine norm_ (a' := ?_) ?_ ?_
  rotate_left
  · show Act.put _ (some 63) _ = _
    simp only [Act.put, List.setIfInBounds_toArray, List.set_cons_zero, List.set_cons_succ]
    rfl
  refine done_ (done_of HT_.out (by kernel_rfl)) ?_
  clear HT_ HW_
  go_wp2_with fail
  all_goals go_ret
  all_goals (
    refine ⟨by first | rfl | (simp; done), ?_, HB4.out.drew⟩
    simp only [List.length_nil, Nat.zero_add, List.take_nil, List.nil_append, List.drop_nil, List.append_nil]
    refine (show SegP W4.drew w.heap.size 0 vs.length _ from HP4.out).seg (Nat.le_refl _) (fun i x e => ?_)
    have hlt := (List.getElem?_eq_some_iff.1 e).1
    show (if 0 ≤ i ∧ i < 0 + vs.length then vs[i - 0]? else none) = some x
    rw [if_pos ⟨by omega, by omega⟩]
    exact e)
end Go.Proofs.Ytdlnpmbnedmmnaa.Rope
