/- Interval trees in memory: what holds between the steps of a script. For every balanced tree with right heights and greatest ends, and every script. -/
import Derived.Test.YtmnjkdbopafkfaaIntH
namespace Go.Proofs.Ytmnjkdbopafkfaa.Int
open Go Go.RowKit Go.Deep Go.Proofs.Ytmnjkdbopafkfaa.Hk Go.Proofs.Ytmnjkdbopafkfaa.IntPure Go.Proofs.Ytmnjkdbopafkfaa.IntPure.T Go.Proofs.YtmnjkdbopafkfaaW.PrintWords Go.Proofs.YtmnjkdbopafkfaaW.PrintLast Go.Proofs.YtmnjkdbopafkfaaW.PrintMore

theorem even_size : ∀ (n : Nat) {t : T}, Even t → 2 * (n : Int) ≤ tall t → (2 : Int) ^ n ≤ size t + 1
  | 0, t, _, _ => by have := size_nonneg t; simp; omega
  | n + 1, nil, _, h => by simp [tall] at h; omega
  | n + 1, node k v h' l r, he, h => by
    obtain ⟨h1, h2, h3, h4⟩ := he
    have e1 : tall (node k v h' l r) = 1 + max (tall l) (tall r) := rfl
    have e2 : size (node k v h' l r) = 1 + size l + size r := rfl
    rw [e1] at h
    have a1 := even_size n h3 (by omega)
    have a2 := even_size n h4 (by omega)
    rw [e2, Int.pow_succ]
    omega

theorem even_low {t : T} (he : Even t) (hs : size t ≤ 1099511627776) : tall t ≤ 100 := by
  rcases Int.lt_or_le (tall t) 82 with h | h
  · omega
  · have := even_size 41 he (by omega)
    have e : (2 : Int) ^ 41 = 2199023255552 := by decide
    omega
theorem size_reb (t : T) : (T.reb t).size = t.size := by rw [T.size_list, T.size_list, T.list_reb]
theorem size_ins (x : S) (ov : Bool) : ∀ t : T, (T.ins x ov t).1.size ≤ t.size + 1
  | .nil => by simp [T.ins, T.size]
  | .node s h m l r => by
    have hl := size_ins x ov l
    have hr := size_ins x ov r
    have e : T.ins x ov (.node s h m l r) = if x.lo < s.lo then (T.reb (.node s h m (T.ins x ov l).1 r), (T.ins x ov l).2) else if x.lo > s.lo then (T.reb (.node s h m l (T.ins x ov r).1), (T.ins x ov r).2)
      else if ov = true then (T.reb (.node x h m l r), s, true) else (.node s h m l r, s, true) := rfl
    rw [e]
    split
    · simp only [size_reb, T.size]; omega
    · split
      · simp only [size_reb, T.size]; omega
      · split
        · simp only [size_reb, T.size]; omega
        · simp only [T.size]; omega
theorem size_rem : ∀ (t : T) (key : Int), (T.rem t key).1.size ≤ t.size
  | .nil, _ => by simp [T.rem, T.size]
  | .node s h m l r, key => by
    have hl := size_rem l key
    have hr := size_rem r key
    have hr2 := size_rem r (T.least r).lo
    have sl := T.size_nonneg l
    have sr := T.size_nonneg r
    have e : T.rem (.node s h m l r) key = if key < s.lo then (T.reb (.node s h m (T.rem l key).1 r), (T.rem l key).2) else if key > s.lo then (T.reb (.node s h m l (T.rem r key).1), (T.rem r key).2)
      else if l.isNil = true then (T.reb r, s, true) else if r.isNil = true then (T.reb l, s, true) else (T.reb (.node (T.least r) h m l (T.rem r (T.least r).lo).1), s, true) := rfl
    rw [e]
    split
    · simp only [size_reb, T.size]; omega
    · split
      · simp only [size_reb, T.size]; omega
      · split
        · simp only [size_reb, T.size]; omega
        · split
          · simp only [size_reb, T.size]; omega
          · simp only [size_reb, T.size]; omega

abbrev Mk := Int × Int × Int × Int
abbrev Fd := (Int × Int × Int) × Bool × List (Int × Int × Int) × Int
def markK : Kd Mk := Kd.pair (Kd.int .i64) (Kd.pair (Kd.int .i64) (Kd.pair (Kd.int .i64) (Kd.int .i64)))
def foundK : Kd Fd := Kd.pair spK (Kd.pair Kd.bool (Kd.pair (Kd.slice 29 spK) (Kd.int .i64)))
theorem und26 : Try.prog.underlying 26 = some (.slice 32) := by kernel_rfl
theorem infoFound : (Try.prog.info? 32).map (fun i => (i.zero, i.size, i.bytes)) = some (some (.agg #[.int .i64 0, .int .i64 0, .int .i64 0, .bool false, .slice none 0 0, .int .i64 0]), 6, 64) := by kernel_rfl
theorem found_M {W : World} {base N0 : Nat} {K : Value} {ks : List (Int × Int × Int)} {ok ok' : Nat → Prop} (hb : base ≤ N0) (hK : spK.R 29 W N0 ok K ks) (hok : ∀ k, K.ownBlock = some k → ok' k) (x y z : Int) (b : Bool) (n : Int) :
    foundK.M W base ok' ((x, y, z), b, ks, n) [.int .i64 x, .int .i64 y, .int .i64 z, .bool b, K, .int .i64 n] :=
  ⟨[_, _, _], [_, _, _], rfl, spK_M _ _ _ _ _ _, [_], [_, _], rfl, rfl, [_], [_], rfl, ⟨_, rfl, Kd.R_lower (Kd.R_reok rfl hK hok) hb⟩, rfl⟩

def kvOf (o : Option S) : S := o.getD ⟨0, 0, 0⟩
def stepT (t : T) (a : Mk) : T := if a.1 = 0 then (T.ins ⟨a.2.1, a.2.2.1, a.2.2.2⟩ true t).1 else if a.1 = 1 then (T.ins ⟨a.2.1, a.2.2.1, a.2.2.2⟩ false t).1 else if a.1 = 2 then (T.rem t a.2.1).1 else t
def tellT (t : T) (a : Mk) : Fd :=
  if a.1 = 0 then (tri (T.ins ⟨a.2.1, a.2.2.1, a.2.2.2⟩ true t).2.1, (T.ins ⟨a.2.1, a.2.2.1, a.2.2.2⟩ true t).2.2, [], 0)
  else if a.1 = 1 then (tri (T.ins ⟨a.2.1, a.2.2.1, a.2.2.2⟩ false t).2.1, (T.ins ⟨a.2.1, a.2.2.1, a.2.2.2⟩ false t).2.2, [], 0)
  else if a.1 = 2 then (tri (T.rem t a.2.1).2.1, (T.rem t a.2.1).2.2, [], 0)
  else if a.1 = 3 then (tri (kvOf (T.find a.2.1 t)), (T.find a.2.1 t).isSome, [], 0)
  else if a.1 = 4 then ((0, 0, 0), false, (T.over a.2.1 a.2.2.1 t).map tri, 0)
  else if a.1 = 5 then ((0, 0, 0), false, all t, 0)
  else if a.1 = 6 then ((0, 0, 0), false, [], t.size)
  else if a.1 = 7 then ((0, 0, 0), false, [], t.ht)
  else ((0, 0, 0), false, [], 0)
def runT : T → List Mk → T
  | t, [] => t
  | t, a :: l => runT (stepT t a) l
def toldT : T → List Mk → List Fd
  | _, [] => []
  | t, a :: l => tellT t a :: toldT (stepT t a) l
theorem toldT_length : ∀ (l : List Mk) (t : T), (toldT t l).length = l.length
  | [], _ => rfl
  | a :: l, t => by simp [toldT, toldT_length l]
theorem size_step (t : T) (a : Mk) : (stepT t a).size ≤ t.size + 1 := by
  unfold stepT
  have h1 := size_ins ⟨a.2.1, a.2.2.1, a.2.2.2⟩ true t
  have h2 := size_ins ⟨a.2.1, a.2.2.1, a.2.2.2⟩ false t
  have h3 := size_rem t a.2.1
  split
  · exact h1
  · split
    · exact h2
    · split
      · omega
      · omega

theorem at_mark {w : World} {A : Option Addr} {n : Nat} {xs : List Mk} (h : Kd.C markK w A n xs) (i : Nat) (hi : i < xs.length) : ∃ ad, A = some ad ∧ w.cell? (ad.add (i * 4)) = some (.int .i64 xs[i].1) ∧
    w.cell? ⟨(ad.add (i * 4)).block, (ad.add (i * 4)).off + 1, none⟩ = some (.int .i64 xs[i].2.1) ∧ w.cell? ⟨(ad.add (i * 4)).block, (ad.add (i * 4)).off + 2, none⟩ = some (.int .i64 xs[i].2.2.1) ∧ w.cell? ⟨(ad.add (i * 4)).block, (ad.add (i * 4)).off + 3, none⟩ = some (.int .i64 xs[i].2.2.2) := by
  have hn := h.1
  obtain ⟨ad, c, e, _, hK, hc0⟩ := Kd.C_get h ((0, 0, 0, 0) : Mk) i (by omega) (by omega)
  have hx : xs.getD (i : Int).toNat (0, 0, 0, 0) = xs[i] := by simp [List.getD_eq_getElem?_getD, hi]
  rw [hx] at hK
  have hc : ∀ j u, c[j]? = some u → w.cell? (ad.add (i * 4 + j)) = some u := hc0
  obtain ⟨c0, c1, rfl, h0, d0, d1, rfl, h1, e0, e1, rfl, h2, h3⟩ := hK
  cases h0; cases h1; cases h2; cases h3
  exact ⟨ad, e, hc 0 _ rfl, by rw [← add_field _ _ 1 (by omega)]; exact hc 1 _ rfl, by rw [← add_field _ _ 2 (by omega)]; exact hc 2 _ rfl, by rw [← add_field _ _ 3 (by omega)]; exact hc 3 _ rfl⟩

/-- What holds between the steps of a script that began at w with the tree t0. -/
structure Inv (base R : Nat) (t0 : N) (w : World) (t : N) (out : Value) (rs : List Fd) (wr : World) : Prop where
  tree : Tree base R t wr
  ids : ∀ b ∈ t.ids, b ∈ t0.ids ∨ w.heap.size ≤ b
  row : Kd.S foundK 32 wr w.heap.size (fun b => b ≠ R ∧ b ∉ t.ids) out rs
  fr : Fr (fun b => b = R ∨ b ∈ t0.ids) w wr

abbrev F8 (x y z : Int) (b : Bool) (K : Value) (n : Int) : Array Value := #[.int .i64 x, .int .i64 y, .int .i64 z, .bool b, K, .int .i64 n]
/-- What holds within a step: s the heap's size at its begin. -/
structure St (base R s : Nat) (t0 : N) (w : World) (t : N) (out : Value) (rs : List Fd) (c8 : Array Value) (kv : S) (K : Value) (ks : List (Int × Int × Int)) (W : World) : Prop where
  tree : Tree base R t W
  ids : ∀ b ∈ t.ids, b ∈ t0.ids ∨ w.heap.size ≤ b
  row : Kd.S foundK 32 W w.heap.size (fun b => (b ≠ R ∧ b ∉ t.ids) ∧ b < s) out rs
  fr : Fr (fun b => b = R ∨ b ∈ t0.ids) w W
  x8 : Blk W (s + 1) c8 32
  x9 : Blk W (s + 2) (kvc kv) 74
  kr : spK.R 29 W (s + 3) (fun _ => True) K ks
  kt : ∀ k, K.ownBlock = some k → k ∉ t.ids
  sz : w.heap.size ≤ s
  rlt : R < s
  o8 : s + 1 ∉ t.ids
  o9 : s + 2 ∉ t.ids
  big : s + 3 ≤ W.heap.size
section
variable {base R s : Nat} {t0 t : N} {w wr W W1 : World} {out : Value} {rs : List Fd} {c8 : Array Value} {kv : S} {K K' : Value} {ks ks' : List (Int × Int × Int)} {c8' : Array Value} {kv' : S}
theorem St.start (h : Inv base R t0 w t out rs wr) (hb : Below wr.heap.size wr W) (h8 : Blk W (wr.heap.size + 1) (F8 0 0 0 false (.slice none 0 0) 0) 32) (h9 : Blk W (wr.heap.size + 2) (kvc ⟨0, 0, 0⟩) 74) :
    St base R wr.heap.size t0 w t out rs (F8 0 0 0 false (.slice none 0 0) 0) ⟨0, 0, 0⟩ (.slice none 0 0) [] W :=
  ⟨h.tree.below hb, h.ids, Kd.S_below (Kd.S_mono (Kd.S_bound h.row) (fun k hk => ⟨hk.1, hk.2.2.1⟩)) hb, h.fr.then (Fr.new hb), h8, h9, Kd.R_nil .., fun k hk => by simp [Value.ownBlock] at hk, h.fr.size, h.tree.lt.1,
    fun hx => by have := h.tree.lt.2 _ hx; omega, fun hx => by have := h.tree.lt.2 _ hx; omega, by have := h9.lt; omega⟩
/-- A step that writes blocks Z, none of those that are told of. -/
theorem St.keep {Z : Nat → Prop} (h : St base R s t0 w t out rs c8 kv K ks W) (hf : Fr Z W W1) (h1 : ∀ b, b < s → ¬ Z b) (h2 : ∀ b ∈ t.ids, ¬ Z b) (h8 : Blk W1 (s + 1) c8' 32) (h9 : Blk W1 (s + 2) (kvc kv') 74) (hk : spK.R 29 W1 (s + 3) (fun _ => True) K' ks') (ht : ∀ k, K'.ownBlock = some k → k ∉ t.ids) :
    St base R s t0 w t out rs c8' kv' K' ks' W1 :=
  ⟨h.tree.fr hf (fun b hb => hb.elim (fun e => h1 b (by have := h.rlt; omega)) (h2 b)), h.ids, Kd.S_step h.row (fun k hk hlt => hf.block k hlt (h1 k hk.2)), h.fr.trans hf (fun n hn hz => absurd hz (h1 n (Nat.lt_of_lt_of_le hn h.sz))), h8, h9, hk, ht, h.sz, h.rlt, h.o8, h.o9, Nat.le_trans h.big hf.size⟩
theorem St.below (h : St base R s t0 w t out rs c8 kv K ks W) (hb : Below W.heap.size W W1) : St base R s t0 w t out rs c8 kv K ks W1 :=
  h.keep (Fr.new (Z := fun _ => False) hb) (fun _ _ h => h) (fun _ _ h => h) (h.x8.fr (Fr.new (Z := fun _ => False) hb) (fun h => h)) (h.x9.fr (Fr.new (Z := fun _ => False) hb) (fun h => h)) (Kd.R_below h.kr hb) h.kt
theorem St.krow (h : St base R s t0 w t out rs c8 kv K ks W) : ∀ k, K.ownBlock = some k → s + 3 ≤ k ∧ k < W.heap.size := rowB h.kr
/-- Behind stores into the told one's box. -/
theorem St.to8 (h : St base R s t0 w t out rs c8 kv K ks W) (hf : Fr (· = s + 1) W W1) (h8 : Blk W1 (s + 1) c8' 32) : St base R s t0 w t out rs c8' kv K ks W1 := by
  refine h.keep hf (fun b hb e => by omega) (fun b hb e => h.o8 (e ▸ hb)) h8 (h.x9.fr hf (by omega)) ?_ h.kt
  exact Kd.R_mono (Kd.R_step (Kd.R_reok (ok := fun b => b ≠ s + 1) rfl h.kr (fun b hb => by have := h.krow b hb; omega)) (fun k hk hlt => hf.block k hlt hk)) (fun _ _ => trivial)
/-- Behind stores into the other box. -/
theorem St.to9 (h : St base R s t0 w t out rs c8 kv K ks W) (hf : Fr (· = s + 2) W W1) (h9 : Blk W1 (s + 2) (kvc kv') 74) : St base R s t0 w t out rs c8 kv' K ks W1 := by
  refine h.keep hf (fun b hb e => by omega) (fun b hb e => h.o9 (e ▸ hb)) (h.x8.fr hf (by omega)) h9 ?_ h.kt
  exact Kd.R_mono (Kd.R_step (Kd.R_reok (ok := fun b => b ≠ s + 2) rfl h.kr (fun b hb => by have := h.krow b hb; omega)) (fun k hk hlt => hf.block k hlt hk)) (fun _ _ => trivial)
/-- Behind a step that turns the tree. -/
theorem St.turned {res : T × S × Bool} {e : Ending} (h : St base R s t0 w t out rs c8 kv (.slice none 0 0) [] W) (hT : Turned base R t res W e W1) :
    ∃ t', e = .returned (.tuple #[.agg #[.int .i64 res.2.1.lo, .int .i64 res.2.1.hi, .int .i64 res.2.1.v], .bool res.2.2]) ∧ t'.raw = res.1 ∧ St base R s t0 w t' out rs c8 kv (.slice none 0 0) [] W1 := by
  obtain ⟨t', he, a2, a1, a3, a4⟩ := hT
  have hbig := h.big
  have hsz := h.sz
  refine ⟨t', he, a2, a1, fun b hb => ?_, ?_, h.fr.trans a3 (fun n hn hk => ?_), h.x8.fr a3 (fun e => ?_), h.x9.fr a3 (fun e => ?_), Kd.R_nil .., fun k hk => by simp [Value.ownBlock] at hk, h.sz, h.rlt, fun hx => ?_, fun hx => ?_, Nat.le_trans hbig a3.size⟩
  · rcases a4 b hb with h1 | h1
    · exact h.ids b h1
    · exact .inr (by omega)
  · refine Kd.S_mono (Kd.S_step (Kd.S_bound h.row) (fun k hk hlt => a3.block k hlt (fun e => ?_))) (fun k hk => ⟨⟨hk.1.1.1, fun hb => ?_⟩, hk.1.2⟩)
    · rcases e with e | e
      · exact hk.1.1.1 e
      · exact hk.1.1.2 e
    · rcases a4 k hb with h1 | h1
      · exact hk.1.1.2 h1
      · have := hk.1.2; omega
  · rcases hk with hk | hk
    · exact .inl hk
    · rcases h.ids n hk with h1 | h1
      · exact .inr h1
      · omega
  · rcases e with e | e
    · have := h.rlt; omega
    · exact h.o8 e
  · rcases e with e | e
    · have := h.rlt; omega
    · exact h.o9 e
  · rcases a4 _ hx with h1 | h1
    · exact h.o8 h1
    · omega
  · rcases a4 _ hx with h1 | h1
    · exact h.o9 h1
    · omega
/-- Behind the append of what a step tells. -/
theorem St.append {v1 : Value} {p : Fd} (h : St base R s t0 w t out rs c8 kv K ks W) (hR : Kd.S foundK 32 W1 w.heap.size (fun b => b ≠ R ∧ b ∉ t.ids) v1 (rs ++ [p])) (hg : W.grownBy W1 out.ownBlock) :
    Inv base R t0 w t v1 (rs ++ [p]) W1 := by
  obtain ⟨_, inner, ho, _⟩ := Kd.S_R h.row
  have hlo : ∀ k, out.ownBlock = some k → w.heap.size ≤ k := fun k hk => (ho.lt k hk).1
  have hf : Fr (fun k => some k = out.ownBlock) W W1 := Fr.of_grown hg
  refine ⟨h.tree.fr hf (fun b hb e => ?_), h.ids, hR, h.fr.trans hf (fun k hk e => ?_)⟩
  · have := (Kd.S_R h.row).1 b e.symm
    rcases hb with hb | hb
    · exact this.1.1 hb
    · exact this.1.2 hb
  · have := hlo k e.symm; omega
theorem St.okp (h : St base R s t0 w t out rs c8 kv K ks W) : ∀ k, K.ownBlock = some k → (k ≠ R ∧ k ∉ t.ids) ∧ some k ≠ out.ownBlock := fun k hk => by
  have h1 := (h.krow k hk).1
  have h2 := h.rlt
  refine ⟨⟨by omega, h.kt k hk⟩, fun e => ?_⟩
  have := ((Kd.S_R h.row).1 k e.symm).2
  omega
end
end Go.Proofs.Ytmnjkdbopafkfaa.Int
