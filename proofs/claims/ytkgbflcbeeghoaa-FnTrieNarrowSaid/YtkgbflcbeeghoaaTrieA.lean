/- Ternary search tries in memory: what lies where; nodes found, and taken out. For every trie. -/
import Derived.Test.YtkgbflcbeeghoaaProg
import Derived.Test.YtkgbflcbeeghoaaWMore
import Derived.Test.YtkgbflcbeeghoaaHk2
import Derived.Test.YtkgbflcbeeghoaaTriePure
import Derived.Deep.LoopGhost
namespace Go.Proofs.Ytkgbflcbeeghoaa.Trie
open Go Go.RowKit Go.Proofs.Ytkgbflcbeeghoaa.Hk Go.Proofs.Ytkgbflcbeeghoaa.TriePure

/-- A trie with the blocks in which its nodes lie. -/
inductive N where
  | nil
  | node (b : Nat) (c : UInt8) (l m r : N) (v : Int) (ok : Bool)
def N.ptr : N → Value
  | .nil => .pointer none
  | .node b _ _ _ _ _ _ => .pointer (some ⟨b, 0, none⟩)
def N.raw : N → T
  | .nil => .nil
  | .node _ c l m r v ok => .node c l.raw m.raw r.raw v ok
def N.ids : N → List Nat
  | .nil => []
  | .node b _ l m r _ _ => b :: (l.ids ++ (m.ids ++ r.ids))
abbrev cells (c : UInt8) (l m r : Value) (v : Int) (ok : Bool) : Array Value := #[.int .u8 (c.toNat : Int), l, m, r, .int .i64 v, .bool ok]
def N.In (w : World) : N → Prop
  | .nil => True
  | .node b c l m r v ok => Blk w b (cells c l.ptr m.ptr r.ptr v ok) 115 ∧ l.In w ∧ m.In w ∧ r.In w
theorem N.ptr_some (t : N) : ∃ u, t.ptr = .pointer u := by cases t <;> exact ⟨_, rfl⟩
theorem N.In.lt {w : World} : ∀ {t : N}, t.In w → ∀ b ∈ t.ids, b < w.heap.size
  | .nil, _, b, h => by simp [N.ids] at h
  | .node _ _ _ _ _ _ _, ⟨h1, h2, h3, h4⟩, b, h => by
    rcases List.mem_cons.1 h with e | h
    · rw [e]; exact h1.lt
    · rcases List.mem_append.1 h with h | h
      · exact N.In.lt h2 b h
      · rcases List.mem_append.1 h with h | h
        · exact N.In.lt h3 b h
        · exact N.In.lt h4 b h
theorem N.In.fr {S : Nat → Prop} {w w' : World} (hf : Fr S w w') : ∀ {t : N}, t.In w → (∀ b ∈ t.ids, ¬ S b) → t.In w'
  | .nil, _, _ => trivial
  | .node b _ _ _ _ _ _, ⟨h1, h2, h3, h4⟩, hn =>
    ⟨h1.fr hf (hn b (by simp [N.ids])), N.In.fr hf h2 (fun x hx => hn x (by simp [N.ids, hx])), N.In.fr hf h3 (fun x hx => hn x (by simp [N.ids, hx])), N.In.fr hf h4 (fun x hx => hn x (by simp [N.ids, hx]))⟩
theorem N.In.below {w w' : World} {t : N} (h : t.In w) (hB : Below w.heap.size w w') : t.In w' := h.fr (Fr.new (Z := fun _ => False) hB) (fun _ _ e => e)
/-- The parts of a node lie apart. -/
structure Apart (b : Nat) (l m r : N) : Prop where
  bl : b ∉ l.ids
  bm : b ∉ m.ids
  br : b ∉ r.ids
  nl : l.ids.Nodup
  nm : m.ids.Nodup
  nr : r.ids.Nodup
  lm : ∀ x ∈ l.ids, x ∉ m.ids
  lr : ∀ x ∈ l.ids, x ∉ r.ids
  mr : ∀ x ∈ m.ids, x ∉ r.ids
theorem apart_iff {b : Nat} {c : UInt8} {l m r : N} {v : Int} {ok : Bool} : (N.node b c l m r v ok).ids.Nodup ↔ Apart b l m r := by
  show (b :: (l.ids ++ (m.ids ++ r.ids))).Nodup ↔ _
  rw [List.nodup_cons, List.nodup_append, List.nodup_append]
  constructor
  · rintro ⟨h1, h2, ⟨h3, h4, h5⟩, h6⟩
    exact ⟨fun h => h1 (by simp [h]), fun h => h1 (by simp [h]), fun h => h1 (by simp [h]), h2, h3, h4, fun x hx hy => h6 x hx x (by simp [hy]) rfl, fun x hx hy => h6 x hx x (by simp [hy]) rfl, fun x hx hy => h5 x hx x hy rfl⟩
  · rintro ⟨h1, h2, h3, h4, h5, h6, h7, h8, h9⟩
    refine ⟨fun h => ?_, h4, ⟨h5, h6, fun x hx y hy e => h9 x hx (e ▸ hy)⟩, fun x hx y hy e => ?_⟩
    · rcases List.mem_append.1 h with h | h
      · exact h1 h
      · rcases List.mem_append.1 h with h | h
        · exact h2 h
        · exact h3 h
    · subst e
      rcases List.mem_append.1 hy with h | h
      · exact h7 x hx h
      · exact h8 x hx h
structure Good (base : Nat) (w : World) (t : N) : Prop where
  mem : t.In w
  nodup : t.ids.Nodup
  above : ∀ b ∈ t.ids, base ≤ b
/-- A trie turned into another one: only its own blocks, and new ones. -/
structure Put (t t' : N) (w w' : World) : Prop where
  mem : t'.In w'
  nodup : t'.ids.Nodup
  ids : ∀ x ∈ t'.ids, x ∈ t.ids ∨ w.heap.size ≤ x
  fr : Fr (· ∈ t.ids) w w'
section
variable {base : Nat} {w w1 w2 : World} {t t' : N}
theorem Good.below (g : Good base w t) (hB : Below w.heap.size w w1) : Good base w1 t := ⟨g.mem.below hB, g.nodup, g.above⟩
theorem Put.good (h : Put t t' w w1) (g : Good base w t) (hb : base ≤ w.heap.size) : Good base w1 t' := ⟨h.mem, h.nodup, fun x hx => by
  rcases h.ids x hx with e | e
  · exact g.above x e
  · omega⟩
theorem Put.refl (g : Good base w t) : Put t t w w := ⟨g.mem, g.nodup, fun _ hx => .inl hx, Fr.refl _ _⟩
theorem Good.part_l {b : Nat} {c : UInt8} {l m r : N} {v : Int} {ok : Bool} (g : Good base w (.node b c l m r v ok)) : Good base w l :=
  ⟨g.mem.2.1, (apart_iff.1 g.nodup).nl, fun x hx => g.above x (by simp [N.ids, hx])⟩
/-- A part turned, and set in its place. -/
theorem Put.set_l {b : Nat} {c : UInt8} {l m r l' : N} {v : Int} {ok : Bool} (g : Good base w (.node b c l m r v ok)) (h : Put l l' w w1) :
    Blk w1 b (cells c l.ptr m.ptr r.ptr v ok) 115 ∧ Put (.node b c l m r v ok) (.node b c l' m r v ok) w (w1.setCell ⟨b, 1, none⟩ l'.ptr) := by
  have a := apart_iff.1 g.nodup
  have hlt := g.mem.lt
  have hb : b < w.heap.size := hlt b (by simp [N.ids])
  have hk : Blk w1 b (cells c l.ptr m.ptr r.ptr v ok) 115 := g.mem.1.fr h.fr a.bl
  have hbn : b ∉ l'.ids := fun hx => by
    rcases h.ids b hx with e | e
    · exact a.bl e
    · omega
  have F2 : Fr (· = b) w1 (w1.setCell ⟨b, 1, none⟩ l'.ptr) := Fr.one
  have sep : ∀ q : N, (∀ x ∈ q.ids, x < w.heap.size) → (∀ x ∈ l.ids, x ∉ q.ids) → ∀ x ∈ l'.ids, x ∉ q.ids := fun q hq hd x hx hy => by
    rcases h.ids x hx with e | e
    · exact hd x e hy
    · have := hq x hy; omega
  have in2 : ∀ q : N, q.In w → (∀ x ∈ q.ids, x ∉ l.ids) → b ∉ q.ids → q.In (w1.setCell ⟨b, 1, none⟩ l'.ptr) := fun q hq hd hbq => (hq.fr h.fr hd).fr F2 (fun x hx e => hbq (e ▸ hx))
  refine ⟨hk, ⟨hk.set 1 _, h.mem.fr F2 (fun x hx e => hbn (e ▸ hx)), in2 m g.mem.2.2.1 (fun x hx hy => a.lm x hy hx) a.bm, in2 r g.mem.2.2.2 (fun x hx hy => a.lr x hy hx) a.br⟩, apart_iff.2 ⟨hbn, a.bm, a.br, h.nodup, a.nm, a.nr, ?_, ?_, ?_⟩, fun x hx => ?_, (h.fr.mono (fun x _ hx => by simp [N.ids, hx])).trans (F2.mono (fun x _ e => by rw [e]; simp [N.ids])) (fun _ _ e => e)⟩
  · exact sep m (fun x hx => hlt x (by simp [N.ids, hx])) a.lm
  · exact sep r (fun x hx => hlt x (by simp [N.ids, hx])) a.lr
  · exact a.mr
  · simp only [N.ids, List.mem_cons, List.mem_append] at hx ⊢
    rcases hx with e | e | e | e
    · exact .inl (.inl e)
    · rcases h.ids x e with e | e
      · exact .inl (by simp [e])
      · exact .inr e
    · exact .inl (by simp [e])
    · exact .inl (by simp [e])
theorem Good.part_m {b : Nat} {c : UInt8} {l m r : N} {v : Int} {ok : Bool} (g : Good base w (.node b c l m r v ok)) : Good base w m :=
  ⟨g.mem.2.2.1, (apart_iff.1 g.nodup).nm, fun x hx => g.above x (by simp [N.ids, hx])⟩
/-- A part turned, and set in its place. -/
theorem Put.set_m {b : Nat} {c : UInt8} {l m r m' : N} {v : Int} {ok : Bool} (g : Good base w (.node b c l m r v ok)) (h : Put m m' w w1) :
    Blk w1 b (cells c l.ptr m.ptr r.ptr v ok) 115 ∧ Put (.node b c l m r v ok) (.node b c l m' r v ok) w (w1.setCell ⟨b, 2, none⟩ m'.ptr) := by
  have a := apart_iff.1 g.nodup
  have hlt := g.mem.lt
  have hb : b < w.heap.size := hlt b (by simp [N.ids])
  have hk : Blk w1 b (cells c l.ptr m.ptr r.ptr v ok) 115 := g.mem.1.fr h.fr a.bm
  have hbn : b ∉ m'.ids := fun hx => by
    rcases h.ids b hx with e | e
    · exact a.bm e
    · omega
  have F2 : Fr (· = b) w1 (w1.setCell ⟨b, 2, none⟩ m'.ptr) := Fr.one
  have sep : ∀ q : N, (∀ x ∈ q.ids, x < w.heap.size) → (∀ x ∈ m.ids, x ∉ q.ids) → ∀ x ∈ m'.ids, x ∉ q.ids := fun q hq hd x hx hy => by
    rcases h.ids x hx with e | e
    · exact hd x e hy
    · have := hq x hy; omega
  have in2 : ∀ q : N, q.In w → (∀ x ∈ q.ids, x ∉ m.ids) → b ∉ q.ids → q.In (w1.setCell ⟨b, 2, none⟩ m'.ptr) := fun q hq hd hbq => (hq.fr h.fr hd).fr F2 (fun x hx e => hbq (e ▸ hx))
  refine ⟨hk, ⟨hk.set 2 _, in2 l g.mem.2.1 (fun x hx hy => a.lm x hx hy) a.bl, h.mem.fr F2 (fun x hx e => hbn (e ▸ hx)), in2 r g.mem.2.2.2 (fun x hx hy => a.mr x hy hx) a.br⟩, apart_iff.2 ⟨a.bl, hbn, a.br, a.nl, h.nodup, a.nr, ?_, ?_, ?_⟩, fun x hx => ?_, (h.fr.mono (fun x _ hx => by simp [N.ids, hx])).trans (F2.mono (fun x _ e => by rw [e]; simp [N.ids])) (fun _ _ e => e)⟩
  · exact fun x hx hy => sep l (fun x hx => hlt x (by simp [N.ids, hx])) (fun x hx hy => a.lm x hy hx) x hy hx
  · exact a.lr
  · exact sep r (fun x hx => hlt x (by simp [N.ids, hx])) a.mr
  · simp only [N.ids, List.mem_cons, List.mem_append] at hx ⊢
    rcases hx with e | e | e | e
    · exact .inl (.inl e)
    · exact .inl (by simp [e])
    · rcases h.ids x e with e | e
      · exact .inl (by simp [e])
      · exact .inr e
    · exact .inl (by simp [e])
theorem Good.part_r {b : Nat} {c : UInt8} {l m r : N} {v : Int} {ok : Bool} (g : Good base w (.node b c l m r v ok)) : Good base w r :=
  ⟨g.mem.2.2.2, (apart_iff.1 g.nodup).nr, fun x hx => g.above x (by simp [N.ids, hx])⟩
/-- A part turned, and set in its place. -/
theorem Put.set_r {b : Nat} {c : UInt8} {l m r r' : N} {v : Int} {ok : Bool} (g : Good base w (.node b c l m r v ok)) (h : Put r r' w w1) :
    Blk w1 b (cells c l.ptr m.ptr r.ptr v ok) 115 ∧ Put (.node b c l m r v ok) (.node b c l m r' v ok) w (w1.setCell ⟨b, 3, none⟩ r'.ptr) := by
  have a := apart_iff.1 g.nodup
  have hlt := g.mem.lt
  have hb : b < w.heap.size := hlt b (by simp [N.ids])
  have hk : Blk w1 b (cells c l.ptr m.ptr r.ptr v ok) 115 := g.mem.1.fr h.fr a.br
  have hbn : b ∉ r'.ids := fun hx => by
    rcases h.ids b hx with e | e
    · exact a.br e
    · omega
  have F2 : Fr (· = b) w1 (w1.setCell ⟨b, 3, none⟩ r'.ptr) := Fr.one
  have sep : ∀ q : N, (∀ x ∈ q.ids, x < w.heap.size) → (∀ x ∈ r.ids, x ∉ q.ids) → ∀ x ∈ r'.ids, x ∉ q.ids := fun q hq hd x hx hy => by
    rcases h.ids x hx with e | e
    · exact hd x e hy
    · have := hq x hy; omega
  have in2 : ∀ q : N, q.In w → (∀ x ∈ q.ids, x ∉ r.ids) → b ∉ q.ids → q.In (w1.setCell ⟨b, 3, none⟩ r'.ptr) := fun q hq hd hbq => (hq.fr h.fr hd).fr F2 (fun x hx e => hbq (e ▸ hx))
  refine ⟨hk, ⟨hk.set 3 _, in2 l g.mem.2.1 (fun x hx hy => a.lr x hx hy) a.bl, in2 m g.mem.2.2.1 (fun x hx hy => a.mr x hx hy) a.bm, h.mem.fr F2 (fun x hx e => hbn (e ▸ hx))⟩, apart_iff.2 ⟨a.bl, a.bm, hbn, a.nl, a.nm, h.nodup, ?_, ?_, ?_⟩, fun x hx => ?_, (h.fr.mono (fun x _ hx => by simp [N.ids, hx])).trans (F2.mono (fun x _ e => by rw [e]; simp [N.ids])) (fun _ _ e => e)⟩
  · exact a.lm
  · exact fun x hx hy => sep l (fun x hx => hlt x (by simp [N.ids, hx])) (fun x hx hy => a.lr x hy hx) x hy hx
  · exact fun x hx hy => sep m (fun x hx => hlt x (by simp [N.ids, hx])) (fun x hx hy => a.mr x hy hx) x hy hx
  · simp only [N.ids, List.mem_cons, List.mem_append] at hx ⊢
    rcases hx with e | e | e | e
    · exact .inl (.inl e)
    · exact .inl (by simp [e])
    · exact .inl (by simp [e])
    · rcases h.ids x e with e | e
      · exact .inl (by simp [e])
      · exact .inr e
/-- .. where nothing below has turned. -/
theorem Put.cell {b i : Nat} {u : Value} {c c' : UInt8} {l m r : N} {v v' : Int} {ok ok' : Bool} (g : Good base w (.node b c l m r v ok)) (hk : (cells c l.ptr m.ptr r.ptr v ok).setIfInBounds i u = cells c' l.ptr m.ptr r.ptr v' ok') :
    Put (.node b c l m r v ok) (.node b c' l m r v' ok') w (w.setCell ⟨b, i, none⟩ u) := by
  have a := apart_iff.1 g.nodup
  have F2 : Fr (· = b) w (w.setCell ⟨b, i, none⟩ u) := Fr.one
  have h1 := g.mem.1.set i u
  rw [hk] at h1
  exact ⟨⟨h1, g.mem.2.1.fr F2 (fun x hx e => a.bl (e ▸ hx)), g.mem.2.2.1.fr F2 (fun x hx e => a.bm (e ▸ hx)), g.mem.2.2.2.fr F2 (fun x hx e => a.br (e ▸ hx))⟩, apart_iff.2 a, fun x hx => .inl hx, F2.mono (fun x _ e => by rw [e]; simp [N.ids])⟩
theorem Put.then {t'' : N} (h : Put t t' w w1) (k : Put t' t'' w1 w2) : Put t t'' w w2 :=
  ⟨k.mem, k.nodup, fun x hx => by
    rcases k.ids x hx with e | e
    · exact h.ids x e
    · exact .inr (Nat.le_trans h.fr.size e), h.fr.trans k.fr (fun x hx e => by
    rcases h.ids x e with e | e
    · exact e
    · omega)⟩
end
/-- A word's rest, from a place on. -/
def suf (s : ByteArray) (d : Nat) : List UInt8 := s.data.toList.drop d
theorem suf_cons (s : ByteArray) (d : Nat) (h : d < s.size) : suf s d = s[d] :: suf s (d + 1) := List.drop_eq_getElem_cons (by simpa using h)
theorem suf_nil (s : ByteArray) (d : Nat) (h : s.size ≤ d) : suf s d = [] := List.drop_eq_nil_of_le (by simpa using h)
/-- The node that a search comes to. -/
def N.sub : N → List UInt8 → N
  | .nil, _ => .nil
  | .node _ _ _ _ _ _ _, [] => .nil
  | .node b c l m r v ok, k :: ks => if k < c then l.sub (k :: ks) else if c < k then r.sub (k :: ks) else match ks with
    | [] => .node b c l m r v ok
    | k2 :: ks2 => m.sub (k2 :: ks2)
theorem sub_raw : ∀ (t : N) (ks : List UInt8), (t.sub ks).raw = t.raw.get ks
  | .nil, _ => rfl
  | .node _ _ _ _ _ _ _, [] => rfl
  | .node b c l m r v ok, [k] => by
    show (if k < c then l.sub [k] else if c < k then r.sub [k] else N.node b c l m r v ok).raw = T.get (.node c l.raw m.raw r.raw v ok) [k]
    rw [T.get_one]
    split
    · exact sub_raw l _
    · split
      · exact sub_raw r _
      · rfl
  | .node b c l m r v ok, k :: k2 :: ks => by
    show (if k < c then l.sub (k :: k2 :: ks) else if c < k then r.sub (k :: k2 :: ks) else m.sub (k2 :: ks)).raw = T.get (.node c l.raw m.raw r.raw v ok) (k :: k2 :: ks)
    rw [T.get_more]
    split
    · exact sub_raw l _
    · split
      · exact sub_raw r _
      · exact sub_raw m _
theorem sub_in {w : World} : ∀ (t : N) (ks : List UInt8), t.In w → (t.sub ks).In w
  | .nil, _, _ => trivial
  | .node _ _ _ _ _ _ _, [], _ => trivial
  | .node b c l m r v ok, [k], h => by
    show (if k < c then l.sub [k] else if c < k then r.sub [k] else N.node b c l m r v ok).In w
    split
    · exact sub_in l _ h.2.1
    · split
      · exact sub_in r _ h.2.2.2
      · exact h
  | .node b c l m r v ok, k :: k2 :: ks, h => by
    show (if k < c then l.sub (k :: k2 :: ks) else if c < k then r.sub (k :: k2 :: ks) else m.sub (k2 :: ks)).In w
    split
    · exact sub_in l _ h.2.1
    · split
      · exact sub_in r _ h.2.2.2
      · exact sub_in m _ h.2.2.1

set_option maxHeartbeats 4000000 in
set_option maxRecDepth 100000 in
theorem get_any (s : ByteArray) (Tb : Option Addr) (hs : s.size ≤ 1099511627776) : ∀ (t : N) (d : Nat) (w : World), t.In w → d < s.size →
    Calls Try.prog 63 #[.pointer Tb, t.ptr, .string s, .int .i64 (d : Int)] w fun e w' => e = .returned (t.sub (suf s d)).ptr ∧ w' = w
  | .nil, d, w, _, hd => by
    show Calls Try.prog 63 #[.pointer Tb, .pointer none, .string s, .int .i64 (d : Int)] w _
    go_enter Try.func63, Try.ntmps63
    go_wp2_with fail
    go_ret
    exact ⟨rfl, rfl⟩
  | .node b c l m r v ok, d, w, hin, hd => by
    have HI := hid hin
    have HS := hid hs
    have e0 : (s.size == 0) = false := beq_eq_false_iff_ne.2 (by omega)
    have e1 : ((s.size : Int) == 0) = false := beq_eq_false_iff_ne.2 (by omega)
    have c0 : w.cell? ⟨b, 0, none⟩ = some (.int .u8 (c.toNat : Int)) := hin.1.cell 0
    have c1 : w.cell? ⟨b, 1, none⟩ = some l.ptr := hin.1.cell 1
    have c2 : w.cell? ⟨b, 2, none⟩ = some m.ptr := hin.1.cell 2
    have c3 : w.cell? ⟨b, 3, none⟩ = some r.ptr := hin.1.cell 3
    have HD := hid hd
    have HX := hid (suf_cons s d hd)
    clear hin
    show Calls Try.prog 63 #[.pointer Tb, .pointer (some ⟨b, 0, none⟩), .string s, .int .i64 (d : Int)] w _
    by_cases h1 : s[d] < c
    · have h1' : s[d].toNat < c.toNat := u_lt.1 h1
      have h1i : decide ((s[d].toNat : Int) < (c.toNat : Int)) = true := decide_eq_true (by omega)
      have h1n : decide (s[d].toNat < c.toNat) = true := decide_eq_true h1'
      have HR : Hid ((N.node b c l m r v ok).sub (suf s d) = l.sub (suf s d)) := by
        rw [HX.out]; exact hid (if_pos h1)
      clear h1
      go_enter Try.func63, Try.ntmps63
      go_wp2_with fail
      refine (get_any s Tb HS.out l d w HI.out.2.1 HD.out).mono ?_
      rintro e w1 ⟨rfl, rfl⟩
      go_wp2_with fail
      go_ret
      exact ⟨by rw [HR.out]; rfl, rfl⟩
    by_cases h2 : c < s[d]
    · have h2' : c.toNat < s[d].toNat := u_lt.1 h2
      have h1i : decide ((s[d].toNat : Int) < (c.toNat : Int)) = false := decide_eq_false (by omega)
      have h1n : decide (s[d].toNat < c.toNat) = false := decide_eq_false (by omega)
      have h2i : decide ((c.toNat : Int) < (s[d].toNat : Int)) = true := decide_eq_true (by omega)
      have h2n : decide (c.toNat < s[d].toNat) = true := decide_eq_true h2'
      have h1' : ¬ s[d].toNat < c.toNat := by omega
      have HR : Hid ((N.node b c l m r v ok).sub (suf s d) = r.sub (suf s d)) := by
        rw [HX.out]; exact hid ((if_neg h1).trans (if_pos h2))
      clear h1 h2
      go_enter Try.func63, Try.ntmps63
      go_wp2_with fail
      refine (get_any s Tb HS.out r d w HI.out.2.2.2 HD.out).mono ?_
      rintro e w1 ⟨rfl, rfl⟩
      go_wp2_with fail
      go_ret
      exact ⟨by rw [HR.out]; rfl, rfl⟩
    have h1' : ¬ s[d].toNat < c.toNat := fun e => h1 (u_lt.2 e)
    have h2' : ¬ c.toNat < s[d].toNat := fun e => h2 (u_lt.2 e)
    have h1i : decide ((s[d].toNat : Int) < (c.toNat : Int)) = false := decide_eq_false (by omega)
    have h1n : decide (s[d].toNat < c.toNat) = false := decide_eq_false h1'
    have h2i : decide ((c.toNat : Int) < (s[d].toNat : Int)) = false := decide_eq_false (by omega)
    have h2n : decide (c.toNat < s[d].toNat) = false := decide_eq_false h2'
    by_cases h3 : d + 1 < s.size
    · have h3i : decide ((d : Int) < (s.size : Int) - 1) = true := decide_eq_true (by omega)
      have h3' : (d : Int) < (s.size : Int) - 1 := by omega
      have HR : Hid ((N.node b c l m r v ok).sub (suf s d) = m.sub (suf s (d + 1))) := by
        rw [HX.out, suf_cons s (d + 1) h3]; exact hid ((if_neg h1).trans (if_neg h2))
      have H3 := hid h3
      clear h1 h2 h3
      go_enter Try.func63, Try.ntmps63
      go_wp2_with fail
      refine (get_any s Tb HS.out m (d + 1) w HI.out.2.2.1 H3.out).mono ?_
      rintro e w1 ⟨rfl, rfl⟩
      go_wp2_with fail
      go_ret
      exact ⟨by rw [HR.out]; rfl, rfl⟩
    · have h3i : decide ((d : Int) < (s.size : Int) - 1) = false := decide_eq_false (by omega)
      have h3' : ¬ (d : Int) < (s.size : Int) - 1 := by omega
      have HR : Hid ((N.node b c l m r v ok).sub (suf s d) = .node b c l m r v ok) := by
        rw [HX.out, suf_nil s (d + 1) (by omega)]; exact hid ((if_neg h1).trans (if_neg h2))
      clear h1 h2 h3
      go_enter Try.func63, Try.ntmps63
      go_wp2_with fail
      go_ret
      exact ⟨by rw [HR.out]; rfl, rfl⟩
end Go.Proofs.Ytkgbflcbeeghoaa.Trie
